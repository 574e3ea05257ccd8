import PyProof.Rows.All
import Wide.All
import OpenK.AllK
import Wide.FinOn
import PySem.Challenge.RW_wb0115_01
set_option Elab.async false
set_option linter.all false
set_option compiler.extract_closed false
set_option genSizeOf false
set_option genInjectivity false
set_option maxRecDepth 100000
set_option maxHeartbeats 4000000
namespace Mine
open PySem.Str renaming ofString→ae
open PySem renaming wpAny_bind→af,wpAny_pure→ag,model→aq,wpAny→ay,recursionLimit→aH,wpAny_truthy_bool→aY,builtinLookup_eq_fast→bu,wpAny_holding→bA,wpAny_of_eq→bN,starEach→bV,foldedSetIterable→bW,wpAny_isTrue_Compare1→bX,wpAny_mono→cg,typeLookup_type→cr,sysModules→cN,cLine→cT,valueAt→cX,assignEach→da,assign→de,isSubtype_type→dr,codeAny→dH,wpAny_BinOp→dX,sizeLine→dY,TriplesOk→dZ,wpAny_call_entry→ej,wpAny_call→ev,sizeLine_eq→eK,codeAny_builtin→eM,behindInMarks→eN,letTemporaryGo→eU,wpAny_execs_nil→eY,backTo→ff,wpAny_execs_cons→fh,compareOp→fi,compEnvC→fj,closureFor→fy,cellsFrom→fQ,swappedStores→fU,codeAny_call_builtin→fV,swapsWith→f0,standAt→f8,holding→gm,wpAny_rule→gv,typeLookup→gw,getMethod→gL,wpAny_Assign_Name→gO,sharingNotToldKey→gP,mainGlobals→gQ,intKind→gR,wpAny_standAt→gW,argsOk→gX,wpAny_eqBool_int→hU,wpAny_callSpecialIfBound?_slot→hZ,wpAny_callSpecial?_slot→ia,wpAny_Expr_any→ib,typeIs_int→iB,callWith→iG,plainId_quiet→iH,wpAny_Return_some→iO,wpAny_tryCatch→jc,wpAny_seqItems→jd,richCompare→je,rawInt→jf,wpAny_updateSeq→jH,notedBy→jI,getAttr→jJ,isInstance→jV,intKind_is→jW,subscripted→j4,Arguments→j8,wpAny_pyIter_list→kx,pyNext→ky,execs→kz,entryFor→kC,wpAny_isInstance→lz,PassesOwn→lG,swapsWithSole→lV,wpAny_letGo→mh,wpAny_typeOf→nE,codeAmong→nM,wpAny_tupleItemsOf→nZ,wpAny_load→n4,wpAny_Constant_int→n8,headPart→n9,cStatics→oa,wpAny_newObj_type→pN,wpAny_mkInt→pO,getItem→pP,wpAny_askSetting→qN,wpAny_Assign_two→qO,entryFor_of_tree→qP,wpAny_cRoomFor_byValue→rE,typeOf→rF,relabel→rG,pyIter→rH,letOwnedTupleGo→rN,importedModules→rO,wpAny_loadName_local→sM,wpAny_field→sP,compPost→sQ,Code→sR,specialOf→tP,operate→tQ,isSubtype→tR,builtinType_eq_fast→vc,Flow→ve,wpAny_newList→vi,wpAny_Call_Name_kw→vD,preSum→vE,Thread→vF,wpAny_assign_Name→xa,table→xb,codeAny_mono→xd,callSpecial?→xe,plainObj_wpAny_Assign_Attribute→xw,stored→yN,opaqueClassAbove→yO,noteFrame→yP,eqBool→yQ,entryFor_of_fast→yR,checkBuiltinCall→yS,wpAny_Slice→y7,interactive→y8,Walks→y9,wpAny_specialOf→Av,codeAny_of_tree→Aw,wpAny_Name→CI,defaultsOf→CJ,binaryOp→CK,am_entry_dict_getattribute→CL,wpAny_attempt→Gk,eval_ListComp→Gl,comprehension→Gm,updateSeq→GF,pushCells→GG,codeAny_call_builtin_at→GH,richCompare_meets_room→IT,denote→IU,codeAny_compLoop_tests→IV,BindsTo→I5,wpAny_storeName_local→JB,wpAny_alloc→Mn,wpAny_If→Mo,wpAny_Constant_float→Mp,slot_int_lt→Mq,evalPart→Mr,compTurn→Ms,builtinType→Mt,builtinKind→Mu,again→Mv,Operator→MD,wpAny_Constant_none→MZ,Sem→M7
open List renaming mem_cons→ak,getElem?_eq_getElem→ao,getD_eq_getElem?_getD→az,mem_singleton→aA,mem_append→aC,length_map→aE,length_append→aT,range→aU,size_toArray→aV,map_append→aX,length_reverse→bg,mem_range→bD,getElem_mem→bG,toArray→bO,getElem?_eq_some_iff→bP,not_mem_nil→bT,length_filter_le→bU,mem_filter→bY,pairwise_iff_getElem→ce,mem_of_getElem?→cq,getElem_map→cG,filter_append→cH,take_length→cP,length_range→db,length_singleton→df,pairwise_cons→dW,mem_map→eg,length→eE,length_take→eJ,getElem?_map→eO,filter→eP,length_drop→eV,forall_mem_cons→eW,take_add_one→fo,mem_reverse→fB,filter_cons→fC,cons_append→fE,mem_map_of_mem→fX,map→fY,all_eq_true→gj,range_succ→gx,mem_of_mem_take→gz,mem_of_mem_drop→gA,mem_cons_of_mem→gB,pairwise_singleton→gS,length_cons→gT,nil_append→ik,append_nil→im,mem_append_right→iy,map_map→iQ,reverse_perm→jK,pairwise_map→jL,append_assoc→jM,pairwise_reverse→kj,count→kn,map_cons→kH,getElem_reverse→kO,getElem_of_mem→lL,getElem?_range→lO,take→my,replicate→mD,getElem_range→mE,filter_congr→nG,ext_getElem→ou,take_of_length_le→pT,take_succ→qW,pairwise_append→qX,mem_append_left→qY,map_congr_left→rR,filter_eq_self→rS,getElem?_drop→sG,take_succ_eq_append_getElem→tW,getElem?_inj→tX,map_reverse→vk,nodup_cons→wy,forIn_cons→wz,filter_map→wA,getElem?_append_right→xC,getElem?_eq_none_iff→yX,getElem?_append_left→yY,length_pos_of_mem→Bz,forall_mem_append→BA,find?_cons_of_neg→BC,filter_eq_nil_iff→BD,take_append_drop→CW,getElem?_toArray→CX,getElem?_eq_none→CZ,eq_nil_or_concat→C0,concat_eq_append→C1,reverse_reverse→Df,count_le_length→Dg,zip_eq_zipWith→Gs,replicate_succ→Gu,getElem?_take→GP,nodup_range→JG,map_snd_zip→JH,drop_length→JI,count_cons→MJ,drop_zero→Nc,drop_drop→Nd
open PyProof.Rows renaming IntsAre→au,args_cons→aI,News→ba,assignInOrder_cons→be,args_nil→bJ,seqObj→cE,AllBare→du,assignInOrder_nil→fz,get?_update_seq→fA,Call_→gq,MethodCall_→ix,next_is_new→jh,callWith_method1→lK,Subscript_→og,Attribute_any_→oh,rangeSize_nat→pX,listUpdate_at→pY,bindName_→qT,Below→qU,pairsOf→rL,locs→ss,callWith_type1→su,seqEpoch_at→sW,Assign_Tuple_swapped→sX,assign_Name→tV,isTrue_and→vJ,assign_Tuple_tuple→vL,Tuple_→vM,isTrue_plain→xo,Gen→ze,entry_list_sort→Az,slot_list_sort→Bx,callWith_type0→By,unpackItemsN_→Gp,keyLt'→I6,Assign_Tuple→I7,kmb_news→MH
open Nat renaming le_trans→aw,ne_of_lt→aB,ne_of_gt→aF,lt_succ_self→aJ,lt_of_le_of_lt→aK,le_of_lt→aL,lt_of_lt_of_le→aN,lt_trans→aO,le_refl→aR,lt_succ_of_lt→aW,add_le_add_left→bq,le_add_right→bx,lt_of_succ_le→bB,lt_of_not_le→cI,le_of_not_lt→cJ,zero_le→c7,lt_irrefl→c8,le_of_ble_eq_true→dw,le_succ_of_le→dI,eq_of_beq_eq_true→ef,compare_eq_eq→eu,lt_add_of_pos_right→eA,mul_assoc→eG,add_le_add_right→eZ,mul_lt_mul_of_pos_right→fc,le_of_eq→fu,succ_add_eq_add_succ→fN,le_add_left→gy,succ_pos→gE,compare_eq_lt→gF,succ_le_succ→gY,zero_add→ie,beq→ii,le_antisymm→iw,le_of_succ_le→iE,min_le_left→jv,sub_le→jy,blt_eq→jz,succ_le_of_lt→jX,lt_trichotomy→jY,le_max_right→kG,add_assoc→kL,mul_le_mul_right→lg,le_sub_one_of_lt→lh,mul_comm→mq,add_comm→mu,lt_of_mul_lt_mul_right→nc,lt_of_le_of_ne→ng,le_of_lt_succ→nN,compare_eq_gt→nO,zero_lt_succ→oY,blt→pZ,min_eq_left→qq,lt_or_gt_of_ne→sY,min_eq_right→vN,not_lt_zero→xq,max_eq_left→xr,le_max_left→xt,add_lt_add_iff_right→AA,lt_or_ge→CS,lt_of_succ_lt_succ→CT,le_of_succ_le_succ→CU,ble→CV,sub_lt_sub_right→Gq,add_lt_add_right→Gr,sub_lt_sub_left→GO,not_lt→I8,lt_succ_of_le→JF,max_eq_right→MI
open PySem.Heap renaming get?_push_of_some→aG,get?_push_size→a9,lt_size→bM,size_push→gk,get?_none_of_le→Dd,ExtBut→De,get?_push_ne→I4
open LT renaming lt→aP
open PyProof.Rows.LCg renaming lst→bz,SrcAt→Nb
open Int renaming toNat_natCast→bC,le_refl→bZ,natCast_nonneg→cb,le_trans→cj,ofNat_le→dk,toNat_of_nonneg→dA,natCast_mul→dC,sub_nonneg_of_le→dU,lt_of_le_of_lt→eF,le_add_of_nonneg_right→fw,zero_add→fO,add_comm→gf,ofNat_lt→gG,mul_right_comm→ij,fdiv_eq_ediv_of_nonneg→iM,le_of_lt→iV,add_zero→iW,natCast_add→jw,lt_trans→jZ,add_assoc→kP,add_le_add_right→ll,sub_eq_add_neg→nh,sub_add_cancel→ni,fmod_eq_emod_of_nonneg→nq,le_add_of_nonneg_left→nH,lt_irrefl→om,ofNat→oZ,le_of_eq→qd,add_nonneg→yZ,mul_assoc→AB,zero_mul→C3,toNat_le→C4,ne_of_gt→C5,mul_add→Gv,toNat_lt_toNat→I9,natAbs→Ja,lt_of_lt_of_le→Jb,lt_trichotomy→JJ,compare_eq_gt→JK,toNat→ML,lt_of_not_ge→MM,le_antisymm→Nf
open PySem.Float64 renaming ofInt→bE,cmp→cV,cmpInt→fG,mul→fW,div→ji,ofFrac→lH,sub→mz,isInf→nb,ofInt_fits→rK,isZero→vG,decode→vH,sgn→M8,add→M9
open PySem.Value renaming ref→bF,int→fn,builtin→jg,float→ju,type→oX,bool→Go
open Bool renaming noConfusion→bH,and_eq_true→dE,and_eq_true_iff→gC,false_eq_true→g9,or_eq_true→io,false_ne_true→GR,eq_false_iff→Jd
open PySem.Obj renaming mapSeq→bI,data_mapFields→I3
open Eq renaming refl→bR
open PySem.W renaming tabObj→bS,instObj→cY,findIn→fF,methodObj→f9,ktrTop→ic,kup_newTuple→iC,Looks→iP,looks_findIn→jr,kms_pick→jE,looks_mroIn→j6,mroIn→lm,keepIn→lB,dictOf→lE,callWith_K→lF,SharedT→lW,UnrPostW→mj,kla_obj→nF,binds_K→pQ,handedIn→qQ,ItemsRest→qR,For_turns→qS,check_slot→rJ,leaveK_→tS,plainGet→xf,code_def→xg,UpdF→xh,newList_K→yT,envX→yU,looks_clsIn→zd,getL→Ax,opening→Bw,topRead_of→CM,set_dict→CN,iter_listTurns→CO,kms_slice_lit→Gn,clsIn→GI,kas_rev→IW,UnrEndW→IX,SubL→IY,CodeHd→IZ,news_set→Mw,method_inst→Mx,kat_cons→My,fnOf→Mz,codeHd_of_K→MA,callWith_K0→MC
open Pure renaming pure→ck
open PySem.Heap.SameBut renaming update→cu
open PySem.Challenge renaming rw_wb0115_01→cF,pw_wb0115_01→jt
open Ordering renaming eq→dh,lt→kb,gt→pS
open PySem.BindsTo renaming of_eq→dB
open Option.some renaming inj→dJ
open PySem.Builtin.Range renaming small→dL,rangeSize→lI
open PySem.Code renaming quiet_builtin→eS,builtin→pR
open PySem.Around renaming under_plainId→fH
open PySem.Builtin renaming bitAnd→gc
open PySem.W.InstAt renaming of_news→gh
open PySem.PyData renaming keyHash→gi,depth→sD,canLayAll0→sF,depthAll→vj,canLay0→wx
open PySem.Builtin.List renaming listItems→gH,listExtendWith→j7,listUpdate→lX,listSameRef→tU
open PySem.W.Fast renaming tw4202317264376624991→iI,tw11892475500146522536→xk,tw10156331382660048174→xl
open PySem.Manifest renaming signature?→iJ,varargsMethods→xm
open Array renaming getElem?_toList→kc,toList_reverse→kI,getD_eq_getD_getElem?→lP,toList_zip→oo,toList_inj→oq,getElem_toList→qV,toList_map→vg,any→zf,length_toList→Dh,getD→Gw
open PySem.W.Looks renaming ld→kE,of_pure→rP
open PySem.MeetsSeq3 renaming plain_eq_loop→mZ,entry_eq_loop→m7
open ForInStep renaming yield→nP
open PyProof.Rows.SortSt renaming mk'→ot
open False renaming elim→pd
open List.Pairwise renaming nil→qc
open PySem.isSame renaming created→qp
open PySem.Walks renaming list→sr
open PySem.AutoFloatOps renaming typeIs_float→sU,truediv_fi_2→sV,le_0→yV,eq_0→yW
open PySem.Bind renaming madeBy→vI,checkArgs→xz,staticBase→MG
open PySem.W.FnAt renaming of→xj
open PySem.Calls renaming Name_function_global→xn,call_function_entry→xx
open PyProof.Rows.LCp.CompRestP renaming succ→xp
open PySem.AutoSeq1 renaming sub_list_list→xA
open PySem.AutoIntOps renaming truediv_2→xB
open PySem.F renaming args_dict_getattribute_2→Ay,slot_dict_getattribute→CQ
open PyProof.Rows.LCp.SrcLP renaming ledger→CR
open Array.Perm renaming refl→C6
open PySem.callAny renaming viaDunder→Dc
open UInt64 renaming toNat_inj→GD
open PySem.Value.ref renaming inj→GL
open Option renaming getD_some→GN
open ForIn renaming forIn→GQ
open Decidable renaming em→Jc
open PySem.W.Itm renaming tok→JC
open PyProof.Rows.CellsAre renaming two→JD,one→JE
open ToString renaming toString→Mm
open PySem.Builtin.Frozenset renaming withSetAsKey→ME,oneOther→MF
open PySem.Builtin.Builtins renaming bindParams→Na
open PySem
abbrev CC(env:Env)(f:PySem.Expr)(l:List PySem.Expr)(pos:Pos):Prop:=eval (.Call f l [] pos) env=(do iG pos (← eval f env) [] (ff pos (bV l env)) (backToKw pos (keywordEach [] env)))
abbrev SE(env:Env)(e:PySem.Expr)(l:List PySem.Expr):Prop:=bV (e::l) env=(false,eval e env)::bV l env
theorem zAaT(h:True:=by rfl):True:=h
def zAa:=zAaT._auto_1
theorem zAbT(h:True:=by intro _;rfl):True:=h
def zAb:=zAbT._auto_1
theorem zAcT(h:True:=by with_unfolding_all rfl):True:=h
def zAc:=zAcT._auto_1
theorem zAdT(h:True:=by decide):True:=h
def zAd:=zAdT._auto_1
theorem zAeT(h:True:=by intro _;with_unfolding_all rfl):True:=h
def zAe:=zAeT._auto_1
theorem zAfT(h:True:=by passes_own):True:=h
def zAf:=zAfT._auto_1
theorem zAgT(h:True:=by intro u;with_unfolding_all rfl):True:=h
def zAg:=zAgT._auto_1
theorem zAhT(h:True:=by intro _ _;rfl):True:=h
def zAh:=zAhT._auto_1
theorem zAiT(h:True:=by exact λ_=>dw rfl):True:=h
def zAi:=zAiT._auto_1
theorem zAjT(h:True:=by exact EL Ls (λw=>by kernel_rfl) (λw=>by kernel_rfl)):True:=h
def zAj:=zAjT._auto_1
theorem zAkT(h:True:=by exact λs e=>recFacts_of (gC.mp e).2):True:=h
def zAk:=zAkT._auto_1
theorem zAlT(h:True:=by first|assumption|decide +kernel):True:=h
def zAl:=zAlT._auto_1
theorem zAmT(h:True:=by decide +kernel):True:=h
def zAm:=zAmT._auto_1
theorem zAnT(h:True:=by exact⟨rfl,rfl,rfl,rfl,rfl,by decide +kernel⟩):True:=h
def zAn:=zAnT._auto_1
theorem zAoT(h:True:=by exact λ_=>rfl):True:=h
def zAo:=zAoT._auto_1
theorem zApT(h:True:=by exact λ_ _=>dw rfl):True:=h
def zAp:=zApT._auto_1
theorem zAqT(h:True:=by intro _ _;with_unfolding_all rfl):True:=h
def zAq:=zAqT._auto_1
theorem zArT(h:True:=by intros;rfl):True:=h
def zAr:=zArT._auto_1
theorem zT{α:Type _}{a b:α}{l:List α}(h:a∈l):a∈b::l:=gB b h
theorem zH{α:Type _}{a:α}{l:List α} : a∈a::l:=List.mem_cons_self ..
theorem zC{α:Type _}{p:α→Prop}{a:α}{l:List α}(h:p a∧∀x∈l,p x):∀x∈a::l,p x:=eW.mpr h
theorem zL{α:Type _}{a:α}{l k:List α}(h:a∈l):a∈l++k:=qY k h
theorem zR{α:Type _}{a:α}{l k:List α}(h:a∈k):a∈l++k:=iy l h
abbrev VP:=Value→Shared→Prop
abbrev FP:=ve→Shared→Prop
abbrev PE:=PySem.Expr
abbrev Sr:=PySem.Str
abbrev Lo:=PySem.Str→Option Value
abbrev Ns:=List (Addr×Obj)
section
theorem C9{a b l:Nat}(h:a+b<l):a<l:=aK (bx a b) h
theorem zJ{a b k l:Nat}(h:a+b<l)(hk:CV k b=true):a+k<l:=aK (bq (dw hk) a) h
theorem Rh{a b k j l:Nat}(h:a+b<l)(hk:CV (k+j) b=true):a+k+j<l:=kL a k j▸zJ h hk
theorem rZ{a k b:Nat}(h:a≤k)(hk:CV k b=true):a≤b:=aw h (dw hk)
theorem uw{a k b:Nat}(h:a≤k)(hk:pZ k b=true):a<b:=aK h (dw hk)
theorem Ky{a k b:Nat}(h:a=k)(hk:CV k b=true):a≤b:=h▸dw hk
theorem R5{a k b:Nat}(h:a=k)(hk:pZ k b=true):a<b:=h▸dw hk
theorem wP{a b:Nat}(h:a<b)(h2:b≤a):False:=c8 _ (aN h h2)
theorem QM{a b:Nat}(h:a<b)(h2:a=b):False:=aB h h2
theorem MR{a b:Int}(h:a<b)(h2:b≤a):False:=om _ (Jb h h2)
theorem PL{a b:Int}(h:a<b)(h2:b<a):False:=om _ (jZ h h2)
theorem PK{a b:Int}(h:a<b)(h2:a=b):False:=Int.ne_of_lt h h2
theorem Db{a b c:Nat}(e:b=c)(h:a≤c):a≤b:=e▸h
theorem Sc{a b c:Nat}(e:b=c)(h:a≤b):a≤c:=e▸h
theorem pV{a b c:Nat}(e:b=c)(h:a<c):a<b:=e▸h
theorem R8{a b c:Nat}(e:b=c)(h:a<b):a<c:=e▸h
theorem Sb{a b c:Nat}(e:b=c)(h:c≤a):b≤a:=e▸h
theorem HD{a b c:Nat}(e:b=c)(h:c<a):b<a:=e▸h
theorem Bu{m f n:Nat}(h:m+(f+1)≤n):m<n:=aN (eA (gE f)) h
theorem PP{m f n:Nat}(h:m+(f+1)≤n):m+1+f≤n:=(kL m 1 f).trans (congrArg (m + ·) (mu 1 f))▸h
theorem L9{m f n:Nat}(h:m+(f+1)=n):m<n:=Bu (fu h)
theorem Pg{m f n:Nat}(h:m+(f+1)=n):m+1+f=n:=((kL m 1 f).trans (congrArg (m + ·) (mu 1 f))).trans h
theorem Sz{m f n:Nat}(h:n≤m+1+f):n≤m+(f+1):=(kL m 1 f).trans (congrArg (m + ·) (mu 1 f))▸h
theorem Pf{m n:Nat}(h:m≤n):m+(n-m)=n:=Nat.add_sub_cancel' h
theorem RE{m n:Nat}(h:m≤n):m+(n-m)≤n:=fu (Pf h)
theorem PB{a b:Nat}(h:a<b+1)(e:¬a=b):a<b:=ng (nN h) e
theorem Oe{i j:Nat}(h:i<j)(e:¬i=j-1):i<j-1:=ng (lh h) e
theorem JV{i j:Nat}(h:i<j):j-1<j:=Nat.sub_one_lt_of_lt h
theorem JU{m n:Nat}(h:m<n):m-1<n:=aK (jy m 1) h
theorem RY{m n:Nat}(h0:0<m)(h:m≤n):m-1<n:=Nat.sub_one_lt_of_le h0 h
theorem P7{m:Nat}(h0:0<m):m≠m-1:=aF (Nat.sub_lt h0 Nat.one_pos)
theorem Rf{n i k:Nat}(h:n-i=k+1):i<n:=Nat.lt_of_sub_eq_succ h
theorem RX{n i k:Nat}(h:n-i=k+1):n-(i+1)=k:=(Nat.sub_succ n i).trans (h▸rfl)
theorem RW{n i:Nat}(h:n-i=0):n≤i:=Nat.le_of_sub_eq_zero h
theorem Rd{n i:Nat}(h:n-i=0)(h2:i≤n):i=n:=iw h2 (RW h)
theorem Oa{l r:Nat}(h:l<r):l≤(l+r)/2:=(Nat.le_div_iff_mul_le Nat.two_pos).mpr (Nat.mul_two l▸bq (aL h) l)
theorem NY{l r:Nat}(h:l<r):(l+r)/2<r:=(Nat.div_lt_iff_lt_mul Nat.two_pos).mpr (Nat.mul_two r▸Gr h r)
theorem NX{l r k:Nat}(h:l<r)(h2:r≤k):(l+r)/2<k:=aN (NY h) h2
theorem Rl{l r f:Nat}(h:r-l≤f+1)(h2:l<r):r-((l+r)/2+1)≤f:=aw (Nat.sub_le_sub_left (gY (Oa h2)) r) (Nat.sub_le_of_le_add (aw (Nat.le_add_of_sub_le h) (fu (Nat.add_right_comm f 1 l))))
theorem Rk{l r f:Nat}(h:r-l≤f+1)(h2:l<r):(l+r)/2-l≤f:=nN (aN (Gq (Oa h2) (NY h2)) h)
theorem Sj{a b:Nat}(h:a≤b):(a:Int)≤b:=dk.mpr h
theorem Le{a b:Nat}(h:a<b):(a:Int)<b:=gG.mpr h
theorem Sk{a:Int}{b:Nat}(h:a=b):a.natAbs=b:=h▸rfl
theorem Si{a b:Nat}(h:a≤b):(a:Int).natAbs≤b:=h
theorem EU{a b c:Int}(e:b=c)(h:a≤c):a≤b:=e▸h
theorem OC{a b c:Int}(e:b=c)(h:a≤b):a≤c:=e▸h
theorem Qx{a b c:Int}(e:b=c)(h:a<c):a<b:=e▸h
theorem OB{a b c:Int}(e:b=c)(h:b<a):c<a:=e▸h
theorem Sf{a:Int}{b:Nat}(h0:0≤a)(h:a<b):a.toNat<b:=(Int.toNat_lt h0).mpr h
theorem Sg{a:Int}{b:Nat}(h:a≤b):a.toNat≤b:=C4.mpr h
theorem EQ{a:Int}(h:0≤a):(a.toNat:Int)=a:=dA h
theorem its{a b:Int}(h:a≤b):((b-a).toNat:Int)=b-a:=dA (dU h)
theorem Se{a b:Int}(h0:0<b)(h:a<b):a.toNat<b.toNat:=(I9 h0).mpr h
theorem PI{a b:Int}(h:0≤b):a≤a+b:=fw h
theorem Rt{a b c:Int}(h:a≤b)(h0:0≤c):a≤b+c:=cj h (PI h0)
theorem Sm{a b:Int}(h:a<b):a+1≤b:=h
theorem Qz{a b:Int}(h:a≤b):a<b+1:=Int.lt_add_one_of_le h
theorem Sl{a b k:Int}(h:a≤b)(h0:0≤k):a-k≤b:=cj (Int.sub_le_self a h0) h
theorem Rc{i j k:Nat}(h1:i<j)(h2:j<k):k-1-j<k-1-i:=GO (aN h1 (lh h2)) h1
theorem RV{i k:Nat}(h:i<k):k-1-i<k:=aK (jy _ i) (JV h)
theorem P6{i j k:Nat}(h1:i<j)(h2:j<k+1):j-1<k:=aN (JV h1) (nN h2)
theorem RU{l i j:Nat}(h1:l<i)(h2:i<j):i-1<j-1:=Gq (jX (aK (c7 l) h1)) h2
theorem Rm{a b x:Int}(h0:a≤x)(h:x<b):(x-a).toNat<(b-a).toNat:=(I9 (Int.sub_pos_of_lt (eF h0 h))).mpr (Int.sub_lt_sub_right h a)
theorem Rp{a x:Int}(h0:a≤x):a+((x-a).toNat:Int)=x:=(its h0).symm▸(gf a (x-a)).trans (ni x a)
end
section
inductive LX|v (i:Nat)|k (c:Int)|a (x y:LX)|s (x y:LX)|m (c:Int) (x:LX)
namespace LX
noncomputable def den(c:List Int):LX→Int
 | .v i=>c.getD i 0
 | .k z=>z
 | .a x y=>x.den c+y.den c
 | .s x y=>x.den c-y.den c
 | .m z x=>z*x.den c
noncomputable def co(i:Nat):LX→Int
 | .v j=>cond (ii i j) 1 0
 | .k _=>0
 | .a x y=>x.co i+y.co i
 | .s x y=>x.co i-y.co i
 | .m z x=>z*x.co i
noncomputable def cs:LX→Int
 | .v _=>0
 | .k z=>z
 | .a x y=>x.cs+y.cs
 | .s x y=>x.cs-y.cs
 | .m z x=>z*x.cs
end LX
noncomputable def sm(f:Nat→Int):Nat→List Int→Int
 | _,[]=>0
 | j,x::r=>f j*x+sm f (j+1) r
theorem JX{f:Nat→Int}:∀{c:List Int}{j:Nat},(∀i,j≤i→f i=0)→sm f j c=0
 | [],_,_=>rfl
 | x::r,j,h=>by
  refine(?_:f j*x+sm f (j+1) r=0);rw[h j (aR _),JX λi hi=>h i (iE hi),C3];rfl
theorem Pc{a b:Nat}(h:a≠b):ii a b=false:=by cases e:ii a b with|false=>rfl|true=>exact absurd (ef e) h
theorem Nr{j:Nat}:∀{c:List Int}{i:Nat},sm (λt=>cond (ii t (i+j)) 1 0) i c=c.getD j 0
 | [],_=>rfl
 | x::r,i=>by
  cases j with
  | zero=>
   refine(?_:cond (ii i i) 1 0*x+sm (λt=>cond (ii t i) 1 0) (i+1) r=x);rw[Nat.beq_refl i,JX λt ht=>by rw[Pc (aF ht)];rfl];exact(iW _).trans (Int.one_mul x)
  | succ j=>
   refine(?_:cond (ii i (i+(j+1))) 1 0*x+sm (λt=>cond (ii t (i+(j+1))) 1 0) (i+1) r=r.getD j 0);rw[Pc (aB (eA (gE j))),show i+(j+1)=i+1+j from (Nat.succ_add i j).symm,Nr (c:=r) (i:=i+1)];exact(congrArg (· + _) (C3 x)).trans (fO _)
theorem QZ{a b c d:Int} : a+b+(c+d)=a+c+(b+d):=by rw[kP,Int.add_left_comm b,← kP]
theorem RD{a b c d:Int} : a+b-(c+d)=a-c+(b-d):=by rw[nh,Int.neg_add,QZ,nh,nh]
theorem Nw{f g:Nat→Int}:∀{c:List Int}{j:Nat},sm (λi=>f i+g i) j c=sm f j c+sm g j c
 | [],_=>rfl
 | x::r,j=>by
  refine(?_:(f j+g j)*x+sm (λi=>f i+g i) (j+1) r=f j*x+sm f (j+1) r+(g j*x+sm g (j+1) r));rw[Nw,Int.add_mul,QZ]
theorem Nt{f g:Nat→Int}:∀{c:List Int}{j:Nat},sm (λi=>f i-g i) j c=sm f j c-sm g j c
 | [],_=>rfl
 | x::r,j=>by
  refine(?_:(f j-g j)*x+sm (λi=>f i-g i) (j+1) r=f j*x+sm f (j+1) r-(g j*x+sm g (j+1) r));rw[Nt,Int.sub_mul,RD]
theorem Nv{z:Int}{f:Nat→Int}:∀{c:List Int}{j:Nat},sm (λi=>z*f i) j c=z*sm f j c
 | [],_=>(Int.mul_zero z).symm
 | x::r,j=>by
  refine(?_:z*f j*x+sm (λi=>z*f i) (j+1) r=z*(f j*x+sm f (j+1) r));rw[Nv,Gv,AB]
theorem qI{c:List Int}:∀e:LX,e.den c=e.cs+sm (λi=>e.co i) 0 c
 | .v i=>by
  have h:=@Nr i c 0;rw[ie] at h;exact h.symm.trans (fO _).symm
 | .k z=>by
  refine(?_:z=z+sm (λ_=>0) 0 c);rw[JX λ_ _=>rfl,iW]
 | .a x y=>by
  refine(?_:x.den c+y.den c=x.cs+y.cs+sm (λi=>x.co i+y.co i) 0 c);rw[qI x,qI y,Nw,QZ]
 | .s x y=>by
  refine(?_:x.den c-y.den c=x.cs-y.cs+sm (λi=>x.co i-y.co i) 0 c);rw[qI x,qI y,Nt,RD]
 | .m z x=>by
  refine(?_:z*x.den c=z*x.cs+sm (λi=>z*x.co i) 0 c);rw[qI x,Nv,Gv]
noncomputable def same(e f:LX):Nat→Nat→Bool
 | _,0=>true
 | j,n+1=>(e.co j==f.co j)&&same e f (j+1) n
theorem AO{e f:LX}:∀{c:List Int}{j:Nat},same e f j c.length=true→sm (λi=>e.co i) j c=sm (λi=>f.co i) j c
 | [],_,_=>rfl
 | x::r,j,h=>by
  obtain ⟨h1,h2⟩:=gC.mp h;refine(?_:e.co j*x+sm (λi=>e.co i) (j+1) r=f.co j*x+sm (λi=>f.co i) (j+1) r);rw[AO h2,eq_of_beq h1]
noncomputable def ok(c:List Int)(d:Nat)(l r f:LX):Bool:=same (.m d (.s r l)) f 0 c.length&&decide (f.cs-d<d*(r.cs-l.cs))&&pZ 0 d
theorem la{c:List Int}{d:Nat}{l r f:LX}(h:ok c d l r f=true)(hf:0≤f.den c):l.den c≤r.den c:=by
 obtain ⟨h1,h3⟩:=gC.mp h;obtain ⟨h1,h2⟩:=gC.mp h1;have h2:=of_decide_eq_true h2;have h3:0<d:=dw h3;have e1:=qI (c:=c) (.m d (.s r l));rw[AO h1] at e1;rw[qI] at hf;have e2:(LX.m (d:Int) (.s r l)).den c=d*(r.den c-l.den c):=rfl;have e3:(LX.m (d:Int) (.s r l)).cs=d*(r.cs-l.cs):=rfl;rw[e2,e3] at e1;have h4:f.cs-d+sm (λi=>f.co i) 0 c<d*(r.den c-l.den c):=e1▸Int.add_lt_add_right h2 _;have h4 : -(d:Int)<d*(r.den c-l.den c):=eF (by rw[nh,Int.add_right_comm];exact nH hf) h4;have h5 : -1<r.den c-l.den c:=Int.lt_of_mul_lt_mul_left (a:=(d:Int)) (by rw[Int.mul_neg_one];exact h4) (cb d);exact Int.le_of_sub_nonneg h5
theorem kJ(c:List Int)(l r:LX)(h:ok c 1 l r (.k 0)=true):l.den c≤r.den c:=la h (bZ 0)
theorem nn{c:List Int}{z:Nat}{l r:LX}(h:l.den c≤r.den c):0≤(LX.m z (.s r l)).den c:=Int.mul_nonneg (cb z) (dU h)
theorem na{c:List Int}{e f:LX}(h:0≤e.den c)(h2:0≤f.den c):0≤(LX.a e f).den c:=yZ h h2
theorem cS(c:List Int)(d:Nat)(l r:LX)(z1:Nat)(e r1:LX)(h:ok c d l r (.m z1 (.s r1 e))=true)(h1:e.den c≤r1.den c):l.den c≤r.den c:=la h (nn h1)
theorem eQ(c:List Int)(d:Nat)(l r:LX)(z1:Nat)(e r1:LX)(z2:Nat)(l2 r2:LX)(h:ok c d l r (.a (.m z1 (.s r1 e)) (.m z2 (.s r2 l2)))=true)(h1:e.den c≤r1.den c)(h2:l2.den c≤r2.den c):l.den c≤r.den c:=la h (na (nn h1) (nn h2))
theorem g5(c:List Int)(d:Nat)(l r:LX)(z1:Nat)(z r1:LX)(z2:Nat)(l2 r2:LX)(z3:Nat)(u e:LX)(h:ok c d l r (.a (.m z1 (.s r1 z)) (.a (.m z2 (.s r2 l2)) (.m z3 (.s e u))))=true)(h1:z.den c≤r1.den c)(h2:l2.den c≤r2.den c)(h3:u.den c≤e.den c):l.den c≤r.den c:=la h (na (nn h1) (na (nn h2) (nn h3)))
theorem y5(c:List Int)(d:Nat)(l r:LX)(z1:Nat)(G r1:LX)(z2:Nat)(l2 r2:LX)(z3:Nat)(B u:LX)(z4:Nat)(z e:LX)(h:ok c d l r (.a (.m z1 (.s r1 G)) (.a (.m z2 (.s r2 l2)) (.a (.m z3 (.s u B)) (.m z4 (.s e z)))))=true)(h1:G.den c≤r1.den c)(h2:l2.den c≤r2.den c)(h3:B.den c≤u.den c)(h4:z.den c≤e.den c):l.den c≤r.den c:=la h (na (nn h1) (na (nn h2) (na (nn h3) (nn h4))))
theorem Jj(c:List Int)(d:Nat)(l r:LX)(z1:Nat)(J r1:LX)(z2:Nat)(l2 r2:LX)(z3:Nat)(H z:LX)(z4:Nat)(G u:LX)(z5:Nat)(B e:LX)(h:ok c d l r (.a (.m z1 (.s r1 J)) (.a (.m z2 (.s r2 l2)) (.a (.m z3 (.s z H)) (.a (.m z4 (.s u G)) (.m z5 (.s e B))))))=true)(h1:J.den c≤r1.den c)(h2:l2.den c≤r2.den c)(h3:H.den c≤z.den c)(h4:G.den c≤u.den c)(h5:B.den c≤e.den c):l.den c≤r.den c:=la h (na (nn h1) (na (nn h2) (na (nn h3) (na (nn h4) (nn h5)))))
theorem nV{a b:Nat}(h:(a:Int)≤b):a≤b:=dk.mp h
theorem d9{a b:Nat}(h:a≤b):(a:Int)≤b:=dk.mpr h
theorem qz(h:(0:Int)≤-1):False:=absurd h (by decide)
theorem vX{a b:Nat}(h:a=b):(a:Int)≤b:=h▸bZ _
theorem l9{a b:Nat}(h:a=b):(b:Int)≤a:=h▸bZ _
theorem iq{a b:Int}(h:a=b):b≤a:=h▸bZ _
theorem ltN{a b:Nat}(h:(a:Int)+1≤b):a<b:=dk.mp h
theorem iZ{t:Int}(h:0≤t):(t.toNat:Int)≤t:=qd (dA h)
theorem C8{a b:Nat} : (a:Int)≤((a-b:Nat):Int)+b:=by omega
theorem P8{a b:Nat} : ((a-b:Nat):Int)≤a:=dk.mpr (jy a b)
theorem xN{a b:Nat}(h:(b:Int)≤a):((a-b:Nat):Int)+b≤a:=dk.mpr (fu (Nat.sub_add_cancel (dk.mp h)))
theorem Rv{a:Nat} : 2*((a/2:Nat):Int)≤a:=dk.mpr (Nat.mul_div_le a 2)
theorem Sv{a:Nat} : (a:Int)≤2*((a/2:Nat):Int)+1:=by omega
theorem PM{a:Int} : 2*(a/2)≤a:=by omega
theorem OX{a:Int} : a≤2*(a/2)+1:=by omega
theorem Sw{a:Int} : a≤2*a.fdiv 2+1:=by rw[iM _ (by decide)];omega
theorem KD{a b:Nat} : ((min a b:Nat):Int)≤a:=dk.mpr (jv a b)
theorem Rj{a b:Nat} : ((min a b:Nat):Int)≤b:=dk.mpr (Nat.min_le_right a b)
theorem Ri{a b:Nat}(h:(a:Int)≤b):(a:Int)≤((min a b:Nat):Int):=dk.mpr (Nat.le_min.mpr ⟨aR a,dk.mp h⟩)
theorem Ma{t:Int}{n:Nat}(h0:0≤t)(h:t+1≤n):t.natAbs<n:=by omega
theorem RF{t:Int}{n:Nat}(h0:0≤t)(h:t≤n):t.natAbs≤n:=by omega
noncomputable def Z0:LX:=.v 0
noncomputable def Z1:LX:=.v 1
noncomputable def Z2:LX:=.v 2
noncomputable def Z3:LX:=.v 3
noncomputable def Z4:LX:=.v 4
noncomputable def Z5:LX:=.v 5
noncomputable def Z6:LX:=.v 6
noncomputable def Z7:LX:=.v 7
noncomputable def Z8:LX:=.v 8
noncomputable def Z9:LX:=.v 9
noncomputable def Y0:LX:=.k 0
noncomputable def Y1:LX:=.k 1
theorem tq{t:Int} : t≤t.toNat:=Int.self_le_toNat t
theorem gV{a b:Int}(h:a=b):a≤b:=qd h
theorem vn{a b:Nat}(h:(a:Int)≤b)(h2:(b:Int)≤a):a=b:=iw (nV h) (nV h2)
theorem nA{a b:Int}(h:a≤b)(h2:b≤a):a=b:=Nf h h2
theorem Sa{a b:Nat}(h:¬a≤b):(b:Int)+1≤a:=d9 (cI h)
theorem R9{a b:Nat}(h:¬a<b):(b:Int)≤a:=d9 (cJ h)
theorem PC{a b:Int}(h:¬a<b):b≤a:=Int.le_of_not_gt h
theorem j0{a:Nat} : (0:Int)≤a:=cb a
end
section
open W PyProof.Rows
noncomputable def Kv:List Str:=["_bisect","bisect_left","bisect_left_bisect","bisect_right","bisect_right_bisect","_heapq","heapify","heapreplace"]
noncomputable def Ku:List Str:=["_wall","k","__name__","cpy313.difflib","_tuplegetter","__init__","self","index"]
noncomputable def Kt:List Str:=["doc","__doc__","__get__","obj","objtype","issubclass","type","tuple"]
noncomputable def Ks:List Str:=["__getitem__","__set__","value","AttributeError","can't set attribute","__delete__","can't delete attribute","Match"]
noncomputable def Kr:List Str:=["Match(a, b, size)","__slots__","_fields","a","b","size","_field_defaults","__new__"]
noncomputable def Kq:List Str:=["_cls","_make","cls","iterable","result","len","TypeError"]
noncomputable def Kp:List Str:=["Expected 3 arguments, got ","classmethod","_replace","kwds","__class__","__len__","pop","map"]
noncomputable def Ko:List Str:=["Got unexpected field names: ","list","__replace__","__repr__","(a=%r, b=%r, size=%r)","_asdict","__getnewargs__","__match_args__"]
noncomputable def Kn:List Str:=["Alias for field number 0","Alias for field number 1","Alias for field number 2","_calculate_ratio","matches","length","SequenceMatcher","isjunk"]
noncomputable def Km:List Str:=["autojunk","set_seqs","set_seq1","set_seq2","matching_blocks","opcodes","fullbcount","_SequenceMatcher__chain_b"]
noncomputable def En:List Str:=["__chain_b","b2j","i","elt","enumerate","indices","setdefault","append"]
noncomputable def Em:List Str:=["bjunk","junk","set","keys","add","bpopular","popular","n"]
noncomputable def El:List Str:=["ntest","idxs","items","find_longest_match","alo","ahi","blo","bhi"]
noncomputable def Ek:List Str:=["isbjunk","__contains__","besti","bestj","bestsize","j2len","nothing","range"]
noncomputable def Ej:List Str:=["j2lenget","get","newj2len","j","get_matching_blocks","la","lb","queue"]
noncomputable def Ei:List Str:=["x","sort","i1","nmJ1","k1","non_adjacent","i2","nmJ2"]
noncomputable def Eh:List Str:=["k2","get_opcodes","get_grouped_opcodes","ratio","sum","triple",".0","quick_ratio"]
noncomputable def Eg:List Str:=["avail","availhas","numb","real_quick_ratio","min","heapq","nlargest","key"]
noncomputable def Ef:List Str:=["it","iter","sentinel","object","max","default","sorted","reverse"]
noncomputable def Ee:List Str:=["elem","zip","top","order","_heapreplace","_order","_elem","fast"]
noncomputable def Ed:List Str:=["get_close_matches","word","possibilities","cutoff","ValueError","n must be > 0: ","cutoff must be in [0.0, 1.0]: ","s"]
noncomputable def Ec:List Str:=["score","cpy313.statistics","StatisticsError","median_grouped","data","interval","no median for empty data","lo"]
noncomputable def Eb:List Str:=["float","Value cannot be converted to a float","L","cf","f","cpy313.bisect","hi","lo must be non-negative"]
noncomputable def Ea:List Str:=["mid","bisect_right_bisect2","insort_left","bisect_left_bisect2","insert","law_wb0115_01","_law_ballots","script"]
noncomputable def D9:List Str:=["cells","place","number","cell","_law_wishes","ballots","thing","voter"]
noncomputable def D8:List Str:=["_law_closest","votes","most","choice","things","held","_law_differences","law"]
noncomputable def D7:List Str:=["wishes","sets","ballot","points","row","wanted","both","rows"]
noncomputable def D6:List Str:=["near","low","high","due","lacking","fewer","off","isinstance"]
noncomputable def D5:List Str:=["back","vote","/claim/cut.py"]
noncomputable def PZ:List (List Str):=[Kv,Ku,Kt,Ks,Kr,Kq,Kp,Ko,Kn,Km,En,Em,El,Ek,Ej,Ei,Eh,Eg,Ef,Ee,Ed,Ec,Eb,Ea,D9,D8,D7,D6,D5]
noncomputable def aS(n:Nat):Str:=(PZ.getD (n/8) []).getD (n % 8) Str.empty
noncomputable def R3:(Nat→Str)→(String→Str)→Program:=by
 refine(?f:(g:(Nat→Str)→(String→Str)→Program)→(g aS ae=jt)→(Nat→Str)→(String→Str)→Program) ?g ?h
 case f=>exact λg _=>g
 case h=>
  have h0:Kv=[aS 0,aS 1,aS 2,aS 3,aS 4,aS 5,aS 6,aS 7]:=rfl;have h1:Ku=[aS 8,aS 9,aS 10,aS 11,aS 12,aS 13,aS 14,aS 15]:=rfl;have h2:Kt=[aS 16,aS 17,aS 18,aS 19,aS 20,aS 21,aS 22,aS 23]:=rfl;have h3:Ks=[aS 24,aS 25,aS 26,aS 27,aS 28,aS 29,aS 30,aS 31]:=rfl;have h4:Kr=[aS 32,aS 33,aS 34,aS 35,aS 36,aS 37,aS 38,aS 39]:=rfl;have h5:Kq=[aS 40,aS 41,aS 42,aS 43,aS 44,aS 45,aS 46]:=rfl;have h6:Kp=[aS 48,aS 49,aS 50,aS 51,aS 52,aS 53,aS 54,aS 55]:=rfl;have h7:Ko=[aS 56,aS 57,aS 58,aS 59,aS 60,aS 61,aS 62,aS 63]:=rfl;have h8:Kn=[aS 64,aS 65,aS 66,aS 67,aS 68,aS 69,aS 70,aS 71]:=rfl;have h9:Km=[aS 72,aS 73,aS 74,aS 75,aS 76,aS 77,aS 78,aS 79]:=rfl;have h10:En=[aS 80,aS 81,aS 82,aS 83,aS 84,aS 85,aS 86,aS 87]:=rfl;have h11:Em=[aS 88,aS 89,aS 90,aS 91,aS 92,aS 93,aS 94,aS 95]:=rfl;have h12:El=[aS 96,aS 97,aS 98,aS 99,aS 100,aS 101,aS 102,aS 103]:=rfl;have h13:Ek=[aS 104,aS 105,aS 106,aS 107,aS 108,aS 109,aS 110,aS 111]:=rfl;have h14:Ej=[aS 112,aS 113,aS 114,aS 115,aS 116,aS 117,aS 118,aS 119]:=rfl;have h15:Ei=[aS 120,aS 121,aS 122,aS 123,aS 124,aS 125,aS 126,aS 127]:=rfl;have h16:Eh=[aS 128,aS 129,aS 130,aS 131,aS 132,aS 133,aS 134,aS 135]:=rfl;have h17:Eg=[aS 136,aS 137,aS 138,aS 139,aS 140,aS 141,aS 142,aS 143]:=rfl;have h18:Ef=[aS 144,aS 145,aS 146,aS 147,aS 148,aS 149,aS 150,aS 151]:=rfl;have h19:Ee=[aS 152,aS 153,aS 154,aS 155,aS 156,aS 157,aS 158,aS 159]:=rfl;have h20:Ed=[aS 160,aS 161,aS 162,aS 163,aS 164,aS 165,aS 166,aS 167]:=rfl;have h21:Ec=[aS 168,aS 169,aS 170,aS 171,aS 172,aS 173,aS 174,aS 175]:=rfl;have h22:Eb=[aS 176,aS 177,aS 178,aS 179,aS 180,aS 181,aS 182,aS 183]:=rfl;have h23:Ea=[aS 184,aS 185,aS 186,aS 187,aS 188,aS 189,aS 190,aS 191]:=rfl;have h24:D9=[aS 192,aS 193,aS 194,aS 195,aS 196,aS 197,aS 198,aS 199]:=rfl;have h25:D8=[aS 200,aS 201,aS 202,aS 203,aS 204,aS 205,aS 206,aS 207]:=rfl;have h26:D7=[aS 208,aS 209,aS 210,aS 211,aS 212,aS 213,aS 214,aS 215]:=rfl;have h27:D6=[aS 216,aS 217,aS 218,aS 219,aS 220,aS 221,aS 222,aS 223]:=rfl;have h28:D5=[aS 224,aS 225,aS 226]:=rfl;simp only[Kv,Ku,Kt,Ks,Kr,Kq,Kp,Ko,Kn,Km,En,Em,El,Ek,Ej,Ei,Eh,Eg,Ef,Ee,Ed,Ec,Eb,Ea,D9,D8,D7,D6,D5,List.cons.injEq,and_true] at h0 h1 h2 h3 h4 h5 h6 h7 h8 h9 h10 h11 h12 h13 h14 h15 h16 h17 h18 h19 h20 h21 h22 h23 h24 h25 h26 h27 h28
  delta jt
  simp only[h0,h1,h2,h3,h4,h5,h6,h7,h8,h9,h10,h11,h12,h13,h14,h15,h16,h17,h18,h19,h20,h21,h22,h23,h24,h25,h26,h27,h28];clear h0 h1 h2 h3 h4 h5 h6 h7 h8 h9 h10 h11 h12 h13 h14 h15 h16 h17 h18 h19 h20 h21 h22 h23 h24 h25 h26 h27 h28;generalize aS=f;generalize ae=F;exact rfl
noncomputable def Gx:Program:=R3 aS ae
theorem DP:Gx=jt:=by with_unfolding_all rfl
noncomputable def P9:OpenLaw:={prog:=Gx,name:=ae "law",about:=[ae "get_close_matches"],foot:=5,most:=some 63,bound:=none,writes:=false}
theorem J1:P9=cF:=by
 unfold P9;rw[DP];rfl
theorem RQ:P9.wellSaid=true:=by kernel_rfl
theorem ws:cF.wellSaid=true:=J1▸RQ
noncomputable def Gf{α:Type}(as:Array α)(p:α→Bool)(start stop:Nat):Bool:=
 match ii start 0&&ii stop as.size with
 | true=>as.toList.any p
 | false=>zf as p start stop
theorem L7:@zf.{0} = @Gf:=by
 funext α e p a b
 unfold Gf
 split
 .rename_i h
  obtain ⟨h1,h2⟩:=gC.mp h;have e1:=ef h1;have e2:=ef h2;subst e1;subst e2;exact(Array.any_toList ..).symm
 .rfl
noncomputable def Ew(any:{α:Type}→Array α→(α→Bool)→Nat→Nat→Bool):Builtin:=by
 refine(?f:(g:Builtin)→((@zf.{0} = @any)→iI=g)→Builtin) ?g ?h
 case f=>exact λg _=>g
 case h=>
  intro e
  delta iI
  rw[e]
theorem Eu:Ew @zf.{0} = iI:=by kernel_rfl
theorem Hu:iI=Ew @Gf:=Eu.symm.trans (congrArg (λf:{α:Type}→Array α→(α→Bool)→Nat→Nat→Bool=>Ew @f) L7)
noncomputable def JZ(d:Str):Stmt→Stmt
 | .ClassDef n bs ks (.Expr (.Constant (.str _) k p) q::rest) ds tp sc a b c e=>.ClassDef n bs ks (.Expr (.Constant (.str d) k p) q::rest) ds tp sc a b c e
 | s=>s
noncomputable def OU:Option Stmt→Str
 | some (.ClassDef _ _ _ (.Expr (.Constant (.str d) _ _) _::_) ..)=>d
 | _=>Str.empty
noncomputable def Rg(d:Str):Program:={Gx with main:={Gx.main with body:=Gx.main.body.modify 7 (JZ d)} }
noncomputable def Iv:Str:=OU Gx.main.body[7]?
theorem DQ:Rg Iv=Gx:=by kernel_rfl
noncomputable def OT:{s:String // Iv=ae s}:=⟨_,by with_unfolding_all rfl⟩
noncomputable def OV:{cs:List Char // OT.1=String.ofList cs}:=⟨_,by with_unfolding_all rfl⟩
noncomputable def LH:Str:=⟨⟨OV.1.map Char.toNat⟩⟩
theorem Cq:Iv=LH:=by rw[OT.2,OV.2];exact Fast.ofString_ofList _
section
variable {tb:String→Option Builtin}{p:Program}{w:World}
noncomputable def ET(stp:lW→vF→Option (lW×vF)):Nat→lW→vF→Option lW
 | 0,_,_=>none
 | n+1,s,t=>match t.atExitBegin with
  | some []=>some s
  | some (_::_)=>none
  | none=>match stp s t with
   | some (s',t')=>ET stp n s' t'
   | none=>none
theorem A9:∀{n:Nat}{s s':lW}{t:vF},ET (stepT (IU tb) p w) n s t=some s'→importEnds tb p w n s.abs t=some s'.abs
 | 0,_,_,_,h=>by cases h
 | n+1,s,s',t,h=>by
  unfold ET at h;unfold importEnds
  cases he:t.atExitBegin with
  | some x=>
   rw[he] at h
   cases x with
   | nil=>cases h;rfl
   | cons _ _=>cases h
  | none=>
   rw[he] at h
   cases hs:stepT (IU tb) p w s t with
   | none=>rw[hs] at h;cases h
   | some r=>obtain ⟨s₂,e⟩:=r;rw[hs] at h;dsimp only;rw[stepT_spec hs];exact A9 h
noncomputable def Dv(stp:lW→vF→Option (lW×vF))(ok:vF→Bool):Nat→lW→vF→Option lW
 | 0,_,_=>none
 | n+1,s,t=>match through t with
  | true=>some s
  | false=>match ok t with
   | false=>none
   | true=>match stp s t with
    | some (s',t')=>Dv stp ok n s' t'
    | none=>none
theorem AL{e:Nat}{u:Option Value}:∀{n:Nat}{s s':lW}{t:vF},Dv (stepT (IU tb) p w) (stepOk e u) n s t=some s'→topRun tb p w e u n s.abs t=some s'.abs
 | 0,_,_,_,h=>by cases h
 | n+1,s,s',t,h=>by
  unfold Dv at h;unfold topRun
  cases he:through t with
  | true=>rw[he] at h;cases h;rfl
  | false=>
   rw[he] at h
   cases hk:stepOk e u t with
   | false=>rw[hk] at h;cases h
   | true=>
    rw[hk] at h
    cases hs:stepT (IU tb) p w s t with
    | none=>rw[hs] at h;cases h
    | some r=>obtain ⟨s₂,z⟩:=r;rw[hs] at h;dsimp only;rw[stepT_spec hs];exact AL h
end
noncomputable def fill:List Obj→Nat→BT→Option BT
 | [],_,T=>some T
 | o::r,n,T=>match ((T.ins n o).get n).isSome with
  | true=>fill r (n+1) (T.ins n o)
  | false=>none
theorem Bd{life:Life}:∀{l:List Obj}{n:Nat}{T T':BT},fill l n T=some T'→absHeap T' (n+l.length) life=⟨(T.list n++l).toArray,life⟩
 | [],n,T,T',h=>by cases h;simp [absHeap]
 | o::r,n,T,T',h=>by
  unfold fill at h
  cases g:((T.ins n o).get n).isSome with
  | false=>rw[g] at h;cases h
  | true=>
   rw[g] at h;have e:=Bd (life:=life) h;rw[gT,show n+(r.length+1)=n+1+r.length by exact vn (kJ [n,r.length] (.a Z0 (.a Z1 Y1)) (.a (.a Z0 Y1) Z1) rfl) (kJ [n,r.length] (.a (.a Z0 Y1) Z1) (.a Z0 (.a Z1 Y1)) rfl),e];have q:=absHeap_ins (life:=life) g;unfold absHeap Heap.push at q;have z:((T.ins n o).list (n+1)).toArray=(T.list n).toArray.push o:=congrArg Heap.objs q
   have u:(T.ins n o).list (n+1)=T.list n++[o]:=by
    have:=congrArg Array.toList z;simpa using this
   rw[u,jM];rfl
noncomputable def startT(p:Program):lW:=⟨.nil,0,{},#[],{},1,(start p).1.os⟩
theorem zp(p:Program):(startT p).abs=(start p).1:=rfl
noncomputable def IE{α:Type}(tb:String→Option Builtin)(p:Program)(w:World)(N:Nat)(f:Shared→α):Option α:=
 match ET (stepT (IU tb) (Bw p) w) N (startT (Bw p)) (start (Bw p)).2 with
 | none=>none
 | some s1=>match fenceModules? p s1.abs with
  | none=>none
  | some s0=>match s0.heap.isNs gQ&&s0.gens.size==0 with
   | false=>none
   | true=>match fill s0.heap.objs.toList 0 .nil with
    | none=>none
    | some T=>match Dv (stepT (IU tb) p w) (stepOk s0.heap.objs.size (s0.heap.nsMap gQ "__annotations__")) N ⟨T,s0.heap.objs.toList.length,s0.heap.life,s0.gens,s0.drawn,s0.toks,s0.os⟩ (topStub p) with
     | none=>none
     | some s'=>match staticsOk (rO p.main.body) s0.heap s'.abs.heap&&namesBound p s'.abs.heap&&gensDone s'.abs&&laidKept s0.heap s'.abs.heap with
      | true=>some (f s'.abs)
      | false=>none
theorem ID{α:Type}{tb:String→Option Builtin}{p:Program}{w:World}{N:Nat}{f:Shared→α}{r:α}(h:IE tb p w N f=some r):(openEnds tb p w N).map f=some r:=by
 unfold IE at h;unfold openEnds fencedOpening
 split at h
 .cases h
 rename_i s1 h1;have e1:=A9 h1;rw[zp] at e1;rw[e1]
 split at h
 .cases h
 rename_i u h2;show ((fenceModules? p s1.abs).bind (topFrom tb p w N)).map f=some r;rw[h2];show (topFrom tb p w N u).map f=some r
 split at h
 .cases h
 rename_i h3
 split at h
 .cases h
 rename_i T h4
 split at h
 .cases h
 rename_i s' h5;have e5:=AL h5;have e4:=Bd (life:=u.heap.life) h4
 split at h
 .rename_i h6
  unfold topFrom;rw[h3];dsimp only
  have e:(⟨T,u.heap.objs.toList.length,u.heap.life,u.gens,u.drawn,u.toks,u.os⟩:lW).abs=u:=by
   obtain ⟨⟨objs,life⟩,g,d,k,o⟩:=u;rw[ie] at e4;show Shared.mk (absHeap T objs.toList.length life) g d k o=_;rw[e4];rfl
  rw[e] at e5;rw[e5];show Option.map f (match staticsOk (rO p.main.body) u.heap s'.abs.heap&&namesBound p s'.abs.heap&&gensDone s'.abs&&laidKept u.heap s'.abs.heap with|true=>some s'.abs|false=>none)=_;rw[h6];exact h
 .cases h
noncomputable def tb(id:String):Option Builtin:=match ii (PySem.code id) 29827186395103491166823348853 with
 | true=>some (Ew @Gf)
 | false=>Fast.tw14364793385576792824 id
theorem Nq:treeTable=tb:=by
 funext id
 unfold tb
 cases h:ii (PySem.code id) 29827186395103491166823348853 with
 | false=>rw[Fast.te14364793385576792824]
 | true=>
  have e:id = "type.__new__":=code_inj _ _ ((ef h).trans (by kernel_rfl));subst e;show treeTable "type.__new__"=some (Ew @Gf);rw[← Hu,← Fast.te4202317264376624991]
  kernel_rfl
noncomputable def L2{α:Type}(p:Program)(w:World)(N:Nat)(f:Shared→α):Option α:=
 match ET (xl (xk tb) (Bw p) w) N (startT (Bw p)) (Fast.tw1435165496053646825 (Bw p)).2 with
 | none=>none
 | some s1=>match Fast.tw14289696077712309145 p s1.abs with
  | none=>none
  | some s0=>match s0.heap.isNs gQ&&s0.gens.size==0 with
   | false=>none
   | true=>match fill s0.heap.objs.toList 0 .nil with
    | none=>none
    | some T=>match Dv (xl (xk tb) p w) (Fast.tw6613529449190102663 s0.heap.objs.size (s0.heap.nsMap gQ "__annotations__")) N ⟨T,s0.heap.objs.toList.length,s0.heap.life,s0.gens,s0.drawn,s0.toks,s0.os⟩ (topStub p) with
     | none=>none
     | some s'=>match staticsOk (rO p.main.body) s0.heap s'.abs.heap&&namesBound p s'.abs.heap&&gensDone s'.abs&&laidKept s0.heap s'.abs.heap with
      | true=>some (f s'.abs)
      | false=>none
theorem IC{α:Type}(p:Program)(w:World)(N:Nat)(f:Shared→α):IE treeTable p w N f=L2 p w N f:=by
 unfold IE L2;rw[Nq,Fast.te10156331382660048174,Fast.te11892475500146522536,Fast.te1435165496053646825,Fast.te14289696077712309145,Fast.te6613529449190102663]
 all_goals rfl
noncomputable abbrev pw:Program:=jt
noncomputable def uc:Program:=view Gx [0,1,2,4,5,6,7,13,17,20,22,23,24,25,26]
noncomputable def EI:List Str:=["_tuplegetter","Match","SequenceMatcher","nlargest","get_close_matches","median_grouped","bisect_right","bisect_right_bisect2","insort_left","bisect_left","bisect_left_bisect2"]
noncomputable def Lr(d:Str):Obj→Obj
 | ⟨c,k,.dict es ep,sl⟩=>⟨c,k,.dict ⟨es.toList.modify 2 (λe=>match e with
  | ⟨h,key,.str _ t⟩=>⟨h,key,.str d t⟩
  | e=>e)⟩ ep,sl⟩
 | o=>o
noncomputable def Ls(d:Str)(x:List (Option Obj)×List (Option Obj)):List (Option Obj)×List (Option Obj):=(x.1.modify 152 (Option.map (Lr d)),x.2)
theorem EL{α:Type}{q:Program}{e:List Str}{B:Shared→Bool}{z:Bool}{u:Shared→α}{val:World→α}{N:Nat}(G:Str→α→α)
  (h1:∀w,L2 (Rg LH) w N (λs=>(Fast.tw4187177175401517315 q e (rO Gx.main.body) B z s,u s))=some (openGood q e,G LH (val w)))
  (h2:∀w,G Iv (val w)=val w):LeftO pw q e B u val N z:=λw=>by
 refine ID ?_;rw[IC];have h:=h1 w;rw[← Cq,DQ,h2,← Fast.te4187177175401517315] at h;rw[show pw=Gx from DP.symm];exact h
open Mine
theorem Sn{r:OpenRow}(H:Hook){d:DefRec}{u:List (Str×PE)}(hw:r.toRowW.promised)(call:WalkO uc EI (XL uc []) H.says r.toRowW d u λf vs=>PySem.call f vs)
  (left:autoParam (LeftO r.prog uc EI (λs=>xlAt uc [] s&&recOk [] s) H.obs H.val 5522) zAj)
  (z:autoParam (defOf uc r.name=some (d,u)) zAa) (hp:autoParam (r.prog.theDef r.name=some (d.params,d.body,d.scope)) zAa) (hk:autoParam (kwWritten? d.params.kwonlyargs d.params.kw_defaults=some u) zAa) (G:autoParam (∀s,(xlAt uc [] s&&recOk [] s)=true→RecFacts r.records s.heap) zAk) (B:autoParam ((!r.writes||r.records.isEmpty)=true) zAa)
  (k1:autoParam (r.wellSaid=true) zAl) (ok:autoParam ((chainsOk uc&&opensWell r.prog&&(frees r.toRowW&&r.within.isEmpty))=true) zAm) (hb:autoParam (r.prog.bare) zAn):r.Holds:=
 holds_open left H.of H.keeps (λs e=>xl_of s (gC.mp e).1) XL.keeps z hp hk G B k1 ok hb hw call
local macro_rules | `(tactic| o_head (kmHook $K $as $e $_ts))=>`(tactic| refine Sn (kmHook $K $as $e [364,256]) ?hw ?hc)
local macro_rules | `(tactic| o_law)=>`(tactic| refine holds_law ws λsaid=>?_)
open_top hd for PySem.Challenge.rw_wb0115_01
end
theorem zoff:True:=by
 w_top off
 trivial
open W PyProof.Rows in
local macro_rules | `(tactic| walk_at $s:str)=>`(tactic| k_extra $(Lean.quote ("z"++s.getString)))
open W PyProof.Rows in
local macro_rules | `(tactic| k_ne)=>`(tactic| k_extra "zk_ne")
open W PyProof.Rows in
local macro_rules | `(tactic| k_all)=>`(tactic| k_extra "zk_all")
open W PyProof.Rows in
local macro_rules | `(tactic| ktr_enter)=>`(tactic| k_extra "zent")
open W PyProof.Rows in
local macro_rules | `(tactic| k_lt $_h:ident)=>`(tactic| skip)
section
theorem iz{α:Type}{L l:List α}(e:List Nat)(k:Nat)(h:(e.filterMap λi=>L[i]?)++L.drop k=l):∀p∈l,p∈L:=λp hp=>by
 subst h
 rcases aC.mp hp with hp|hp
 .obtain ⟨i,_,h⟩:=List.mem_filterMap.mp hp
  exact cq h
 .exact gA hp
theorem FC{α:Type}{P:α→Prop}{a:α}{l:List α}(h:P a)(hl:∀p∈l,P p):∀p∈a::l,P p:=zC ⟨h,hl⟩
theorem FN{α:Type}{P:α→Prop}:∀p∈([]:List α),P p:=λ_ h=>nomatch h
theorem FA{α:Type}{P:α→Prop}{l r:List α}(h:∀p∈l,P p)(hr:∀p∈r,P p):∀p∈l++r,P p:=BA.mpr ⟨h,hr⟩
theorem a8{α:Type}{L:List α}(i:Nat){a:α}(h:L[i]?=some a):a∈L:=cq h
theorem bk{α:Type}{L:List α}(k:Nat){a:α}(h:a∈L.drop k):a∈L:=gA h
end
section
theorem eR{A B C:Prop}(h0:A)(h1:B)(h2:C):A∧B∧C:=⟨h0,h1,h2⟩
theorem nB{A B C D:Prop}(h0:A)(h1:B)(h2:C)(h3:D):A∧B∧C∧D:=⟨h0,h1,h2,h3⟩
theorem OL{A B C D E:Prop}(h0:A)(h1:B)(h2:C)(h3:D)(h4:E):A∧B∧C∧D∧E:=⟨h0,h1,h2,h3,h4⟩
theorem Lh{A B C D E F H:Prop}(h0:A)(h1:B)(h2:C)(h3:D)(h4:E)(h5:F)(h6:H):A∧B∧C∧D∧E∧F∧H:=⟨h0,h1,h2,h3,h4,h5,h6⟩
theorem OK{A B C D E F H I:Prop}(h0:A)(h1:B)(h2:C)(h3:D)(h4:E)(h5:F)(h6:H)(h7:I):A∧B∧C∧D∧E∧F∧H∧I:=⟨h0,h1,h2,h3,h4,h5,h6,h7⟩
theorem c9{m:Sort _}{A B:m→Prop}(a:m)(h0:A a)(h1:B a):∃a,A a∧B a:=⟨a,h0,h1⟩
theorem cZ{m:Sort _}{A B C:m→Prop}(a:m)(h0:A a)(h1:B a)(h2:C a):∃a,A a∧B a∧C a:=⟨a,h0,h1,h2⟩
theorem OJ{m:Sort _}{A B C D:m→Prop}(a:m)(h0:A a)(h1:B a)(h2:C a)(h3:D a):∃a,A a∧B a∧C a∧D a:=⟨a,h0,h1,h2,h3⟩
theorem OI{m:Sort _}{A B C D E:m→Prop}(a:m)(h0:A a)(h1:B a)(h2:C a)(h3:D a)(h4:E a):∃a,A a∧B a∧C a∧D a∧E a:=⟨a,h0,h1,h2,h3,h4⟩
theorem ro{m n:Sort _}{A:m→n→Prop}(a:m)(b:n)(h0:A a b):∃a b,A a b:=⟨a,b,h0⟩
theorem wL{m n:Sort _}{A B:m→n→Prop}(a:m)(b:n)(h0:A a b)(h1:B a b):∃a b,A a b∧B a b:=⟨a,b,h0,h1⟩
theorem ir{m n:Sort _}{A B C:m→n→Prop}(a:m)(b:n)(h0:A a b)(h1:B a b)(h2:C a b):∃a b,A a b∧B a b∧C a b:=⟨a,b,h0,h1,h2⟩
theorem se{m n:Sort _}{A B C D:m→n→Prop}(a:m)(b:n)(h0:A a b)(h1:B a b)(h2:C a b)(h3:D a b):∃a b,A a b∧B a b∧C a b∧D a b:=⟨a,b,h0,h1,h2,h3⟩
theorem QI{m n:Sort _}{A B C D E:m→n→Prop}(a:m)(b:n)(h0:A a b)(h1:B a b)(h2:C a b)(h3:D a b)(h4:E a b):∃a b,A a b∧B a b∧C a b∧D a b∧E a b:=⟨a,b,h0,h1,h2,h3,h4⟩
theorem QH{m n:Sort _}{A B C D E F H:m→n→Prop}(a:m)(b:n)(h0:A a b)(h1:B a b)(h2:C a b)(h3:D a b)(h4:E a b)(h5:F a b)(h6:H a b):∃a b,A a b∧B a b∧C a b∧D a b∧E a b∧F a b∧H a b:=⟨a,b,h0,h1,h2,h3,h4,h5,h6⟩
theorem OH{m n o:Sort _}{A:m→n→o→Prop}(a:m)(b:n)(c:o)(h0:A a b c):∃a b c,A a b c:=⟨a,b,c,h0⟩
theorem Lg{m n o:Sort _}{A B:m→n→o→Prop}(a:m)(b:n)(c:o)(h0:A a b c)(h1:B a b c):∃a b c,A a b c∧B a b c:=⟨a,b,c,h0,h1⟩
theorem nW{m n o:Sort _}{A B C:m→n→o→Prop}(a:m)(b:n)(c:o)(h0:A a b c)(h1:B a b c)(h2:C a b c):∃a b c,A a b c∧B a b c∧C a b c:=⟨a,b,c,h0,h1,h2⟩
theorem HT{m n o:Sort _}{A B C D:m→n→o→Prop}(a:m)(b:n)(c:o)(h0:A a b c)(h1:B a b c)(h2:C a b c)(h3:D a b c):∃a b c,A a b c∧B a b c∧C a b c∧D a b c:=⟨a,b,c,h0,h1,h2,h3⟩
theorem OG{m n o:Sort _}{A B C D E:m→n→o→Prop}(a:m)(b:n)(c:o)(h0:A a b c)(h1:B a b c)(h2:C a b c)(h3:D a b c)(h4:E a b c):∃a b c,A a b c∧B a b c∧C a b c∧D a b c∧E a b c:=⟨a,b,c,h0,h1,h2,h3,h4⟩
theorem QG{m n o:Sort _}{A B C D E F:m→n→o→Prop}(a:m)(b:n)(c:o)(h0:A a b c)(h1:B a b c)(h2:C a b c)(h3:D a b c)(h4:E a b c)(h5:F a b c):∃a b c,A a b c∧B a b c∧C a b c∧D a b c∧E a b c∧F a b c:=⟨a,b,c,h0,h1,h2,h3,h4,h5⟩
theorem QF{m n o:Sort _}{A B C D E F H:m→n→o→Prop}(a:m)(b:n)(c:o)(h0:A a b c)(h1:B a b c)(h2:C a b c)(h3:D a b c)(h4:E a b c)(h5:F a b c)(h6:H a b c):∃a b c,A a b c∧B a b c∧C a b c∧D a b c∧E a b c∧F a b c∧H a b c:=⟨a,b,c,h0,h1,h2,h3,h4,h5,h6⟩
theorem EX{m n o p:Sort _}{A:m→n→o→p→Prop}(a:m)(b:n)(c:o)(d:p)(h0:A a b c d):∃a b c d,A a b c d:=⟨a,b,c,d,h0⟩
theorem vu{m n o p:Sort _}{A B:m→n→o→p→Prop}(a:m)(b:n)(c:o)(d:p)(h0:A a b c d)(h1:B a b c d):∃a b c d,A a b c d∧B a b c d:=⟨a,b,c,d,h0,h1⟩
theorem QE{m n o p:Sort _}{A B C:m→n→o→p→Prop}(a:m)(b:n)(c:o)(d:p)(h0:A a b c d)(h1:B a b c d)(h2:C a b c d):∃a b c d,A a b c d∧B a b c d∧C a b c d:=⟨a,b,c,d,h0,h1,h2⟩
theorem EW{m n o p:Sort _}{A B C D:m→n→o→p→Prop}(a:m)(b:n)(c:o)(d:p)(h0:A a b c d)(h1:B a b c d)(h2:C a b c d)(h3:D a b c d):∃a b c d,A a b c d∧B a b c d∧C a b c d∧D a b c d:=⟨a,b,c,d,h0,h1,h2,h3⟩
theorem zW{m n o p:Sort _}{A B C D E:m→n→o→p→Prop}(a:m)(b:n)(c:o)(d:p)(h0:A a b c d)(h1:B a b c d)(h2:C a b c d)(h3:D a b c d)(h4:E a b c d):∃a b c d,A a b c d∧B a b c d∧C a b c d∧D a b c d∧E a b c d:=⟨a,b,c,d,h0,h1,h2,h3,h4⟩
theorem QD{m n o p:Sort _}{A B C D E F:m→n→o→p→Prop}(a:m)(b:n)(c:o)(d:p)(h0:A a b c d)(h1:B a b c d)(h2:C a b c d)(h3:D a b c d)(h4:E a b c d)(h5:F a b c d):∃a b c d,A a b c d∧B a b c d∧C a b c d∧D a b c d∧E a b c d∧F a b c d:=⟨a,b,c,d,h0,h1,h2,h3,h4,h5⟩
theorem OF{m n o p q:Sort _}{A:m→n→o→p→q→Prop}(a:m)(b:n)(c:o)(d:p)(e:q)(h0:A a b c d e):∃a b c d e,A a b c d e:=⟨a,b,c,d,e,h0⟩
theorem QC{m n o p q:Sort _}{A B C:m→n→o→p→q→Prop}(a:m)(b:n)(c:o)(d:p)(e:q)(h0:A a b c d e)(h1:B a b c d e)(h2:C a b c d e):∃a b c d e,A a b c d e∧B a b c d e∧C a b c d e:=⟨a,b,c,d,e,h0,h1,h2⟩
theorem EV{m n o p q:Sort _}{A B C D E:m→n→o→p→q→Prop}(a:m)(b:n)(c:o)(d:p)(e:q)(h0:A a b c d e)(h1:B a b c d e)(h2:C a b c d e)(h3:D a b c d e)(h4:E a b c d e):∃a b c d e,A a b c d e∧B a b c d e∧C a b c d e∧D a b c d e∧E a b c d e:=⟨a,b,c,d,e,h0,h1,h2,h3,h4⟩
theorem QB{m n o p q:Sort _}{A B C D E F:m→n→o→p→q→Prop}(a:m)(b:n)(c:o)(d:p)(e:q)(h0:A a b c d e)(h1:B a b c d e)(h2:C a b c d e)(h3:D a b c d e)(h4:E a b c d e)(h5:F a b c d e):∃a b c d e,A a b c d e∧B a b c d e∧C a b c d e∧D a b c d e∧E a b c d e∧F a b c d e:=⟨a,b,c,d,e,h0,h1,h2,h3,h4,h5⟩
theorem OE{m n o p q:Sort _}{A B C D E F H I:m→n→o→p→q→Prop}(a:m)(b:n)(c:o)(d:p)(e:q)(h0:A a b c d e)(h1:B a b c d e)(h2:C a b c d e)(h3:D a b c d e)(h4:E a b c d e)(h5:F a b c d e)(h6:H a b c d e)(h7:I a b c d e):∃a b c d e,A a b c d e∧B a b c d e∧C a b c d e∧D a b c d e∧E a b c d e∧F a b c d e∧H a b c d e∧I a b c d e:=⟨a,b,c,d,e,h0,h1,h2,h3,h4,h5,h6,h7⟩
theorem QA{m n o p q:Sort _}{A B C D E F H I J K:m→n→o→p→q→Prop}(a:m)(b:n)(c:o)(d:p)(e:q)(h0:A a b c d e)(h1:B a b c d e)(h2:C a b c d e)(h3:D a b c d e)(h4:E a b c d e)(h5:F a b c d e)(h6:H a b c d e)(h7:I a b c d e)(h8:J a b c d e)(h9:K a b c d e):∃a b c d e,A a b c d e∧B a b c d e∧C a b c d e∧D a b c d e∧E a b c d e∧F a b c d e∧H a b c d e∧I a b c d e∧J a b c d e∧K a b c d e:=⟨a,b,c,d,e,h0,h1,h2,h3,h4,h5,h6,h7,h8,h9⟩
theorem B7{m n o p q r:Sort _}{A:m→n→o→p→q→r→Prop}(a:m)(b:n)(c:o)(d:p)(e:q)(f:r)(h0:A a b c d e f):∃a b c d e f,A a b c d e f:=⟨a,b,c,d,e,f,h0⟩
theorem Lf{m n o p q r:Sort _}{A B C D E F:m→n→o→p→q→r→Prop}(a:m)(b:n)(c:o)(d:p)(e:q)(f:r)(h0:A a b c d e f)(h1:B a b c d e f)(h2:C a b c d e f)(h3:D a b c d e f)(h4:E a b c d e f)(h5:F a b c d e f):∃a b c d e f,A a b c d e f∧B a b c d e f∧C a b c d e f∧D a b c d e f∧E a b c d e f∧F a b c d e f:=⟨a,b,c,d,e,f,h0,h1,h2,h3,h4,h5⟩
theorem OD{m n o p q r s t:Sort _}{A B C D E F H I:m→n→o→p→q→r→s→t→Prop}(a:m)(b:n)(c:o)(d:p)(e:q)(f:r)(g:s)(i:t)(h0:A a b c d e f g i)(h1:B a b c d e f g i)(h2:C a b c d e f g i)(h3:D a b c d e f g i)(h4:E a b c d e f g i)(h5:F a b c d e f g i)(h6:H a b c d e f g i)(h7:I a b c d e f g i):∃a b c d e f g i,A a b c d e f g i∧B a b c d e f g i∧C a b c d e f g i∧D a b c d e f g i∧E a b c d e f g i∧F a b c d e f g i∧H a b c d e f g i∧I a b c d e f g i:=⟨a,b,c,d,e,f,g,i,h0,h1,h2,h3,h4,h5,h6,h7⟩
theorem b7{A B:Prop}{G:Prop}(h:A∧B)(k:A→B→G):G:=k h.1 h.2
theorem kq{A B C:Prop}{G:Prop}(h:A∧B∧C)(k:A→B→C→G):G:=k h.1 h.2.1 h.2.2
theorem xU{A B C D:Prop}{G:Prop}(h:A∧B∧C∧D)(k:A→B→C→D→G):G:=k h.1 h.2.1 h.2.2.1 h.2.2.2
theorem Qr{A B C D E:Prop}{G:Prop}(h:A∧B∧C∧D∧E)(k:A→B→C→D→E→G):G:=k h.1 h.2.1 h.2.2.1 h.2.2.2.1 h.2.2.2.2
theorem Kk{A B C D E F:Prop}{G:Prop}(h:A∧B∧C∧D∧E∧F)(k:A→B→C→D→E→F→G):G:=k h.1 h.2.1 h.2.2.1 h.2.2.2.1 h.2.2.2.2.1 h.2.2.2.2.2
theorem BX{A B C D E F H:Prop}{G:Prop}(h:A∧B∧C∧D∧E∧F∧H)(k:A→B→C→D→E→F→H→G):G:=k h.1 h.2.1 h.2.2.1 h.2.2.2.1 h.2.2.2.2.1 h.2.2.2.2.2.1 h.2.2.2.2.2.2
theorem Qq{A B C D E F H I:Prop}{G:Prop}(h:A∧B∧C∧D∧E∧F∧H∧I)(k:A→B→C→D→E→F→H→I→G):G:=k h.1 h.2.1 h.2.2.1 h.2.2.2.1 h.2.2.2.2.1 h.2.2.2.2.2.1 h.2.2.2.2.2.2.1 h.2.2.2.2.2.2.2
theorem Qp{A B C D E F H I J:Prop}{G:Prop}(h:A∧B∧C∧D∧E∧F∧H∧I∧J)(k:A→B→C→D→E→F→H→I→J→G):G:=k h.1 h.2.1 h.2.2.1 h.2.2.2.1 h.2.2.2.2.1 h.2.2.2.2.2.1 h.2.2.2.2.2.2.1 h.2.2.2.2.2.2.2.1 h.2.2.2.2.2.2.2.2
theorem cp{m:Sort _}{A:m→Prop}{G:Prop}(h:∃a,A a)(k:∀a,A a→G):G:=h.elim λa h=>k a h
theorem fK{m:Sort _}{A B:m→Prop}{G:Prop}(h:∃a,A a∧B a)(k:∀a,A a→B a→G):G:=h.elim λa h=>k a h.1 h.2
theorem fJ{m:Sort _}{A B C:m→Prop}{G:Prop}(h:∃a,A a∧B a∧C a)(k:∀a,A a→B a→C a→G):G:=h.elim λa h=>k a h.1 h.2.1 h.2.2
theorem sI{m:Sort _}{A B C D:m→Prop}{G:Prop}(h:∃a,A a∧B a∧C a∧D a)(k:∀a,A a→B a→C a→D a→G):G:=h.elim λa h=>k a h.1 h.2.1 h.2.2.1 h.2.2.2
theorem ut{m n:Sort _}{A:m→n→Prop}{G:Prop}(h:∃a b,A a b)(k:∀a b,A a b→G):G:=h.elim λa h=>h.elim λb h=>k a b h
theorem pU{m n:Sort _}{A B:m→n→Prop}{G:Prop}(h:∃a b,A a b∧B a b)(k:∀a b,A a b→B a b→G):G:=h.elim λa h=>h.elim λb h=>k a b h.1 h.2
theorem gJ{m n:Sort _}{A B C:m→n→Prop}{G:Prop}(h:∃a b,A a b∧B a b∧C a b)(k:∀a b,A a b→B a b→C a b→G):G:=h.elim λa h=>h.elim λb h=>k a b h.1 h.2.1 h.2.2
theorem hH{m n:Sort _}{A B C D:m→n→Prop}{G:Prop}(h:∃a b,A a b∧B a b∧C a b∧D a b)(k:∀a b,A a b→B a b→C a b→D a b→G):G:=h.elim λa h=>h.elim λb h=>k a b h.1 h.2.1 h.2.2.1 h.2.2.2
theorem NM{m n:Sort _}{A B C D E:m→n→Prop}{G:Prop}(h:∃a b,A a b∧B a b∧C a b∧D a b∧E a b)(k:∀a b,A a b→B a b→C a b→D a b→E a b→G):G:=h.elim λa h=>h.elim λb h=>k a b h.1 h.2.1 h.2.2.1 h.2.2.2.1 h.2.2.2.2
theorem NL{m n:Sort _}{A B C D E F:m→n→Prop}{G:Prop}(h:∃a b,A a b∧B a b∧C a b∧D a b∧E a b∧F a b)(k:∀a b,A a b→B a b→C a b→D a b→E a b→F a b→G):G:=h.elim λa h=>h.elim λb h=>k a b h.1 h.2.1 h.2.2.1 h.2.2.2.1 h.2.2.2.2.1 h.2.2.2.2.2
theorem NI{m n:Sort _}{A B C D E F H:m→n→Prop}{G:Prop}(h:∃a b,A a b∧B a b∧C a b∧D a b∧E a b∧F a b∧H a b)(k:∀a b,A a b→B a b→C a b→D a b→E a b→F a b→H a b→G):G:=h.elim λa h=>h.elim λb h=>k a b h.1 h.2.1 h.2.2.1 h.2.2.2.1 h.2.2.2.2.1 h.2.2.2.2.2.1 h.2.2.2.2.2.2
theorem Qo{m n o:Sort _}{A:m→n→o→Prop}{G:Prop}(h:∃a b c,A a b c)(k:∀a b c,A a b c→G):G:=h.elim λa h=>h.elim λb h=>h.elim λc h=>k a b c h
theorem NH{m n o:Sort _}{A B:m→n→o→Prop}{G:Prop}(h:∃a b c,A a b c∧B a b c)(k:∀a b c,A a b c→B a b c→G):G:=h.elim λa h=>h.elim λb h=>h.elim λc h=>k a b c h.1 h.2
theorem zG{m n o:Sort _}{A B C:m→n→o→Prop}{G:Prop}(h:∃a b c,A a b c∧B a b c∧C a b c)(k:∀a b c,A a b c→B a b c→C a b c→G):G:=h.elim λa h=>h.elim λb h=>h.elim λc h=>k a b c h.1 h.2.1 h.2.2
theorem Ht{m n o:Sort _}{A B C D:m→n→o→Prop}{G:Prop}(h:∃a b c,A a b c∧B a b c∧C a b c∧D a b c)(k:∀a b c,A a b c→B a b c→C a b c→D a b c→G):G:=h.elim λa h=>h.elim λb h=>h.elim λc h=>k a b c h.1 h.2.1 h.2.2.1 h.2.2.2
theorem NF{m n o:Sort _}{A B C D E F:m→n→o→Prop}{G:Prop}(h:∃a b c,A a b c∧B a b c∧C a b c∧D a b c∧E a b c∧F a b c)(k:∀a b c,A a b c→B a b c→C a b c→D a b c→E a b c→F a b c→G):G:=h.elim λa h=>h.elim λb h=>h.elim λc h=>k a b c h.1 h.2.1 h.2.2.1 h.2.2.2.1 h.2.2.2.2.1 h.2.2.2.2.2
theorem Qn{m n o:Sort _}{A B C D E F H:m→n→o→Prop}{G:Prop}(h:∃a b c,A a b c∧B a b c∧C a b c∧D a b c∧E a b c∧F a b c∧H a b c)(k:∀a b c,A a b c→B a b c→C a b c→D a b c→E a b c→F a b c→H a b c→G):G:=h.elim λa h=>h.elim λb h=>h.elim λc h=>k a b c h.1 h.2.1 h.2.2.1 h.2.2.2.1 h.2.2.2.2.1 h.2.2.2.2.2.1 h.2.2.2.2.2.2
theorem Qm{m n o p:Sort _}{A:m→n→o→p→Prop}{G:Prop}(h:∃a b c d,A a b c d)(k:∀a b c d,A a b c d→G):G:=h.elim λa h=>h.elim λb h=>h.elim λc h=>h.elim λd h=>k a b c d h
theorem BV{m n o p:Sort _}{A B:m→n→o→p→Prop}{G:Prop}(h:∃a b c d,A a b c d∧B a b c d)(k:∀a b c d,A a b c d→B a b c d→G):G:=h.elim λa h=>h.elim λb h=>h.elim λc h=>h.elim λd h=>k a b c d h.1 h.2
theorem Kj{m n o p:Sort _}{A B C:m→n→o→p→Prop}{G:Prop}(h:∃a b c d,A a b c d∧B a b c d∧C a b c d)(k:∀a b c d,A a b c d→B a b c d→C a b c d→G):G:=h.elim λa h=>h.elim λb h=>h.elim λc h=>h.elim λd h=>k a b c d h.1 h.2.1 h.2.2
theorem Hs{m n o p:Sort _}{A B C D:m→n→o→p→Prop}{G:Prop}(h:∃a b c d,A a b c d∧B a b c d∧C a b c d∧D a b c d)(k:∀a b c d,A a b c d→B a b c d→C a b c d→D a b c d→G):G:=h.elim λa h=>h.elim λb h=>h.elim λc h=>h.elim λd h=>k a b c d h.1 h.2.1 h.2.2.1 h.2.2.2
theorem zF{m n o p:Sort _}{A B C D E:m→n→o→p→Prop}{G:Prop}(h:∃a b c d,A a b c d∧B a b c d∧C a b c d∧D a b c d∧E a b c d)(k:∀a b c d,A a b c d→B a b c d→C a b c d→D a b c d→E a b c d→G):G:=h.elim λa h=>h.elim λb h=>h.elim λc h=>h.elim λd h=>k a b c d h.1 h.2.1 h.2.2.1 h.2.2.2.1 h.2.2.2.2
theorem Ql{m n o p q:Sort _}{A:m→n→o→p→q→Prop}{G:Prop}(h:∃a b c d e,A a b c d e)(k:∀a b c d e,A a b c d e→G):G:=h.elim λa h=>h.elim λb h=>h.elim λc h=>h.elim λd h=>h.elim λe h=>k a b c d e h
theorem Ki{m n o p q:Sort _}{A B C:m→n→o→p→q→Prop}{G:Prop}(h:∃a b c d e,A a b c d e∧B a b c d e∧C a b c d e)(k:∀a b c d e,A a b c d e→B a b c d e→C a b c d e→G):G:=h.elim λa h=>h.elim λb h=>h.elim λc h=>h.elim λd h=>h.elim λe h=>k a b c d e h.1 h.2.1 h.2.2
theorem NE{m n o p q:Sort _}{A B C D E:m→n→o→p→q→Prop}{G:Prop}(h:∃a b c d e,A a b c d e∧B a b c d e∧C a b c d e∧D a b c d e∧E a b c d e)(k:∀a b c d e,A a b c d e→B a b c d e→C a b c d e→D a b c d e→E a b c d e→G):G:=h.elim λa h=>h.elim λb h=>h.elim λc h=>h.elim λd h=>h.elim λe h=>k a b c d e h.1 h.2.1 h.2.2.1 h.2.2.2.1 h.2.2.2.2
theorem Qk{m n o p q:Sort _}{A B C D E F:m→n→o→p→q→Prop}{G:Prop}(h:∃a b c d e,A a b c d e∧B a b c d e∧C a b c d e∧D a b c d e∧E a b c d e∧F a b c d e)(k:∀a b c d e,A a b c d e→B a b c d e→C a b c d e→D a b c d e→E a b c d e→F a b c d e→G):G:=h.elim λa h=>h.elim λb h=>h.elim λc h=>h.elim λd h=>h.elim λe h=>k a b c d e h.1 h.2.1 h.2.2.1 h.2.2.2.1 h.2.2.2.2.1 h.2.2.2.2.2
theorem Qj{m n o p q:Sort _}{A B C D E F H I:m→n→o→p→q→Prop}{G:Prop}(h:∃a b c d e,A a b c d e∧B a b c d e∧C a b c d e∧D a b c d e∧E a b c d e∧F a b c d e∧H a b c d e∧I a b c d e)(k:∀a b c d e,A a b c d e→B a b c d e→C a b c d e→D a b c d e→E a b c d e→F a b c d e→H a b c d e→I a b c d e→G):G:=h.elim λa h=>h.elim λb h=>h.elim λc h=>h.elim λd h=>h.elim λe h=>k a b c d e h.1 h.2.1 h.2.2.1 h.2.2.2.1 h.2.2.2.2.1 h.2.2.2.2.2.1 h.2.2.2.2.2.2.1 h.2.2.2.2.2.2.2
theorem Qi{m n o p q:Sort _}{A B C D E F H I J K:m→n→o→p→q→Prop}{G:Prop}(h:∃a b c d e,A a b c d e∧B a b c d e∧C a b c d e∧D a b c d e∧E a b c d e∧F a b c d e∧H a b c d e∧I a b c d e∧J a b c d e∧K a b c d e)(k:∀a b c d e,A a b c d e→B a b c d e→C a b c d e→D a b c d e→E a b c d e→F a b c d e→H a b c d e→I a b c d e→J a b c d e→K a b c d e→G):G:=h.elim λa h=>h.elim λb h=>h.elim λc h=>h.elim λd h=>h.elim λe h=>k a b c d e h.1 h.2.1 h.2.2.1 h.2.2.2.1 h.2.2.2.2.1 h.2.2.2.2.2.1 h.2.2.2.2.2.2.1 h.2.2.2.2.2.2.2.1 h.2.2.2.2.2.2.2.2.1 h.2.2.2.2.2.2.2.2.2
theorem zE{m n o p q r:Sort _}{A:m→n→o→p→q→r→Prop}{G:Prop}(h:∃a b c d e f,A a b c d e f)(k:∀a b c d e f,A a b c d e f→G):G:=h.elim λa h=>h.elim λb h=>h.elim λc h=>h.elim λd h=>h.elim λe h=>h.elim λf h=>k a b c d e f h
theorem Qh{m n o p q r:Sort _}{A B C D E F:m→n→o→p→q→r→Prop}{G:Prop}(h:∃a b c d e f,A a b c d e f∧B a b c d e f∧C a b c d e f∧D a b c d e f∧E a b c d e f∧F a b c d e f)(k:∀a b c d e f,A a b c d e f→B a b c d e f→C a b c d e f→D a b c d e f→E a b c d e f→F a b c d e f→G):G:=h.elim λa h=>h.elim λb h=>h.elim λc h=>h.elim λd h=>h.elim λe h=>h.elim λf h=>k a b c d e f h.1 h.2.1 h.2.2.1 h.2.2.2.1 h.2.2.2.2.1 h.2.2.2.2.2
theorem Qg{m n o p q r s:Sort _}{A B C D E:m→n→o→p→q→r→s→Prop}{G:Prop}(h:∃a b c d e f g,A a b c d e f g∧B a b c d e f g∧C a b c d e f g∧D a b c d e f g∧E a b c d e f g)(k:∀a b c d e f g,A a b c d e f g→B a b c d e f g→C a b c d e f g→D a b c d e f g→E a b c d e f g→G):G:=h.elim λa h=>h.elim λb h=>h.elim λc h=>h.elim λd h=>h.elim λe h=>h.elim λf h=>h.elim λg h=>k a b c d e f g h.1 h.2.1 h.2.2.1 h.2.2.2.1 h.2.2.2.2
theorem Qf{m n o p q r s t:Sort _}{A B C:m→n→o→p→q→r→s→t→Prop}{G:Prop}(h:∃a b c d e f g i,A a b c d e f g i∧B a b c d e f g i∧C a b c d e f g i)(k:∀a b c d e f g i,A a b c d e f g i→B a b c d e f g i→C a b c d e f g i→G):G:=h.elim λa h=>h.elim λb h=>h.elim λc h=>h.elim λd h=>h.elim λe h=>h.elim λf h=>h.elim λg h=>h.elim λi h=>k a b c d e f g i h.1 h.2.1 h.2.2
theorem Qe{m n o p q r s t:Sort _}{A B C D E F H:m→n→o→p→q→r→s→t→Prop}{G:Prop}(h:∃a b c d e f g i,A a b c d e f g i∧B a b c d e f g i∧C a b c d e f g i∧D a b c d e f g i∧E a b c d e f g i∧F a b c d e f g i∧H a b c d e f g i)(k:∀a b c d e f g i,A a b c d e f g i→B a b c d e f g i→C a b c d e f g i→D a b c d e f g i→E a b c d e f g i→F a b c d e f g i→H a b c d e f g i→G):G:=h.elim λa h=>h.elim λb h=>h.elim λc h=>h.elim λd h=>h.elim λe h=>h.elim λf h=>h.elim λg h=>h.elim λi h=>k a b c d e f g i h.1 h.2.1 h.2.2.1 h.2.2.2.1 h.2.2.2.2.1 h.2.2.2.2.2.1 h.2.2.2.2.2.2
theorem Qd{m n o p q r s t w:Sort _}{A B:m→n→o→p→q→r→s→t→w→Prop}{G:Prop}(h:∃a b c d e f g i j,A a b c d e f g i j∧B a b c d e f g i j)(k:∀a b c d e f g i j,A a b c d e f g i j→B a b c d e f g i j→G):G:=h.elim λa h=>h.elim λb h=>h.elim λc h=>h.elim λd h=>h.elim λe h=>h.elim λf h=>h.elim λg h=>h.elim λi h=>h.elim λj h=>k a b c d e f g i j h.1 h.2
end
section
open W PyProof Rows
open PySem.Builtin
noncomputable def cf(id:String)(self:Value):Obj:={cls:=.type "builtin_function_or_method",dict:=none,data:=.fields #[.builtin id,self]}
theorem AZ:gw (.type "method_descriptor") "__get__"=ck (some (.builtin "method_descriptor.__get__")):=by rw[cr,bu];kernel_rfl
theorem HI:gw (.type "method_descriptor") "__set__"=ck none:=by rw[cr,bu];kernel_rfl
theorem HJ:gw (.type "method_descriptor") "__delete__"=ck none:=by rw[cr,bu];kernel_rfl
theorem rV:Slot "method_descriptor" "__get__" "method_descriptor.__get__":=
 .of (owner:="method_descriptor") (n:="__get__") AZ (by decide +kernel) (by decide +kernel) (by decide +kernel)
  (by first|exact .inl (by decide +kernel)|exact .inr (by decide +kernel)) (by rw[dr];kernel_rfl)
theorem qH:kC xb "method_descriptor.__get__"=some Builtin.«method_descriptor.__get__»:=qP (by kernel_rfl)
theorem so(a b c:Value):gX "method_descriptor.__get__" ⟨[a,b,c],[]⟩:=by unfold gX;kernel_rfl
theorem nQ:Slot "set" "__getattribute__" "set.__getattribute__":=
 .of (owner:="set") (n:="__getattribute__") (by rw[cr,bu];kernel_rfl) (by decide +kernel) (by decide +kernel) (by decide +kernel)
  (by first|exact .inl (by decide +kernel)|exact .inr (by decide +kernel)) (by rw[dr];kernel_rfl)
theorem nD:kC xb "set.__getattribute__"=some Builtin.«object.__getattribute__»:=
 entryFor_alias (id':="object.__getattribute__") (by kernel_rfl) (by decide +kernel) (by decide +kernel) (by kernel_rfl)
theorem nX(a b:Value):gX "set.__getattribute__" ⟨[a,b],[]⟩:=by unfold gX;kernel_rfl
structure BFacts(T:String)(name:Str)(id ga:String):Prop where
 lk:gw (.type T) name=ck (some (.builtin id))
 ty:rF (.builtin id)=ck (.type "method_descriptor")
 told:Manifest.toldItsClass.contains id=false
 sub:tR (.type T) (.type (".".intercalate (id.cutAt '.').dropLast))=ck true
 cop:(["__module__","__name__","__qualname__","__doc__","__annotations__"]:List Str).contains name=false
 slot:Slot T "__getattribute__" ga
 entry:kC xb ga=some Builtin.«object.__getattribute__»
 args:∀a b,gX ga ⟨[a,b],[]⟩
section
variable {T:String}{name:Str}{id ga:String} (f:BFacts T name id ga)
include f
theorem LW{P:Fin→Shared→Prop}(hT:s.TypeIs (.ref a) T)(h:P (.done (.ret (.ref s.heap.objs.size))) {s with heap:=s.heap.push (cf id (.ref a))}):
  ay M A (Builtin.«method_descriptor.__get__» ⟨[.builtin id,.ref a,.type T],[]⟩) P E s:=by
 unfold Builtin.«method_descriptor.__get__»;refine af (bN (a:=(.builtin id,some (.ref a),some (.type T))) (by first|rfl|kernel_rfl) ?_);simp only[f.told,g9,if_false];obtain ⟨hp,g,d,tk,os⟩:=s;have e:=f.sub;clear f
 repeat (any_goals (first|with_reducible assumption|wp_step))
 exact h
theorem FS(a:Addr)(o:Obj)(u:Tok)(hc:o.cls=.type T)(hd:o.dict=none)(hn:(∃es k,o.data=.dict es k)∨∃es k t,o.data=.set es k t):
  Meets (Builtin.«object.__getattribute__» ⟨[.ref a,.str name u],[]⟩) (λA R s=>s.heap.get? a=some o∧R (.ok (.ret (.ref s.heap.objs.size))) {s with heap:=s.heap.push (cf id (.ref a))}):=
 Meets.of_wp λprog w A R s hs=>by
  obtain ⟨hp,g,d,tk,os⟩:=s;obtain ⟨B,hs⟩:=hs
  have hT:(⟨hp,g,d,tk,os⟩:Shared).TypeIs (.ref a) T:=⟨_,B,hc⟩
  have Y:=f.lk;have e:=f.ty;have U:=AZ;have O:=HI;have J:=HJ;have G:=f.cop;have z:=@LW _ _ _ _ f;clear f;obtain ⟨c,dd,H,sl⟩:=o;dsimp only at hc hd hn;subst hc hd;unfold Builtin.«object.__getattribute__»
  repeat (any_goals (first|with_reducible assumption|(with_reducible refine bN e ?_)|((with_reducible show ay _ _ (call (jg "method_descriptor.__get__") _ _) _ _ _);refine ej rV e qH (z hT ?_) (so _ _ _))|wp_step))
  rcases hn with ⟨es,k,rfl⟩|⟨es,k,t,rfl⟩
  all_goals (
   repeat (any_goals (first|with_reducible assumption|(with_reducible refine bN e ?_)|((with_reducible show ay _ _ (call (jg "method_descriptor.__get__") _ _) _ _ _);refine ej rV e qH (z hT ?_) (so _ _ _))|wp_step))
   refine PySem.W.KFB.if_not G ?_
   repeat (any_goals (first|with_reducible assumption|(with_reducible refine bN e ?_)|((with_reducible show ay _ _ (call (jg "method_descriptor.__get__") _ _) _ _ _);refine ej rV e qH (z hT ?_) (so _ _ _))|wp_step))
   exact⟨_,rfl,ag ⟨_,rfl,hs⟩⟩)
theorem w6(a:Addr)(o:Obj)(hc:o.cls=.type T)(hd:o.dict=none)(hn:(∃es k,o.data=.dict es k)∨∃es k t,o.data=.set es k t)
  (e:s.heap.get? a=some o) (h:Q (.ref s.heap.objs.size) {s with heap:=s.heap.push (cf id (.ref a)),toks:=s.toks+1}):
  ay (aq prog w) A (jJ (.ref a) name ex) Q E s:=by
 obtain ⟨hp,g,d,tk,os⟩:=s;obtain ⟨c,J,B,sl⟩:=o;dsimp only at hc hd hn;subst hc hd
 have hT:∀tk',(⟨hp,g,d,tk',os⟩:Shared).TypeIs (.ref a) T:=λ_=>(c9 _ e rfl)
 have H:=f.slot.lookup;have G:=f.slot.bind (.ref a);have u:=@FS _ _ _ _ f;have fs:=f.slot;have z:=f.entry;have fa:=f.args;clear f;unfold jJ getAttrBy;cases ex
 all_goals (
  repeat (any_goals (first|with_reducible assumption|with_reducible exact hT _|((with_reducible show ay _ _ (call (jg _) _ _) _ _ _);refine call_meets fs (hT _) z (fa _ _) (u a _ _ rfl rfl hn) ⟨e,?_⟩)|wp_step))
  exact ag h)
end
theorem L5:BFacts "dict" "get" "dict.get" "dict.__getattribute__" where
 lk:=by rw[cr,bu];kernel_rfl
 ty:=by refine(?_:Mt _=_);rw[vc];kernel_rfl
 told:=by decide +kernel
 sub:=by rw[dr];kernel_rfl
 cop:=by decide +kernel
 slot:=CQ
 entry:=CL
 args:=Ay
theorem L4:BFacts "dict" "__contains__" "dict.__contains__" "dict.__getattribute__" where
 lk:=by rw[cr,bu];kernel_rfl
 ty:=by refine(?_:Mt _=_);rw[vc];kernel_rfl
 told:=by decide +kernel
 sub:=by rw[dr];kernel_rfl
 cop:=by decide +kernel
 slot:=CQ
 entry:=CL
 args:=Ay
theorem II:BFacts "set" "__contains__" "set.__contains__" "set.__getattribute__" where
 lk:=by rw[cr,bu];kernel_rfl
 ty:=by refine(?_:Mt _=_);rw[vc];kernel_rfl
 told:=by decide +kernel
 sub:=by rw[dr];kernel_rfl
 cop:=by decide +kernel
 slot:=nQ
 entry:=nD
 args:=nX
end
section
open W PyProof Rows PySem.Calls
open PySem.Builtin
section
variable {prog:Program}{w:World}{M:Model}{A:Around}{E:VP}{s:Shared}{K:Frag}{h₀:Heap}{L:Addr}{m:Lo}{news:Ns}
noncomputable def tK(x:Addr)(id:String)(self:Value)(h:Heap):Prop:=h.get? x=some (cf id self)
theorem zq{x:Addr}{id:String}{self:Value}{h:Heap}(N:ba h₀ L h news)(hm:(x,cf id self)∈news):tK x id self h:=N.get hm
theorem CB(hplain:args.any (·.1)=false)
  (h:ay M A (evalArgs (.ref u) true args []) (λx s₁=>tK u bid self s₁.heap∧ay M A (call (.ref u) (first++x.pos) x.kw) Q E s₁) E s):ay M A (iG pos (.ref u) first args []) Q E s:=by
 unfold iG;refine af (bA (cg h (λx s₁ e=>af (gW ?_)) λ_ _ x=>x));refine b7 e λho hcall=>?_
 try clear e
 rw[hplain];refine af (m:=keeperOf (.ref u)) ?_;unfold keeperOf;refine af (n4 ho (ag ?_));exact af (cg hcall (λr s₂ hr=>af (bA (wpAny_point (ag hr)))) λ_ _ x=>x)
theorem pK(_N:ba h₀ L s.heap news)(_hm:(u,cf bid self)∈news)
  (h:ay M A (spliced (ff pos (bV (e::rest) env))) (λvs s₁=>tK u bid self s₁.heap∧ay M A (call (.ref u) (first++vs)) Q E s₁) E s)
  (he:autoParam (bV (e::rest) env=(false,eval e env)::bV rest env) zAa) (hplain:autoParam ((ff pos (bV rest env)).any (·.1)=false) zAa):
  ay M A (iG pos (.ref u) first (ff pos (bV (e::rest) env)) []) Q E s:=by
 rw[he] at h ⊢;refine CB (bid:=bid) (self:=self) (by refine(?_:(false||(ff pos (bV rest env)).any (·.1))=false);rw[hplain];rfl) ?_;exact evalArgs_plain h
theorem L6(ho:s.heap.get? a=some o)(u:o.cls=.type T)(hn:(∃es k,o.data=.dict es k)∨∃es k t,o.data=.set es k t)(hk:Mu bid=some .method)(hv:xm.contains bid=false)
  (hm:tR (.type T) (.type "module")=ck false)
  (hc:(match iJ bid with|none=>ck ()|some e=>xz bid {e with full:=s!"{Bind.lastOf T}.{Bind.lastOf bid}" } ⟨.ref a::rest,[]⟩)=ck ()) (h:Q () s):
  ay M A (checkBoundCall bid ⟨.ref a::rest,[]⟩) Q E s:=by
 unfold checkBoundCall
 cases hs:iJ bid with
 | none=>exact ag h
 | some e=>
  rw[hs] at hc;rw[hk,hv];obtain ⟨hp,g,d,tk,os⟩:=s;obtain ⟨c,B,z,sl⟩:=o;dsimp only at u hn;subst u
  have hT:(⟨hp,g,d,tk,os⟩:Shared).TypeIs (.ref a) T:=(c9 _ ho rfl)
  repeat (any_goals (first|with_reducible assumption|wp_step))
  rcases hn with ⟨es,k,rfl⟩|⟨es,k,t,rfl⟩
  all_goals (
   repeat (any_goals (first|with_reducible assumption|with_reducible refine bN hc ?_|wp_step)))
theorem Gd(hq:s.heap.get? q=some (cf bid (.ref a)))(ho:s.heap.get? a=some o)(H:o.cls=.type T)(hn:(∃es k,o.data=.dict es k)∨∃es k t,o.data=.set es k t)(hk:Mu bid=some .method)(hv:xm.contains bid=false)
  (hm:tR (.type T) (.type "module")=ck false)
  (hc:(match iJ bid with|none=>ck ()|some u=>xz bid {u with full:=s!"{Bind.lastOf T}.{Bind.lastOf bid}" } ⟨.ref a::rest,[]⟩)=ck ())
  (z:∀J,(pR bid J).quiet=true) (G:plainId bid=true) (entry:kC xb bid=some B)
  (h:ay (aq prog w) A.in1 (B ⟨.ref a::rest,[]⟩) (λfin s'=>match fin with | .done f=>wants Q E (.ok f) s' | .again c'=>c'.quiet=true∧dH (aq prog w) A c' (wants Q E) s') (λe s'=>E e s') s):
  ay (aq prog w) A (call (.ref q) rest) Q E s:=by
 refine ev (Aw ?_);refine af (n4 hq ?_);refine PySem.W.KFB.if_so (by kernel_rfl) ?_;refine PySem.W.KFB.if_so (by kernel_rfl) ?_;refine af (L6 ho H hn hk hv hm hc ?_);refine af (ag (ag ?_));refine⟨z _,eM entry ?_⟩;rw[show A.under (pR bid ⟨#[jg bid,bF a][1]::rest,[]⟩)=A.in1 from fH G _];exact h
end
section
variable {prog:Program}{w:World}{A:Around}{E:VP}{s:Shared}{h₀:Heap}{L:Addr}{m:Lo}{news:Ns}{q d:Addr}{o:Obj}{kvs:List (Int×Value)}{k:Int}{t:Tok}{dflt:Value}{Q:VP}
theorem dict_parts{K:Type}[DecidableEq K]{knd:KeyKind prog w K}{kvs:List (K×Value)}(hd:o.IsDictOf knd kvs):o.cls=.type "dict"∧o.dict=none∧((∃es k,o.data=.dict es k)∨∃es k t,o.data=.set es k t):=
 let ⟨es,ep,e,he,_⟩:=hd;(eR e.1 e.2.1 (.inl ⟨es,ep,he⟩))
theorem QW(N:ba h₀ L s.heap news)(hq:(q,cf "dict.get" (.ref d))∈news)(hp:(d,o)∈news)(hd:o.IsDictOf (gR prog w) kvs)(lo:(d==cN)=false)
  (h:Q ((cX kvs k).getD dflt) {s with toks:=s.toks+1}):ay (aq prog w) A (call (.ref q) [.int k t,dflt]) Q E s:=
 have hD:=kda_dict N hp hd
 Gd (T:="dict") (N _ hq).1 (N _ hp).1 (dict_parts hd).1 (dict_parts hd).2.2 (by decide +kernel) (by decide +kernel) (by rw[dr];kernel_rfl) (by kernel_rfl) (λ_=>eS _ (by decide +kernel)) (by decide +kernel) PySem.F.entry_dict_get
  (meets_dict_get_default (gR prog w) d (jW _ _ _ _) lo dflt A (wants Q E) s (c9 _ hD.mapOf h))
theorem QV(N:ba h₀ L s.heap news)(hq:(q,cf "dict.__contains__" (.ref d))∈news)(hp:(d,o)∈news)(hd:o.IsDictOf (gR prog w) kvs)(lo:(d==cN)=false)
  (h:Q (.bool (cX kvs k).isSome) {s with toks:=s.toks+1}):ay (aq prog w) A (call (.ref q) [.int k t]) Q E s:=
 have hD:=kda_dict N hp hd
 Gd (T:="dict") (N _ hq).1 (N _ hp).1 (dict_parts hd).1 (dict_parts hd).2.2 (by decide +kernel) (by decide +kernel) (by rw[dr];kernel_rfl) (by kernel_rfl) (λ_=>eS _ (by decide +kernel)) (by decide +kernel) PySem.F.entry_dict_contains
  (meets_dict_contains (gR prog w) d (jW _ _ _ _) lo A (wants Q E) s (c9 _ hD.mapOf h))
noncomputable def dt(led:Bool):Obj:={cls:=.type "set",dict:=none,data:=.set #[] 0 (.fresh 0 0 led)}
theorem Jr(N:ba h₀ L s.heap news)(hq:(q,cf "set.__contains__" (.ref d))∈news)(hp:(d,dt led)∈news)
  (h:Q (.bool false) {s with toks:=s.toks+1}):ay (aq prog w) A (call (.ref q) [.int k t]) Q E s:=by
 have e:s.heap.SetOf (gR prog w) d (λ_=>false) 0:=(setObjOf_fresh (knd:=gR prog w) led).setOf (N _ hp).1 (by decide);refine Gd (T:="set") (N _ hq).1 (N _ hp).1 rfl (.inr (OH _ _ _ rfl)) (by decide +kernel) (by decide +kernel) (by rw[dr];kernel_rfl) (by kernel_rfl) (λ_=>eS _ (by decide +kernel)) (by decide +kernel) entry_set_contains ?_;unfold Builtin.«frozenset.__contains__» MF;refine af (af (ag (ag ?_)));unfold ME setContains;refine af (jc ?_);refine bA ?_;refine af ((gR prog w).pyHash (jW _ _ k t) ?_);refine af (wpAny_setFind_of (s:={s with toks:=s.toks+1}) (jW _ _ k t) (by rfl) e λr hr=>?_);refine ag ?_;rw[hr];exact ag h
theorem Pe(F:Fr h₀ L s.heap m)(N:ba h₀ L s.heap news)(hp:(d,o)∈news)(hd:o.IsDictOf (gR prog w) kvs)
  (h:∀q h',Fr h₀ L h' m→ba h₀ L h' ((q,cf "dict.get" (.ref d))::news)→(∀p∈news,p.1<q)→Q (.ref q) {s with heap:=h',toks:=s.toks+1}):ay (aq prog w) A (jJ (.ref d) "get" ex) Q E s:=
 w6 L5 d o (dict_parts hd).1 (dict_parts hd).2.1 (dict_parts hd).2.2 (N _ hp).1 (h _ _ (F.push _) (N.push F _) λp hp=>bM (N p hp).1)
theorem Pd(F:Fr h₀ L s.heap m)(N:ba h₀ L s.heap news)(hp:(d,o)∈news)(hd:o.IsDictOf (gR prog w) kvs)
  (h:∀q h',Fr h₀ L h' m→ba h₀ L h' ((q,cf "dict.__contains__" (.ref d))::news)→(∀p∈news,p.1<q)→Q (.ref q) {s with heap:=h',toks:=s.toks+1}):ay (aq prog w) A (jJ (.ref d) "__contains__" ex) Q E s:=
 w6 L4 d o (dict_parts hd).1 (dict_parts hd).2.1 (dict_parts hd).2.2 (N _ hp).1 (h _ _ (F.push _) (N.push F _) λp hp=>bM (N p hp).1)
theorem Jw(F:Fr h₀ L s.heap m)(N:ba h₀ L s.heap news)(hp:(d,dt led)∈news)
  (h:∀q h',Fr h₀ L h' m→ba h₀ L h' ((q,cf "set.__contains__" (.ref d))::news)→(∀p∈news,p.1<q)→Q (.ref q) {s with heap:=h',toks:=s.toks+1}):ay (aq prog w) A (jJ (.ref d) "__contains__" ex) Q E s:=
 w6 II d _ rfl rfl (.inr (OH _ _ _ rfl)) (N _ hp).1 (h _ _ (F.push _) (N.push F _) λp hp=>bM (N p hp).1)
theorem Ob{e:M7 Bool}{Q:Value×List Value→Shared→Prop}(N:ba h₀ L s.heap news)(hp:(d,o)∈news)(hd:o.IsDictOf (gR prog w) kvs)(h:Q (.builtin "dict.get",[.ref d]) s):ay (aq prog w) A (gL (.ref d) "get" e) Q E s:=kdg_method N hp hd h
theorem Od{e:M7 Bool}{Q:Value×List Value→Shared→Prop}(N:ba h₀ L s.heap news)(hp:(d,o)∈news)(hd:o.IsDictOf (gR prog w) kvs)(h:Q (.builtin "dict.setdefault",[.ref d]) s):ay (aq prog w) A (gL (.ref d) "setdefault" e) Q E s:=kob_method PySem.F.slot_dict_setdefault PySem.F.type_dict_setdefault N hp hd h
theorem QR(N:ba h₀ L s.heap news)(hp:(d,o)∈news)(hd:o.IsDictOf (gR prog w) kvs)(lo:(d==cN)=false)(h:Q ((cX kvs k).getD dflt) {s with toks:=s.toks+1}):
  ay (aq prog w) A (call (.builtin "dict.get") [.ref d,.int k t,dflt]) Q E s:=kdg_get2 N hp hd lo (jW _ _ _ _) _ rfl h
end
end
section
open W PyProof Rows PySem.Calls
theorem cm(N:ba h₀ L h all)(sub:∀p∈n,p∈all):ba h₀ L h n:=λp hp=>N p (sub p hp)
section
variable {prog:Program}{w:World}{A:Around}{E:VP}{env:Env}{h₀:Heap}{target:PE}{body:List Stmt}{Q:FP}{s:Shared}
theorem yJ{ws:List (Addr×String)}:∀{k e:Ns→Prop},(∀its,k its→e its)→AllObj ws k→AllObj ws e:=by
 induction ws with
 | nil=>exact λh x=>h _ x
 | cons w r u=>exact λh x o ho=>u (λits=>h _) (x o ho)
theorem wC{L:Addr}{s₁:Shared}{its:Ns}{r u:(Lo)→Ns→Prop}(h:∀m n,r m n→u m n)(f:ve)(s₂:Shared)(x:mj h₀ L s₁ its r Q f s₂):mj h₀ L s₁ its u Q f s₂:=by
 cases f with
 | ret v=>exact x
 | brk=>exact x
 | next=>refine zF x λh' tk m' n' e F N o z=>?_;try clear x;exact(zW h' tk m' n' e F N o (h _ _ z))
 | cont=>refine zF x λh' tk m' n' e F N o z=>?_;try clear x;exact(zW h' tk m' n' e F N o (h _ _ z))
theorem B2{ws:List (Addr×String)}{keep:Ns}(xs:List Itm)(J:Nat→(Lo)→Ns→Prop)
  (turn:∀i a m news,xs[i]?=some a→J i m news→∀v h tk,a.Is v h→Fr h₀ env.locals h m→AllObj ws (λits=>ba h₀ env.locals h (its++news)→
   ay (aq prog w) A (de target env v) (λ_ s₂=>ay (aq prog w) A (kz body env) (mj h₀ env.locals {s with heap:=h,toks:=tk} its (λm' n'=>IY keep n'∧J (i+1) m' n') Q) E s₂) E {s with heap:=h,toks:=tk}))
  (done:∀m news h tk,J xs.length m news→Fr h₀ env.locals h m→ba h₀ env.locals h news→Q .next {s with heap:=h,toks:=tk}):
  ∀k i m news,i+k=xs.length→J i m news→qR prog w A E h₀ env target body Q s ws keep (xs.drop i) m news:=by
 intro k
 induction k with
 | zero=>
  intro i m news e hJ;have:i=xs.length:=vn (cS [i,xs.length] 1 Z0 Z1 1 (.a Z0 Y0) Z1 rfl (vX e)) (cS [xs.length,i] 1 Z0 Z1 1 Z0 (.a Z1 Y0) rfl (l9 e));subst this;rw[JI];exact λh tk F N=>done m news h tk hJ F N
 | succ k u=>
  intro i m news e hJ;have hi:i<xs.length:=L9 e;rw[List.drop_eq_getElem_cons hi];intro v h tk ha F;refine yJ (λits x N=>?_) (turn i xs[i] m news (by simp [hi]) hJ v h tk ha F);refine cg (x N) (λ_ s₂ y=>cg y (λf s₃ z=>wC (λm' n' q=>⟨q.1,u (i+1) m' n' (Pg e) q.2⟩) f s₃ z) λ_ _ z=>z) λ_ _ z=>z
theorem pA{ws:List (Addr×String)}(J:Nat→(Lo)→Ns→Prop)(hJ:J 0 m news)
  (turn:∀i a m news,xs[i]?=some a→J i m news→∀v h tk,a.Is v h→Fr h₀ env.locals h m→AllObj ws (λits=>ba h₀ env.locals h (its++news)→
   ay (aq prog w) A (de target env v) (λ_ s₂=>ay (aq prog w) A (kz body env) (mj h₀ env.locals {s with heap:=h,toks:=tk} its (λm' n'=>IY keep n'∧J (i+1) m' n') Q) E s₂) E {s with heap:=h,toks:=tk}))
  (done:∀m news h tk,J xs.length m news→Fr h₀ env.locals h m→ba h₀ env.locals h news→Q .next {s with heap:=h,toks:=tk}):
  qR prog w A E h₀ env target body Q s ws keep xs m news:=by
 have:=B2 (prog:=prog) (w:=w) (A:=A) (E:=E) (Q:=Q) (s:=s) (ws:=ws) (keep:=keep) xs J turn done xs.length 0 m news (vn (kJ [xs.length] (.a Y0 Z0) Z0 rfl) (kJ [xs.length] Z0 (.a Y0 Z0) rfl)) hJ;simpa using this
theorem xG(F:Fr h₀ L h' m')(N:ba h₀ L h' all)(r:rest m' e)
  (z:(I,u)∈all) (sub:∀p∈e,p∈all) (off:∀p∈e,p.1≠I):IX h₀ L s₁ [(I,u)] rest {s₁ with heap:=h',toks:=tk}:=
 (zW h' tk m' e rfl F (λp hp=>(aC.mp hp).elim (λh=>N p (aA.mp h▸z)) (λh=>N p (sub p h))) (λp hp q hq=>by rw[aA.mp hq];exact off p hp) r)
theorem B6{nm:String}(hi:au vs ns)(J:Nat→(Lo)→Ns→Prop)(hJ:J 0 m news)
  (turn:∀i n t m news o h tk,ns[i]?=some n→J i m news→o.cls=.type nm→Fr h₀ env.locals h m→ba h₀ env.locals h ((I,o)::news)→
   ay (aq prog w) A (de target env (.int n t)) (λ_ s₂=>ay (aq prog w) A (kz body env) (mj h₀ env.locals {s with heap:=h,toks:=tk} [(I,o)] (λm' n'=>IY keep n'∧J (i+1) m' n') Q) E s₂) E {s with heap:=h,toks:=tk})
  (done:∀m news h tk,J ns.length m news→Fr h₀ env.locals h m→ba h₀ env.locals h news→Q .next {s with heap:=h,toks:=tk}):
  qR prog w A E h₀ env target body Q s [(I,nm)] keep (vs.map .val) m news:=by
 refine pA J hJ ?_ ?_
 .intro i a m news ha hJ v h tk hv F o ho N
  rw[eO] at ha
  have hl:i<vs.length:=by
   rcases CS i vs.length with h|h
   .exact h
   .rw[CZ h] at ha;cases ha
  have hn:i<ns.length:=by rw[← hi.length];exact hl
  refine cp (hi.get i ns[i] (by simp [hn])) λt z=>?_;rw[z] at ha;have u:Itm.val (.int ns[i] t)=a:=dJ ha;subst u;have e:v=.int ns[i] t:=hv;subst e;exact turn i _ t m news o h tk (by simp [hn]) hJ ho F N
 .intro m news h tk hJ F N
  rw[aE,hi.length] at hJ;exact done m news h tk hJ F N
theorem zP(h:e () s'):ay (aq prog w) A (rN (.Name x px) (.ref I) v) e E s':=by
 unfold rN;exact ag h
theorem kg{x:Str}{px:Pos}{r:Addr}{e z:Int}{O J H:Tok}{n:Nat}{G:Lo}{news:Ns}
  (hh:A.handled=none) (hr:IsRange s.heap r e z 1 O J H) (B:dL e z 1=true) (hn:lI e z 1=(n:Int)) (F:Fr h₀ env.locals s.heap G) (N:ba h₀ env.locals s.heap news)
  (u:∀I:Addr,(∀p∈news,p.1<I)→qR prog w A E h₀ env (.Name x px) body Q s [(I,"range_iterator")] [] ((aU n).map λ(i:Nat)=>JC λt=>.int (e+(i:Int)) t) G news):
  ay (aq prog w) A (rH (.ref r)) (λit s₂=>TurnsAt prog w A h₀ env (.Name x px) body Q E it s₂) E s:=by
 refine wpAny_pyIter_range hr B ?_
 have W:y9 prog w A s.heap.objs.size [s.heap.objs.size] [s.heap.objs.size] n (λi v=>i<n∧∃t,v=.int (e+i*1) t)
   (λi h=>IsRangeIter h s.heap.objs.size (e+(i:Nat)*1) ((n:Int)-(i:Nat)) 1):=(Walks.range hh _ e 1 n).bound
 refine ktu_core (tk0:=s.toks) (keep:=[]) (KTurns.ofWalks W λi v s Q E st q=>zP q) (by simp) (λi v h hp=>?_) (λi h st=>?_) (λb hb=>?_) (λb hb=>by simpa using hb) (λb hb=>?_) ?_ (λp hp hI=>?_) ?_ (F.push _) (λp hp=>⟨aG _ (N p hp).1,(N p hp).2⟩) trivial (u _ λp hp=>bM (N p hp).1)
 .refine b7 hp λhi U=>?_
  try clear hp
  obtain ⟨t,rfl⟩:=U;refine(c9 (JC λt=>.int (e+(i:Int)) t) (by simp [hi]) ⟨t,by simp⟩)
 .exact(c9 [(s.heap.objs.size,_)] ⟨⟨rfl,rfl⟩,trivial⟩ (λp hp=>by rw[aA.mp hp];exact st))
 .have Y:b=s.heap.objs.size:=by simpa using hb
  rw[Y];exact⟨zH,jh F⟩
 .exact .inl (by simpa using hb)
 .intro hI
  exact absurd F.ns.lt ((aA.mp hI)▸c8 _)
 .exact absurd (bM (N p hp).1) ((aA.mp hI)▸c8 _)
 .refine(?_:IsRangeIter _ _ _ _ _)
  rw[hn];simpa using a9 _ rfl
theorem qv{nm:String}(J:Nat→(Lo)→Ns→Prop)(hJ:J 0 m news)
  (turn:∀i t m news o h tk,i<n→J i m news→o.cls=.type nm→Fr h₀ env.locals h m→ba h₀ env.locals h ((I,o)::news)→
   ay (aq prog w) A (de (.Name x px) env (.int (e+(i:Int)) t)) (λ_ s₂=>ay (aq prog w) A (kz body env) (mj h₀ env.locals {s with heap:=h,toks:=tk} [(I,o)] (λm' n'=>IY [] n'∧J (i+1) m' n') Q) E s₂) E {s with heap:=h,toks:=tk})
  (done:∀m news h tk,J n m news→Fr h₀ env.locals h m→ba h₀ env.locals h news→Q .next {s with heap:=h,toks:=tk}):
  qR prog w A E h₀ env (.Name x px) body Q s [(I,nm)] [] ((aU n).map λ(i:Nat)=>JC λt=>.int (e+(i:Int)) t) m news:=by
 refine pA J hJ ?_ ?_
 .intro i a m news ha hJ v h tk hv F o ho N
  rw[eO] at ha
  by_cases hi:i<n
  .rw[ao (by simpa using hi)] at ha
   have u:JC (λt=>.int (e+(i:Int)) t)=a:=by simpa using ha
   subst u;obtain ⟨t,ht⟩:∃t,v=.int (e+(i:Int)) t:=hv;subst ht;exact turn i t m news o h tk hi hJ ho F N
  .rw[CZ (by simpa using cJ hi)] at ha
   cases ha
 .intro m news h tk hJ F N
  rw[aE,db] at hJ;exact done m news h tk hJ F N
noncomputable def Pj(h₀:Heap)(L:Addr)(s:Shared)(J:(Lo)→Ns→Prop)(s₂:Shared):Prop:=∃h' tk m' nx,s₂ = {s with heap:=h',toks:=tk}∧Fr h₀ L h' m'∧ba h₀ L h' nx∧J m' nx
noncomputable def Ph(h₀:Heap)(L:Addr)(s:Shared)(Q:FP)(J:Nat→(Lo)→Ns→Prop)(n:Nat)(f:ve)(s₃:Shared):Prop:=
 match f with
 | .ret v=>Q (.ret v) s₃
 | .brk=>Q .next s₃
 | _=>∃k,k<n∧Pj h₀ L s (J k) s₃
end
noncomputable def zS:List (Str×Value)→(Lo)→Lo
 | [],m=>m
 | p::r,m=>λz=>if z=p.1 then some p.2 else zS r m z
noncomputable def Gj(m:Lo):List (Str×Value)→Prop
 | []=>True
 | p::r=>m p.1=some p.2∧Gj m r
noncomputable def FB(ys:List Int)(kvs:List (Int×Value)):Prop:=(∀k∈ys,∃t,cX kvs k=some (.int 1 t))∧∀k,k∉ys→cX kvs k=none
theorem mL{α:Type}{l:List α}{i:Nat}{n:α}(h:l[i]?=some n):i<l.length:=(bP.mp h).1
theorem qx{ys:List Int}(h:ys.Nodup){i:Nat}{n:Int}(hn:ys[i]?=some n):n∉ys.take i:=by
 intro hm;obtain ⟨j,hj,e⟩:=List.mem_take_iff_getElem.mp hm;refine cp (bP.mp hn) λhi e2=>?_;have:=(List.getElem_inj h).mp (e.trans e2.symm);exact(qz (g5 [i,j,↑(min i ys.length)] 1 Y0 (.k (-1)) 1 Z0 Z1 1 (.a Z1 Y1) Z2 1 Z2 Z0 rfl (l9 this) (d9 hj) KD))
theorem Ix{xs ys:List Int}{i:Nat}{n:Int}(hn:xs[i]?=some n)(h:n∈ys):(((xs.take (i+1)).filter (·∈ys)).length:Int)=(((xs.take i).filter (·∈ys)).length:Int)+1:=by
 rw[fo,hn];simp [h]
theorem LK{xs ys:List Int}{i:Nat}{n:Int}(hn:xs[i]?=some n)(h:n∉ys):(((xs.take (i+1)).filter (·∈ys)).length:Int)=(((xs.take i).filter (·∈ys)).length:Int):=by
 rw[fo,hn];simp [h]
theorem wF{ys:List Int}{i:Nat}{n k:Int}(hn:ys[i]?=some n)(hk:k∈ys.take (i+1))(e:k≠n):k∈ys.take i:=by
 rw[fo,hn] at hk;simpa [e] using hk
theorem kf{ys:List Int}{i:Nat}{n k:Int}(hn:ys[i]?=some n)(hk:k∉ys.take (i+1)):k≠n:=by
 rintro rfl;rw[fo,hn] at hk;simp at hk
theorem lZ{ys:List Int}{i:Nat}{k:Int}(hk:k∉ys.take (i+1)):k∉ys.take i:=λh=>hk (by rw[fo];exact zL h)
section
variable {prog:Program}{w:World}{A:Around}{E:VP}{s:Shared}{h₀:Heap}{L:Addr}{m:Lo}{news:Ns}{q d:Addr}{o:Obj}{kvs:List (Int×Value)}{k:Int}{t:Tok}{dflt:Value}{Q:VP}{x:Option Value}
theorem Jv(N:ba h₀ L s.heap news)(hq:(q,cf "dict.get" (.ref d))∈news)(hp:(d,o)∈news)(hd:o.IsDictOf (gR prog w) kvs)(lo:(d==cN)=false)(e:cX kvs k=x)
  (h:Q (x.getD dflt) {s with toks:=s.toks+1}):ay (aq prog w) A (call (.ref q) [.int k t,dflt]) Q E s:=QW N hq hp hd lo (by rw[e];exact h)
theorem Ju(N:ba h₀ L s.heap news)(hq:(q,cf "dict.__contains__" (.ref d))∈news)(hp:(d,o)∈news)(hd:o.IsDictOf (gR prog w) kvs)(lo:(d==cN)=false)(e:cX kvs k=x)
  (h:Q (.bool x.isSome) {s with toks:=s.toks+1}):ay (aq prog w) A (call (.ref q) [.int k t]) Q E s:=QV N hq hp hd lo (by rw[e];exact h)
theorem Jp(N:ba h₀ L s.heap news)(hp:(d,o)∈news)(hd:o.IsDictOf (gR prog w) kvs)(lo:(d==cN)=false)(e:cX kvs k=x)(h:Q (x.getD dflt) {s with toks:=s.toks+1}):
  ay (aq prog w) A (call (.builtin "dict.get") [.ref d,.int k t,dflt]) Q E s:=QR N hp hd lo (by rw[e];exact h)
theorem pf{p:Int×Value}{r:List (Int×Value)}{j:Int} : cX (p::r) j=if p.1=j then some p.2 else cX r j:=by
 unfold cX;rw[List.find?_cons]
 by_cases h:p.1=j<;>simp [h]
theorem Dj{k j:Int}{v:Value}:∀{kvs:List (Int×Value)},cX (kvs.map (λu=>if u.1=k then (u.1,v) else u)) j=if j=k then (cX kvs j).map (λ_=>v) else cX kvs j
 | []=>by simp [cX]
 | p::r=>by
  rw[kH,pf,pf,Dj (kvs:=r)]
  by_cases h1:p.1=k
  .by_cases h2:j=k
   .subst h2;simp [h1]
   .have h3:¬k=j:=λe=>h2 e.symm
    simp [h1,h2,h3]
  .by_cases h2:j=k
   .subst h2;simp [h1]
   .by_cases h3:p.1=j<;>simp [h1,h2,h3]
theorem Dk{k j:Int}{v:Value}:∀{kvs:List (Int×Value)},cX (kvs++[(k,v)]) j=match cX kvs j with|some x=>some x|none=>if k=j then some v else none
 | []=>by refine(?_:cX [(k,v)] j=_);rw[pf];rfl
 | p::r=>by
  rw[fE,pf,pf,Dk (kvs:=r)]
  by_cases h:p.1=j<;>simp [h]
theorem Dl{kvs:List (Int×Value)}{k:Int} : (kvs.any (λe=>e.1=k))=(cX kvs k).isSome:=by
 induction kvs with
 | nil=>rfl
 | cons p r u=>rw[List.any_cons,pf,u];by_cases h:p.1=k<;>simp [h]
theorem gD:cX (yN kvs k v) j=if j=k then some v else cX kvs j:=by
 unfold yN
 cases ha:kvs.any (λu=>u.1=k) with
 | true=>
  rw[if_pos rfl,Dj]
  by_cases h:j=k
  .subst h
   rw[Dl] at ha;refine cp (Option.isSome_iff_exists.mp ha) λx z=>?_;simp [z]
  .simp [h]
 | false=>
  rw[if_neg GR,Dk]
  by_cases h:j=k
  .subst h
   rw[Dl] at ha
   have:cX kvs j=none:=by cases e:cX kvs j with|none=>rfl|some x=>rw[e] at ha;cases ha
   simp [this]
  .have h':¬k=j:=λe=>h e.symm
   simp only[if_neg h,if_neg h'];cases cX kvs j<;>rfl
theorem qu:(yN kvs k v).length≤kvs.length+1:=by
 unfold yN;split<;>simp
end
end
section
open W PyProof.Rows
theorem RT:Nonempty World:=⟨⟨λ_ _=>0,{strHash:=λ_=>0,shareClass:=λ_=>0,mergeTok:=λt=>t,idOf:=λ_=>0,idOfShared:=λ_ _=>0,followText:=λ_=>true,idOfImm:=λ_=>0}⟩⟩
noncomputable def PU{P:World→Prop}{C:Prop}(_:(∀w,P w)→C):World:=@Classical.epsilon _ RT λw=>¬P w
theorem QY{P:World→Prop}{C:Prop}(f:(∀w,P w)→C)(u:World)(e:u=PU f)(h:P u):C:=
 f λw=>Classical.byContradiction λhn=>by
  rw[e] at h;exact @Classical.epsilon_spec _ (λw=>¬P w) ⟨w,hn⟩ h
noncomputable def Sh(w:World):Prop:=w=PU hd
theorem RG:∃w,Sh w:=⟨_,rfl⟩
noncomputable def W0:World:=Classical.choose RG
theorem SA:W0=PU hd:=Classical.choose_spec RG
end
section
open W PyProof Rows PySem.Calls
theorem Hl(h1:0≤a)(h2:a≤b)(h3:b≤32):dL a b 1=true:=by
 have e:lI a b 1=((b-a).toNat:Int):=pX a b;unfold dL Builtin.Range.rangeFitsLong;rw[e];simp;omega
noncomputable def qM(xs ys:List Int)(a b k:Int):Prop:=∀t:Nat,(t:Int)<k→∃v,xs[(a+t).toNat]?=some v∧ys[(b+t).toNat]?=some v
theorem wo:qM xs ys a b 0:=λt h=>absurd h (λhh=>MR hh j0)
theorem pJ(h:qM xs ys a b k)(hk:0≤k)(h1:xs[(a+k).toNat]?=some v)(h2:ys[(b+k).toNat]?=some v):qM xs ys a b (k+1):=by
 intro t ht
 by_cases e:(t:Int)=k
 .exact⟨v,by rw[e];exact h1,by rw[e];exact h2⟩
 .exact h t (by lia)
theorem Cr(h:qM xs ys a b k)(h1:xs[(a-1).toNat]?=some v)(h2:ys[(b-1).toNat]?=some v):qM xs ys (a-1) (b-1) (k+1):=by
 intro t ht
 cases t with
 | zero=>exact⟨v,by simpa using h1,by simpa using h2⟩
 | succ t=>
  obtain ⟨w,a1,a2⟩:=h t (cS [t,k] 1 (.a Z0 Y1) Z1 1 (.a (.a Z0 Y1) Y1) (.a Z1 Y1) rfl ht);exact⟨w,by rw[show (a-1+((t+1:Nat):Int))=a+t by exact nA (kJ [a,t] (.a (.s Z0 Y1) (.a Z1 Y1)) (.a Z0 Z1) rfl) (kJ [a,t] (.a Z0 Z1) (.a (.s Z0 Y1) (.a Z1 Y1)) rfl)];exact a1,by rw[show (b-1+((t+1:Nat):Int))=b+t by exact nA (kJ [b,t] (.a (.s Z0 Y1) (.a Z1 Y1)) (.a Z0 Z1) rfl) (kJ [b,t] (.a Z0 Z1) (.a (.s Z0 Y1) (.a Z1 Y1)) rfl)];exact a2⟩
noncomputable def uY(xs ys:List Int)(alo blo bhi:Int)(i:Nat):Prop:=∀p:Nat,p<i→∀q:Int,blo≤q→q<bhi→xs[(alo+p).toNat]?≠ys[q.toNat]?
noncomputable def BI(xs ys:List Int)(alo blo bhi:Int)(i:Nat)(bi bj bs:Int):Prop:=
 (bs=0∧bi=alo∧bj=blo∧uY xs ys alo blo bhi i)∨(1≤bs∧alo≤bi∧bi+bs≤alo+i∧blo≤bj∧bj+bs≤bhi∧qM xs ys bi bj bs)
noncomputable def JL(xs ys:List Int)(alo blo bhi:Int)(i:Nat)(kvs:List (Int×Value)):Prop:=
 ∀j x,cX kvs j=some x→∃k t,x=.int k t∧1≤k∧k≤i∧blo≤j-k+1∧j<bhi∧qM xs ys (alo+i-k) (j-k+1) k
theorem wK:JL xs ys alo blo bhi i []:=λj x h=>by cases h
theorem Gb:BI xs ys alo blo bhi 0 alo blo 0:=.inl ⟨rfl,rfl,rfl,λp hp=>absurd hp (xq _)⟩
theorem w7(h:BI xs ys alo blo bhi i bi bj bs)(hn:∀q:Int,blo≤q→q<bhi→xs[(alo+i).toNat]?≠ys[q.toNat]?):BI xs ys alo blo bhi (i+1) bi bj bs:=by
 rcases h with ⟨h1,h2,h3,h4⟩|⟨h1,h2,h3,h4⟩
 .refine .inl ⟨h1,h2,h3,λp hp q a b=>?_⟩
  by_cases e:p=i
  .subst e;exact hn q a b
  .exact h4 p (PB hp e) q a b
 .exact .inr ⟨h1,h2,by exact cS [bi,bs,alo,i] 1 (.a Z0 Z1) (.a Z2 (.a Z3 Y1)) 1 (.a Z0 Z1) (.a Z2 Z3) rfl h3,h4⟩
theorem BO{xs ys:List Int}{alo blo bhi:Int}{i:Nat}{v:Int}(u:xs[(alo+i).toNat]?=some v)(hn:v∉ys):∀q:Int,blo≤q→q<bhi→xs[(alo+i).toNat]?≠ys[q.toNat]?:=by
 intro q _ _ e;rw[u] at e;exact hn (cq e.symm)
theorem xL{xs ys:List Int}{alo blo bhi:Int}{i j:Nat}{v:Int}(u:ys.Nodup)(h0:0≤blo)(B:xs[(alo+i).toNat]?=some v)(z:ys[j]?=some v)(hj:(j:Int)<blo∨bhi≤(j:Int)):∀q:Int,blo≤q→q<bhi→xs[(alo+i).toNat]?≠ys[q.toNat]?:=by
 intro q h1 h2 e;rw[B] at e;have:=(tX (bP.mp z).1 u).mp (z.trans e);lia
theorem IH(h:BI xs ys alo blo bhi i bi bj bs)(hk:1≤k)(hb:¬bs<k):BI xs ys alo blo bhi (i+1) bi bj bs:=by
 rcases h with ⟨h1,h2,h3,h4⟩|⟨h1,h2,h3,h4⟩
 .exact(qz (g5 [bs,k] 1 Y0 (.k (-1)) 1 Z0 Y0 1 Z1 Z0 1 Y1 Z1 rfl (gV h1) (PC hb) hk)).elim
 .exact .inr ⟨h1,h2,by exact cS [bi,bs,alo,i] 1 (.a Z0 Z1) (.a Z2 (.a Z3 Y1)) 1 (.a Z0 Z1) (.a Z2 Z3) rfl h3,h4⟩
theorem L3{xs ys:List Int}{alo blo bhi:Int}{i:Nat}{j k:Int}(hk:1≤k)(e:k≤i+1)(hb:blo≤j-k+1)(hj:j<bhi)(d:qM xs ys (alo+i+1-k) (j-k+1) k):
  BI xs ys alo blo bhi (i+1) (alo+i-k+1) (j-k+1) k:=
 .inr ⟨hk,by exact cS [alo,i,k] 1 Z0 (.a (.s (.a Z0 Z1) Z2) Y1) 1 Z2 (.a Z1 Y1) rfl e,by exact kJ [alo,i,k] (.a (.a (.s (.a Z0 Z1) Z2) Y1) Z2) (.a Z0 (.a Z1 Y1)) rfl,hb,by exact cS [j,k,bhi] 1 (.a (.a (.s Z0 Z1) Y1) Z1) Z2 1 (.a Z0 Y1) Z2 rfl hj,by rw[show alo+i-k+1=alo+i+1-k by exact nA (kJ [alo,i,k] (.a (.s (.a Z0 Z1) Z2) Y1) (.s (.a (.a Z0 Z1) Y1) Z2) rfl) (kJ [alo,i,k] (.s (.a (.a Z0 Z1) Y1) Z2) (.a (.s (.a Z0 Z1) Z2) Y1) rfl)];exact d⟩
theorem new_one{xs ys:List Int}{alo:Int}{i j:Nat}{v:Int}(u:xs[(alo+i).toNat]?=some v)(e:ys[j]?=some v):qM xs ys (alo+i+1-(0+1)) ((j:Int)-(0+1)+1) (0+1):=
 pJ wo (bZ 0) (by rw[show alo+i+1-(0+1)+0=alo+i by exact nA (kJ [alo,i] (.a (.s (.a (.a Z0 Z1) Y1) (.a Y0 Y1)) Y0) (.a Z0 Z1) rfl) (kJ [alo,i] (.a Z0 Z1) (.a (.s (.a (.a Z0 Z1) Y1) (.a Y0 Y1)) Y0) rfl)];exact u) (by rw[show ((j:Int)-(0+1)+1+0).toNat=j by exact vn (cS [↑(((j:Int)-(0+1)+1+0).toNat),j] 1 Z0 Z1 1 Z0 (.a (.a (.s Z1 (.a Y0 Y1)) Y1) Y0) rfl (iZ (cS [j] 1 Y0 (.a (.a (.s Z0 (.a Y0 Y1)) Y1) Y0) 1 Y0 Z0 rfl j0))) (cS [j,↑(((j:Int)-(0+1)+1+0).toNat)] 1 Z0 Z1 1 (.a (.a (.s Z0 (.a Y0 Y1)) Y1) Y0) Z1 rfl tq)];exact e)
theorem Et{xs ys:List Int}{alo:Int}{i j:Nat}{v k:Int}(u:xs[(alo+i).toNat]?=some v)(e:ys[j]?=some v)(hk:1≤k)(d:qM xs ys (alo+i-k) ((j:Int)-1-k+1) k):qM xs ys (alo+i+1-(k+1)) ((j:Int)-(k+1)+1) (k+1):=by
 have e1:alo+i+1-(k+1)=alo+i-k:=nA (kJ [alo,i,k] (.s (.a (.a Z0 Z1) Y1) (.a Z2 Y1)) (.s (.a Z0 Z1) Z2) rfl) (kJ [alo,i,k] (.s (.a Z0 Z1) Z2) (.s (.a (.a Z0 Z1) Y1) (.a Z2 Y1)) rfl);have e2:(j:Int)-(k+1)+1=(j:Int)-1-k+1:=nA (kJ [j,k] (.a (.s Z0 (.a Z1 Y1)) Y1) (.a (.s (.s Z0 Y1) Z1) Y1) rfl) (kJ [j,k] (.a (.s (.s Z0 Y1) Z1) Y1) (.a (.s Z0 (.a Z1 Y1)) Y1) rfl);rw[e1,e2];exact pJ d (cS [k] 1 Y0 Z0 1 Y1 Z0 rfl hk) (by rw[show alo+i-k+k=alo+i by exact nA (kJ [alo,i,k] (.a (.s (.a Z0 Z1) Z2) Z2) (.a Z0 Z1) rfl) (kJ [alo,i,k] (.a Z0 Z1) (.a (.s (.a Z0 Z1) Z2) Z2) rfl)];exact u) (by rw[show ((j:Int)-1-k+1+k).toNat=j by exact vn (cS [↑(((j:Int)-1-k+1+k).toNat),j,k] 1 Z0 Z1 1 Z0 (.a (.a (.s (.s Z1 Y1) Z2) Y1) Z2) rfl (iZ (cS [j,k] 1 Y0 (.a (.a (.s (.s Z0 Y1) Z1) Y1) Z1) 1 Y0 Z0 rfl j0))) (cS [j,↑(((j:Int)-1-k+1+k).toNat),k] 1 Z0 Z1 1 (.a (.a (.s (.s Z0 Y1) Z2) Y1) Z2) Z1 rfl tq)];exact e)
theorem K6{xs ys:List Int}{alo blo bhi:Int}{i:Nat}{j k:Int}{t:Tok}(hk:1≤k)(z:k≤i+1)(hb:blo≤j-k+1)(hj:j<bhi)(d:qM xs ys (alo+i+1-k) (j-k+1) k):JL xs ys alo blo bhi (i+1) (yN [] j (.int k t)):=by
 intro q x hq;rw[gD] at hq
 by_cases e:q=j
 .rw[if_pos e] at hq
  subst e;have u:=dJ hq;exact⟨k,t,u.symm,hk,by exact cS [k,i] 1 Z0 (.a Z1 Y1) 1 Z0 (.a Z1 Y1) rfl z,hb,hj,by rw[show alo+((i+1:Nat):Int)-k=alo+i+1-k by exact nA (kJ [alo,i,k] (.s (.a Z0 (.a Z1 Y1)) Z2) (.s (.a (.a Z0 Z1) Y1) Z2) rfl) (kJ [alo,i,k] (.s (.a (.a Z0 Z1) Y1) Z2) (.s (.a Z0 (.a Z1 Y1)) Z2) rfl)];exact d⟩
 .rw[if_neg e] at hq;cases hq
noncomputable def yM(ys:List Int)(kvs:List (Int×Value))(news:Ns):Prop:=
 (∀k,k∉ys→cX kvs k=none)∧∀(j:Nat) (n:Int),ys[j]?=some n→∃(a:Addr) (t:Tok) (ep:Nat),cX kvs n=some (.ref a)∧(a,listOf #[.int (j:Int) t] ep)∈news
theorem kY{xs:List Int}{i:Nat}(h:i<xs.length):xs[i]?=some (xs.getD i 0):=by simp [List.getD,h]
theorem Es(N:ba h₀ L h all)(hm:p∈all):ba h₀ L h (p::all):=λq hq=>(ak.mp hq).elim (λe=>e▸N p hm) (N q)
theorem NP{l:Ns}{x d:Addr}{o:Obj}(h:∀p∈l,p.1<d)(m:(x,o)∈l):x≠d:=aB (h _ m)
theorem NQ{l:Ns}{x d:Addr}{o:Obj}(h:∀p∈l,p.1<d)(m:(x,o)∈l):d≠x:=(aB (h _ m)).symm
theorem zO{l:Ns}{p:Addr×Obj}{d:Addr}(h:∀p∈l,p.1<d)(m:p∈l):p.1<d:=h _ m
theorem EP{d:Addr}{l:Ns}(h:∀p∈l,p.1<d):∀p∈l,p.1≠d:=λp hp=>aB (h p hp)
theorem R4{l:Ns}{p:Addr×Obj}{d:Addr}(h:∀p∈l,p.1<d)(m:p∈l):p.1≠d:=aB (h _ m)
noncomputable def Mg(P:Prop):Prop:=P
theorem sf{P:Prop}(h:Mg P):P:=h
theorem iF{P:Prop}(h:P):Mg P:=h
theorem pL(h:BI xs ys alo blo bhi (ahi-alo).toNat bi bj bs)(h1:alo≤ahi)(h2:blo≤bhi):alo≤bi∧bi+bs≤ahi∧blo≤bj∧bj+bs≤bhi∧0≤bs:=by
 rcases h with ⟨a,b,c,_⟩|⟨a,b,c,d,e,_⟩
 .rw[a,b,c,iW,iW]
  exact⟨bZ _,h1,bZ _,h2,bZ _⟩
 .rw[dA (dU h1),gf alo,ni] at c
  exact⟨b,c,d,e,cj (by decide) a⟩
theorem IG{xs ys:List Int}{alo blo bhi:Int}{i:Nat}{bi bj bs:Int}(h:BI xs ys alo blo bhi i bi bj bs)(h1:alo<bi)(h2:blo<bj)(z:(bi-1).toNat<xs.length)(u:(bj-1).toNat<ys.length)(e:xs.getD (bi-1).toNat 0=ys.getD (bj-1).toNat 0):BI xs ys alo blo bhi i (bi-1) (bj-1) (bs+1):=by
 rcases h with ⟨a,b,c,_⟩|⟨a,b,c,d,f,g⟩
 .exact pd (PK h2 (Eq.symm c))
 .refine .inr ⟨by exact iV (Qz a),by exact cS [alo,bi] 1 Z0 (.s Z1 Y1) 1 (.a Z0 Y1) Z1 rfl h1,by exact cS [bi,bs,alo,i] 1 (.a (.s Z0 Y1) (.a Z1 Y1)) (.a Z2 Z3) 1 (.a Z0 Z1) (.a Z2 Z3) rfl c,by exact cS [blo,bj] 1 Z0 (.s Z1 Y1) 1 (.a Z0 Y1) Z1 rfl h2,by exact cS [bj,bs,bhi] 1 (.a (.s Z0 Y1) (.a Z1 Y1)) Z2 1 (.a Z0 Z1) Z2 rfl f,Cr g (kY z) (by rw[e];exact kY u)⟩
theorem Gc{xs ys:List Int}{alo ahi blo bhi:Int}{bi bj bs:Int}(h:BI xs ys alo blo bhi (ahi-alo).toNat bi bj bs)(h0:alo≤ahi)(h1:bi+bs<ahi)(h2:bj+bs<bhi)(z:(bi+bs).toNat<xs.length)(u:(bj+bs).toNat<ys.length)(e:xs.getD (bi+bs).toNat 0=ys.getD (bj+bs).toNat 0):BI xs ys alo blo bhi (ahi-alo).toNat bi bj (bs+1):=by
 rcases h with ⟨a,b,c,_⟩|⟨a,b,c,d,f,g⟩
 .refine .inr ⟨by exact cS [bs] 1 Y1 (.a Z0 Y1) 1 Y0 Z0 rfl (iq a),by exact qd (Eq.symm b),by exact eQ [bi,bs,alo,↑((ahi-alo).toNat),ahi] 1 (.a Z0 (.a Z1 Y1)) (.a Z2 Z3) 1 (.a (.a Z0 Z1) Y1) Z4 1 (.s Z4 Z2) Z3 rfl h1 tq,by exact qd (Eq.symm c),by exact cS [bj,bs,bhi] 1 (.a Z0 (.a Z1 Y1)) Z2 1 (.a (.a Z0 Z1) Y1) Z2 rfl h2,pJ (by rw[a];exact wo) (qd (Eq.symm a)) (kY z) (by rw[e];exact kY u)⟩
 .refine .inr ⟨by exact iV (Qz a),by exact b,by exact eQ [bi,bs,alo,↑((ahi-alo).toNat),ahi] 1 (.a Z0 (.a Z1 Y1)) (.a Z2 Z3) 1 (.a (.a Z0 Z1) Y1) Z4 1 (.s Z4 Z2) Z3 rfl h1 tq,by exact d,by exact cS [bj,bs,bhi] 1 (.a Z0 (.a Z1 Y1)) Z2 1 (.a (.a Z0 Z1) Y1) Z2 rfl h2,pJ g (cS [bs] 1 Y0 Z0 1 Y1 Z0 rfl a) (kY z) (by rw[e];exact kY u)⟩
section
variable {prog:Program}{w:World}{A:Around}{E:VP}{env:Env}{h₀:Heap}{target:PE}{body:List Stmt}{Q:FP}{s:Shared}
theorem Cp(hi:au vs ns)(J:Nat→(Lo)→Ns→Prop)(hJ:J 0 m news)
  (turn:∀i n t u T m news o1 o2 h tk,ns[i]?=some n→J i m news→o1.cls=.type c1→o2.cls=.type c2→IsTup h T #[.int (i:Int) t,.int n u]→Fr h₀ env.locals h m→ba h₀ env.locals h ((O,o1)::(H,o2)::news)→
   ay (aq prog w) A (de target env (.ref T)) (λ_ s₂=>ay (aq prog w) A (kz body env) (mj h₀ env.locals {s with heap:=h,toks:=tk} [(O,o1),(H,o2)] (λm' n'=>IY keep n'∧J (i+1) m' n') Q) E s₂) E {s with heap:=h,toks:=tk})
  (done:∀m news h tk,J ns.length m news→Fr h₀ env.locals h m→ba h₀ env.locals h news→Q .next {s with heap:=h,toks:=tk}):
  qR prog w A E h₀ env target body Q s [(O,c1),(H,c2)] keep (enumItems 0 vs) m news:=by
 refine pA J hJ ?_ ?_
 .intro i a m news ha hJ v h tk hv F o1 B o2 z N
  have hl:i<vs.length:=by
   have:=(bP.mp ha).1
   rwa [enumItems_length] at this
  have hn:i<ns.length:=by rw[← hi.length];exact hl
  obtain ⟨u,U⟩:=hi.get i ns[i] (by simp [hn]);have e:=enumItems_get vs 0 i U;rw[e] at ha;have G:=dJ ha;subst G;obtain ⟨T,t,rfl,hT⟩:∃T t,v=.ref T∧IsTup h T #[.int ((0+i:Nat):Int) t,.int ns[i] u]:=hv;rw[ie] at hT;exact turn i _ t u T m news o1 o2 h tk (by simp [hn]) hJ B z hT F N
 .intro m news h tk hJ F N
  rw[enumItems_length,hi.length] at hJ;exact done m news h tk hJ F N
theorem Dn(F:Fr h₀ L h' m')(N:ba h₀ L h' all)(r:rest m' u)
  (J:(H,o1)∈all) (B:(G,o2)∈all) (sub:∀p∈u,p∈all) (off:∀p∈u,p.1≠H) (z:∀p∈u,p.1≠G):IX h₀ L s₁ [(H,o1),(G,o2)] rest {s₁ with heap:=h',toks:=tk}:=by
 refine⟨h',tk,m',u,rfl,F,λp hp=>?_,λp hp q hq=>?_,r⟩
 .rcases ak.mp hp with e|hp
  .exact e▸N _ J
  .rcases ak.mp hp with e|hp
   .exact e▸N _ B
   .exact N _ (sub p hp)
 .rcases ak.mp hq with e|hq
  .exact e▸off p hp
  .exact aA.mp hq▸z p hp
end
end
section
open W PyProof.Rows
open PySem.Builtin
noncomputable def dT(dx:Addr)(a b c:Int)(ta tb tc:Tok):Obj:={cls:=.ref 171,dict:=some dx,data:=.seq #[.int a ta,.int b tb,.int c tc]}
section
variable {prog:Program}{w:World}{A:Around}{K:Frag}{C f p:Addr}{R:Result→Shared→Prop}{h h₀:Heap}{g:Array GenState}{d:Drawn}{t:Nat}{os:OsState}{L:Addr}{m:Lo}
theorem pr{sl:Array (Option Value)}(X:K.In h)(hC:K.lookup C=some ⟨oc,od,.cls cd,sl⟩)(e4:cd.mro.isEmpty=false)(e3:(sl.toList[4]?).join=some Value.none):iP M h (vI (.ref C)) none:=by
 have hc:GI K C=some cd:=by unfold GI;rw[hC]
 have hm:iP M h (mroOf (.ref C)) cd.mro:=(zd X hc).andThen .now
 obtain ⟨c,l,hl⟩:∃c l,cd.mro=c::l:=by cases q:cd.mro with|nil=>rw[q] at e4;cases e4|cons c l=>exact(ro c l rfl)
 intro A Q E s k q;unfold vI;refine af (hm A _ E s k ?_);rw[hl,wz];refine af (af (af (af (wpAny_loadPart (k _ _ (X _ _ hC)) (ag ?_)))));rw[← kc,e3];exact ag (ag (ag q))
theorem EG{sl:Array (Option Value)}(F:Fr h₀ L h m)(u:K.In h₀)(hC:K.lookup C=some ⟨oc,od,.cls cd,sl⟩)(e4:cd.mro.isEmpty=false)(e3:(sl.toList[4]?).join=some Value.none)
  (e7:specialIn K (.ref C) "__call__"=some (some (.builtin "type.__call__"))) (e8:instIn K (.ref C) (.type "type")=some true)
  (k1:typeIn K (.ref C)=some (.type "type")) (k2:readsIn K C (.type "type")=true) (k3:findCls K (.ref C) (.type "type") "__new__"=some (.get (.builtin "staticmethod.__get__") (.ref p) .none (.ref C))) (k4:recIn K p "staticmethod"=some (fv::r9)) (k5:qQ fv=true)
  (k6:lm K C (.ref C)=some true) (k7:lm K C (.type "object")=some true) (H:∀a,gX "object.__init__" ⟨a::rest,[]⟩) (B:rest≠[])
  (hi:fF K (.ref C) "__init__"=some (some (.builtin "object.__init__")))
  (hq:ay (aq prog w) (A.under (.builtin "type.__call__" ⟨.ref C::rest,[]⟩)) (call fv (.ref C::rest)) (λv s'=>∃x,v=.ref x∧iP (aq prog w) s'.heap (rF (.ref x)) (.ref C)∧K.In s'.heap∧R (.ok (.ret (.ref x))) s') (λe s'=>R (.error e) s') ⟨h,g,d,t+1,os⟩):
  dH (aq prog w) A (.call (.ref C) ⟨rest,[]⟩) R ⟨h,g,d,t,os⟩:=by
 have X:=u.keeps F.keep
 have hc:GI K C=some cd:=by unfold GI;rw[hC]
 have call:=looks_specialIn (M:=aq prog w) X e7;have U:=looks_instIn (M:=aq prog w) X e8;have made:=pr (M:=aq prog w) X hC e4 e3;refine Aw ?_;refine(?_:ay _ _ (callAny (.ref C) _) _ _ _);refine nd_load (X _ _ hC) ?_;refine(?_:ay _ _ (Dc (.ref C) _) _ _ _);unfold Dc;refine af (call.at ?_);dsimp only;rw[tc_bind];refine af (ag (af (ag ?_)));refine ag (a:=Fin.again (.call (.builtin "type.__call__") ⟨.ref C::rest,[]⟩)) (And.intro rfl ?_);refine GH (eS _ (by decide +kernel)) entry_typeCall (rJ tc_kind tc_split U (tc_args _ _ _) ?_);unfold Builtin.«type.__call__»;have hm:iP (aq prog w) h (mroOf (.ref C)) cd.mro:=(zd X hc).andThen .now;have aa:=made
 repeat (first|(with_reducible refine cls_sm (s:=⟨h,g,d,t,os⟩) F u k1 k2 k3 k4 k5 ?_)|(with_reducible refine cg hq (λv s' z=>sf ?_) λ_ _ z=>z)|(with_reducible refine PySem.W.KFB.if_not e4 ?_)|lk)
 refine iF ?_;refine sI z λx O ab J hr=>?_
 try clear z
 subst O;obtain ⟨h',g',d',t',ar⟩:=s';have ap:=j6 (M:=aq prog w) J k6;have ah:=j6 (M:=aq prog w) J k7;have as:=jr (M:=aq prog w) J hi;have Y:=pr (M:=aq prog w) J hC e4 e3;have aj:=oi_bind (.ref x);have G:iP (aq prog w) h' (jV (.ref x) (.type "object")) true:=ab.andThen ah
 repeat (first|(with_reducible refine bN aj ?_)|(with_reducible refine ev ?_)|lk)
 refine fV oi_plain entry_oi (@rJ (aq prog w) _ _ _ "object.__init__" "object" "__init__" (.ref x) rest [] _ oi_kind oi_split G (H _) ?_);unfold Builtin.«object.__init__»
 cases rest with
 | nil=>exact absurd rfl B
 | cons r0 rr=>
  repeat (first|(with_reducible refine PySem.W.KFB.if_not (bne_self_eq_false _) ?_)|lk)
  exact hr
theorem AM(F:Fr h₀ L s.heap m)(B:K.In h₀)
  (G:fF K (.type "type") "__getattribute__"=some (some (.builtin "type.__getattribute__"))) (hs:subIn K (.type "type") (.type "type")=some true)
  (e:findCls K (.type "tuple") (.type "type") (PySem.Str.ofString "__new__")=some (.val (.builtin "tuple.__new__")))
  (h:Q (.builtin "tuple.__new__",[]) {s with toks:=s.toks+1}):
  ay (aq prog w) A (gL (.type "tuple") (PySem.Str.ofString "__new__") O) Q E s:=by
 have X:=B.keeps F.keep
 have u:yO (.type "tuple")=ck none:=by unfold yO;dsimp only;rw[show Manifest.isStub "tuple"=false by decide +kernel];rfl
 have ht:rF (.type "tuple")=ck (.type "type"):=by first|rfl|kernel_rfl
 have H:iP (aq prog w) s.heap (rF (.type "tuple")) (.type "type"):=rP ht;unfold gL tP;refine af (af (H.here ((jr X G).here ?_)));dsimp only;rw[if_pos canon_tga];refine af (cg (Q:=λv=>Q (v,[])) (E:=E) ?_ (λ_ _ z=>ag z) λ_ _ z=>z);have J:iP (aq prog w) s.heap (yO (.type "tuple")) none:=rP u;exact cls_open X J H G (looks_hook X (r:=none) (by rfl)) hs e (ag (by refine(?_:ay _ _ (handedOut _) _ _ _);rw[handedOut_of (by decide +kernel)];exact ag h))
theorem Aq{sl:Array (Option Value)}(X:K.In h)(hC:K.lookup C=some ⟨oc,od,.cls cd,sl⟩)(e4:cd.mro=[.ref C,.type "tuple",.type "object"])(e3:(sl.toList[4]?).join=some Value.none)(e5:cd.bases=[.type "tuple"]):iP M h (MG (.ref C)) (.type "tuple"):=by
 have hc:GI K C=some cd:=by unfold GI;rw[hC]
 have hm:iP M h (mroOf (.ref C)) cd.mro:=(zd X hc).andThen .now;have made:=pr (M:=M) X hC (by rw[e4];rfl) e3
 have e:Builtin.Slots.bestBase [.type "tuple"]=ck (.type "tuple"):=by kernel_rfl
 have mt:vI (.type "tuple")=ck (some "tuple.__new__"):=PySem.F.called_tuple.made;intro A Q E s k q;unfold MG;refine af (hm A _ E s k ?_);rw[e4,wz];refine af (af (af (made A _ E s k ?_)));refine(?_:ay _ _ (classData C >>= _) _ _ _);refine af ((zd X hc) A _ E s k ?_);rw[e5,e];refine af (ag ?_);refine ag ?_;refine(?_:ay _ _ (GQ [oX "tuple",oX "object"] _ _) _ _ _);rw[wz];refine af (af (bN mt ?_));exact ag (ag (ag q))
theorem AN{sl:Array (Option Value)}(F:Fr h₀ L s.heap m)(N:ba h₀ L s.heap news)(J:K.In h₀)(hT:IsTup s.heap T items)
  (hC:K.lookup C=some ⟨oc,od,.cls cd,sl⟩) (e4:cd.mro=[.ref C,.type "tuple",.type "object"]) (e3:(sl.toList[4]?).join=some Value.none) (e5:cd.bases=[.type "tuple"]) (k6:lm K C (.type "tuple")=some true)
  (e6:cd.hasDel=false) (hsz:items.size≤dY) (U:iP (aq prog w) s.heap (isType (.ref C)) true) (aa:fF K (.ref C) "__init__"=some (some (.builtin "object.__init__")))
  (h:∀h' r dx,Fr h₀ L h' m→ba h₀ L h' ((r,{cls:=.ref C,dict:=some dx,data:=.seq items})::news)→(∀p∈news,p.1<r)→Q (.ref r) {s with heap:=h'}):
  ay (aq prog w) A (call (.builtin "tuple.__new__") [.ref C,.ref T]) Q E s:=by
 have X:=J.keeps F.keep
 have hc:GI K C=some cd:=by unfold GI;rw[hC]
 have made:=pr (M:=aq prog w) X hC (by rw[e4];rfl) e3;have base:=Aq (M:=aq prog w) X hC e4 e3 e5;have B:=j6 (M:=aq prog w) X k6;have G:=jr (M:=aq prog w) X aa;have mt:iP (aq prog w) s.heap (vI (.type "tuple")) (some "tuple.__new__"):=rP PySem.F.called_tuple.made
 have kd:Mu "tuple.__new__"=some .builtinFn:=by decide +kernel
 have sp:splitId "tuple.__new__"=some ("tuple","__new__"):=by decide +kernel
 have H:(match iJ "tuple.__new__" with|some O=>xz "tuple.__new__" O ⟨[.ref C,.ref T],[]⟩|none=>ck ())=ck ():=by kernel_rfl
 refine fJ hT λoT Y ah z=>?_
 try clear hT
 refine cp z λnT ab=>?_
 try clear z
 obtain ⟨hp,g,d,t,os⟩:=s;dsimp only at X made base B G mt U;refine ev (GH (eS _ (by decide +kernel)) PySem.F.entry_tuple_new ?_);unfold yS;rw[kd,sp];generalize iJ "tuple.__new__"=sg at H ⊢
 repeat (first|((with_reducible refine PySem.W.KFB.if_so ?zc ?_);case zc=>rfl)|((with_reducible refine PySem.W.KFB.if_not ?zc ?_);case zc=>rfl)|lk)
 refine bN (a:=()) (by cases sg<;>exact H) ?_;rw[show A.under (pR "tuple.__new__" ⟨[.ref C,.ref T],[]⟩)=A.in1 from fH (by decide +kernel) _];unfold Builtin.«tuple.__new__»
 repeat (first|(with_reducible refine wpAny_collect_seq T (.inr rfl) Y ah ab (λh1 u=>sf ?_) hsz)|((with_reducible refine PySem.W.KFB.if_so ?zc ?_);case zc=>rfl)|((with_reducible refine PySem.W.KFB.if_not ?zc ?_);case zc=>rfl)|lk)
 refine iF ?_;have aj:=X _ _ hC;refine af (ag (af (Mn ?_)));refine af ?_;unfold newObj;dsimp only;rw[if_neg (by simpa using hsz)];unfold newObjAsIs classHasDel;refine af (Mn (af (af (n4 (aG _ (aG _ (u _ _ aj))) (ag ?_)))));rw[e6];refine ag (ag ?_);have F1:Fr h₀ L h1 m:=F.keptAll u;have N1:ba h₀ L h1 news:=N.grown u;have N2:=(N1.push F1 {cls:=.type "dict",data:=.dict #[]}).push (F1.push _) {cls:=.ref C,dict:=some h1.objs.size,data:=.seq items}
 have ei:items.toList.toArray=items:=by simp
 refine(?_:Q _ _);rw[ei];exact h _ _ h1.objs.size ((F1.push _).push _) (λp hp=>N2 p (by rcases ak.mp hp with e|hp;exact e▸zH;exact zT (zT hp))) (λp hp=>by rw[gk];exact aW (bM (N1 p hp).1))
theorem x8{M:Model}{s:Shared}{oc:Value}{od:Option Addr}{cd:ClassData}{sl:Array (Option Value)}(F:Fr h₀ L s.heap m)(e:K.In h₀)(hC:K.lookup C=some ⟨oc,od,.cls cd,sl⟩):iP M s.heap (isType (.ref C)) true:=by
 intro A' u E' s' k q;unfold isType loadHead;exact af (wpAny_loadPart (k _ _ (e.keeps F.keep _ _ hC)) (ag q))
end
end
section
open W PyProof.Rows
open PySem.Builtin
section
variable {prog:Program}{w:World}{A:Around}{E:VP}{s:Shared}{it t:Addr}{i nl:Nat}{items:Array Value}{ol:Obj}{Q:Option Value→Shared→Prop}
theorem rb(hh:A.handled=none)(e:s.heap.IsTupleIter it t i)(u:s.heap.get? t=some ol)(z:ol.data=.seq items nl)
  (G:∀x h',items[i]?=some x→h'.IsTupleIter it t (i+1)→Heap.SameBut it s.heap h'→Q (some x) {s with heap:=h'})
  (hN:∀h',items[i]?=none→De it s.heap h'→Q none {s with heap:=h'}):ay (aq prog w) A (ky (.ref it)) Q E s:=by
 refine fJ (id e) λo ho hc hd=>?_;unfold ky
 refine af (Gk (ia (name:=ae "__next__") e.typeIs PySem.F.slot_tuple_iterator_next
  (ej PySem.F.slot_tuple_iterator_next e.typeIs PySem.F.entry_tuple_iterator_next ?_ (PySem.F.args_tuple_iterator_next_1 _))))
 refine af (bN (a:=(.ref it,[])) (by kernel_rfl) ?_);refine af (sP ho hd (x:=.ref t) rfl ?_);rw[if_neg (show ¬((bF t==Value.none)=true) from GR)];refine af (sP ho hd (x:=.int i 0) rfl ?_);refine af (jd u z ?_);simp only[bC]
 cases B:items[i]? with
 | some x=>
  refine af (wpAny_setField ho hd (by simp) (ag (c9 x rfl (ag (G x _ B ?_ (cu ..))))));exact(cZ _ (Heap.get?_update_self _ ho (Obj.isFreed_of_fields (I3 hd _))) ((Obj.cls_mapFields ..).trans hc) (by rw[I3 hd];simp [jf]))
 | none=>
  refine af (gv (af (wpAny_setField ho hd (by simp) ?_)));show ay _ _ (newExc (.type "StopIteration") [] >>= _) _ _ _;refine af ?_;refine af (pN ?_ (by size_fits));refine af (m:=firstArgMember _ _) (bN (a:=Value.none) (by first|rfl|(simp only[firstArgMember];rfl)) ?_);refine pN ?_ (by size_fits);refine af (wpAny_handled ?_)
  first|rw[show A.in1.handled=none from hh]|rw[hh]
  refine af (ag (wpAny_throw ?_));refine af (lz (T:="StopIteration") (b:=true) (c9 _ (a9 _ rfl) rfl) isSubtype_stop ?_);exact ag (hN _ B (((cu ..).extBut.push _).push _))
end
section
variable {prog:Program}{w:World}{A:Around}{E:VP}{s:Shared}{K:Frag}{C r:Addr}{o:Obj}
theorem DX(X:K.In s.heap)(hr:s.heap.get? r=some o)(ho:o.cls=.ref C)(hf:fF K (.ref C) "__iter__"=some (some (.builtin "tuple.__iter__")))(hm:lm K C (.type "tuple")=some true)
  (h:Q (.ref s.heap.objs.size) {s with heap:=s.heap.push {cls:=.type "tuple_iterator",data:=.fields #[.ref r,.int 0 0]} }):ay (aq prog w) A (rH (.ref r)) Q E s:=by
 have U:iP (aq prog w) s.heap (rF (.ref r)) (.ref C):=by
  have:=(kE (M:=aq prog w) (part:=some n9) hr)
  exact ho▸this.andThen .now
 have hl:=jr (M:=aq prog w) X hf;have u:=j6 (M:=aq prog w) X hm;have e:=PySem.F.slot_tuple_iter.bind (.ref r);obtain ⟨hp,g,d,t,os⟩:=s;dsimp only at X hr U hl u h;have B:iP (aq prog w) hp (jV (.ref r) (.type "tuple")) true:=U.andThen u;unfold rH tP callSpecialIfBoundUnlessNone? bindSpecialIfBound? tP
 let h2:=hp.push {cls:=.type "tuple_iterator",data:=.fields #[.ref r,.int 0 0]}
 have fin:ay (aq prog w) A (call (.builtin "tuple.__iter__") [.ref r]) (λv s'=>v=.ref hp.objs.size∧s'=⟨h2,g,d,t,os⟩) E ⟨hp,g,d,t,os⟩:=by
  refine ev (fV PySem.F.slot_tuple_iter.plain PySem.F.entry_tuple_iter (@rJ (aq prog w) _ _ _ "tuple.__iter__" "tuple" "__iter__" (.ref r) [] [] _ (by decide +kernel) (by decide +kernel) B (PySem.F.args_tuple_iter_1 _) ?_));refine(?_:ay _ _ (do ret (← newFields "tuple_iterator" [.ref r,jf 0])) _ _ _);exact af (pN (ag ⟨rfl,rfl⟩))
 have aa:iP (aq prog w) h2 (rF (.ref hp.objs.size)) (.type "tuple_iterator"):=(kE (part:=some n9) (a9 _ rfl)).andThen .now;have Y:iP (aq prog w) h2 (gw (.type "tuple_iterator") "__next__") (some (.builtin "tuple_iterator.__next__")):=rP PySem.F.slot_tuple_iterator_next.lookup
 repeat (first|(with_reducible refine qN ?_)|lk)
 refine wpAny_ite ?_
 split
 .refine af (bN e (ag ?_))
  repeat (first|(with_reducible refine cg fin (λv s' z=>sf ?_) λ_ _ z=>z)|lk)
  refine iF ?_;refine b7 z λO J=>?_
  try clear z
  subst O;subst J
  repeat (first|lk)
  exact h
 .refine jc (af (bN e (ag ?_)))
  repeat (first|(with_reducible refine cg fin (λv s' z=>sf ?_) λ_ _ z=>z)|lk)
  refine iF ?_;refine b7 z λH G=>?_
  try clear z
  subst H;subst G
  repeat (first|lk)
  exact h
theorem zy(hh:A.handled=none)(F:Fr h₀ L s.heap m)(N:ba h₀ L s.heap news)(O:K.In h₀)(hr:(r,o)∈news)(ho:o.cls=.ref C)(hd:o.data=.seq #[a,b,c] n)
  (hf:fF K (.ref C) "__iter__"=some (some (.builtin "tuple.__iter__"))) (hm:lm K C (.type "tuple")=some true) (h:∀h',Fr h₀ L h' m→ba h₀ L h' news→Q [a,b,c] {s with heap:=h'}):
  ay (aq prog w) A (unpackItems (.ref r) 3 none) Q E s:=by
 have X:=O.keeps F.keep;have u:=(N _ hr).1;have J:r<s.heap.objs.size:=bM u;have hne:r≠s.heap.objs.size:=aB J
 have H:iP (aq prog w) s.heap (rF (.ref r)) (.ref C):=by
  have:=(kE (M:=aq prog w) (part:=some n9) u)
  exact ho▸this.andThen .now
 have hl:=jr (M:=aq prog w) X hf;obtain ⟨hp,g,d,t,os⟩:=s;dsimp only at F N X u J hne H hl h;have keep:∀{h':Heap},De hp.objs.size (hp.push {cls:=.type "tuple_iterator",data:=.fields #[.ref r,.int 0 0]}) h'→∀b o,hp.get? b=some o→h'.get? b=some o:=λhs b o e=>hs b o (aB (bM e)) (aG _ e);unfold unpackItems;refine af ?_;unfold notIterableAtAll tP;refine af (af (H.at (hl.at ?_)));refine ag ?_;refine af (bA (DX X u ho hf hm ?_));refine af (bA ?_)
 have h0:(hp.push {cls:=.type "tuple_iterator",data:=.fields #[.ref r,.int 0 0]}).IsTupleIter hp.objs.size r 0:=(cZ _ (a9 _ rfl) rfl rfl)
 unfold draw;refine af (rb hh h0 (aG _ u) hd (λx h1 e1 i1 s1=>?_) λ_ e _=>by simp at e)
 obtain rfl:a=x:=by simpa using e1
 refine af (bA ?_);unfold draw;refine af (rb hh i1 (keep s1.extBut _ _ u) hd (λx h2 e2 i2 s2=>?_) λ_ e _=>by simp at e)
 obtain rfl:b=x:=by simpa using e2
 refine af (bA ?_);unfold draw;have G:=s1.extBut.trans s2.extBut;refine af (rb hh i2 (keep G _ _ u) hd (λx h3 e3 i3 Y=>?_) λ_ e _=>by simp at e)
 obtain rfl:c=x:=by simpa using e3
 have B:=G.trans Y.extBut;refine af (bA ?_);unfold draw;refine ag (ag (ag (ag ?_)));rw[if_neg (by simp)];refine af (bA (rb hh i3 (keep B _ _ u) hd (λx h4 e4 _ _=>by simp at e4) λh4 _ U=>?_));rw[if_neg (by simp)];have z:=B.trans U;exact ag (h h4 (F.keptAll (keep z)) (N.grown (keep z)))
theorem uo(hh:A.handled=none)(F:Fr h₀ L s.heap m)(N:ba h₀ L s.heap news)(z:K.In h₀)(hr:(r,o)∈news)(ho:o.cls=.ref C)(hd:o.data=.seq #[a,b,c] n)
  (hf:fF K (.ref C) "__iter__"=some (some (.builtin "tuple.__iter__"))) (hm:lm K C (.type "tuple")=some true) (hn:(da e env).length=3) (u:(da e env).findIdx? (·.1)=none)
  (h:∀h',Fr h₀ L h' m→ba h₀ L h' news→ay (aq prog w) A (assignInOrder ((da e env).map (·.2)) [a,b,c]) Q E {s with heap:=h'}):
  ay (aq prog w) A (de (.Tuple e H pos) env (.ref r)) Q E s:=by
 rw[PyProof.Rows.assign_Tuple];refine af (gW ?_);unfold unpack;rw[hn,u];refine af (bA (zy hh F N z hr ho hd hf hm λh' G B=>?_));exact h h' G B
end
end
section
open W PyProof.Rows
structure Rect where
 alo:Int
 ahi:Int
 blo:Int
 bhi:Int
inductive pM(xs ys:List Int):Int→Int→Int→Int→Int→Prop
 | none {alo ahi blo bhi:Int} (h:∀p q:Int,alo≤p→p<ahi→blo≤q→q<bhi→xs[p.toNat]?≠ys[q.toNat]?):pM xs ys alo ahi blo bhi 0
 | split {alo ahi blo bhi i j k t1 t2:Int} (h1:alo≤i) (h2:blo≤j) (h3:1≤k) (h4:i+k≤ahi) (h5:j+k≤bhi) (d:qM xs ys i j k) (a:pM xs ys alo i blo j t1) (b:pM xs ys (i+k) ahi (j+k) bhi t2):pM xs ys alo ahi blo bhi (k+t1+t2)
noncomputable def w8(xs ys:List Int):List Rect→Int→Prop
 | [],t=>t=0
 | r::rs,t=>∃t1 t2,pM xs ys r.alo r.ahi r.blo r.bhi t1∧w8 xs ys rs t2∧t=t1+t2
theorem oB:∀{J l2:List Rect}{t:Int},w8 xs ys (J++l2) t↔∃a b,w8 xs ys J a∧w8 xs ys l2 b∧t=a+b
 | [],l2,t=>⟨λh=>⟨0,t,rfl,h,by exact nA (kJ [t] Z0 (.a Y0 Z0) rfl) (kJ [t] (.a Y0 Z0) Z0 rfl)⟩,λ⟨a,b,h1,h2,h3⟩=>by
   have B:a=0:=h1;have:t=b:=nA (eQ [t,b,a] 1 Z0 Z1 1 Z2 Y0 1 Z0 (.a Z2 Z1) rfl (gV B) (gV h3)) (eQ [b,t,a] 1 Z0 Z1 1 Y0 Z2 1 (.a Z2 Z0) Z1 rfl (iq B) (iq h3))
   subst this;exact h2⟩
 | r::rs,l2,t=>by
  constructor
  .intro z
   refine gJ z λt1 t2 h1 h2 h3=>?_;clear z;refine gJ (oB.mp h2) λa b O H G=>?_;exact(ir (t1+a) b ⟨t1,a,h1,O,rfl⟩ H (nA (eQ [t,t1,a,b,t2] 1 Z0 (.a (.a Z1 Z2) Z3) 1 Z4 (.a Z2 Z3) 1 Z0 (.a Z1 Z4) rfl (gV G) (gV h3)) (eQ [t1,a,b,t,t2] 1 (.a (.a Z0 Z1) Z2) Z3 1 (.a Z1 Z2) Z4 1 (.a Z0 Z4) Z3 rfl (iq G) (iq h3))))
  .intro u
   refine gJ u λa b e H G=>?_;clear u;refine gJ e λt1 t2 h1 h2 h3=>?_
   try clear e
   exact(ir t1 (t2+b) h1 (oB.mpr ⟨t2,b,h2,H,rfl⟩) (nA (eQ [t,t1,t2,b,a] 1 Z0 (.a Z1 (.a Z2 Z3)) 1 Z4 (.a Z1 Z2) 1 Z0 (.a Z4 Z3) rfl (gV h3) (gV G)) (eQ [t1,t2,b,t,a] 1 (.a Z0 (.a Z1 Z2)) Z3 1 (.a Z0 Z1) Z4 1 (.a Z4 Z2) Z3 rfl (iq h3) (iq G))))
noncomputable def ja(r:Rect):Nat:=((r.ahi-r.alo)+(r.bhi-r.blo)+1).toNat
noncomputable def fq:List Rect→Nat
 | []=>0
 | r::rs=>ja r+fq rs
theorem mK:∀{a b:List Rect},fq (a++b)=fq a+fq b
 | [],b=>by simp [fq]
 | r::rs,b=>by simp only[fE,fq,mK (a:=rs)];exact vn (kJ [↑(ja r),↑(fq rs),↑(fq b)] (.a Z0 (.a Z1 Z2)) (.a (.a Z0 Z1) Z2) rfl) (kJ [↑(ja r),↑(fq rs),↑(fq b)] (.a (.a Z0 Z1) Z2) (.a Z0 (.a Z1 Z2)) rfl)
noncomputable def Gy(xs ys:List Int)(r:Rect):Prop:=0≤r.alo∧r.alo≤r.ahi∧r.ahi≤xs.length∧0≤r.blo∧r.blo≤r.bhi∧r.bhi≤ys.length
noncomputable def Gh(xs ys:List Int)(S:Int)(rs:List Rect):Prop:=∀t,w8 xs ys rs t→pM xs ys 0 xs.length 0 ys.length (S+t)
theorem xV(h:uY xs ys alo blo bhi (ahi-alo).toNat):∀p q:Int,alo≤p→p<ahi→blo≤q→q<bhi→xs[p.toNat]?≠ys[q.toNat]?:=by
 intro p q h1 h2 h3 h4;have:=h (p-alo).toNat (Rm h1 h2) q h3 h4
 rwa [show alo+((p-alo).toNat:Int)=p by exact Rp h1] at this
theorem BR(h:Gh xs ys S (rs++[r]))(hn:uY xs ys r.alo r.blo r.bhi (r.ahi-r.alo).toNat):Gh xs ys S rs:=by
 intro t ht;exact h t (oB.mpr (ir t 0 ht ⟨0,0,.none (xV hn),rfl,rfl⟩ (nA (kJ [t] Z0 (.a Z0 Y0) rfl) (kJ [t] (.a Z0 Y0) Z0 rfl))))
theorem zA(h:Gh xs ys S (rs++[r]))(h1:r.alo≤i)(h2:r.blo≤j)(h3:1≤k)(h4:i+k≤r.ahi)(h5:j+k≤r.bhi)(d:qM xs ys i j k)
  (hl:∀t,w8 xs ys l t→∃t1 t2,pM xs ys r.alo i r.blo j t1∧pM xs ys (i+k) r.ahi (j+k) r.bhi t2∧t=t1+t2):Gh xs ys (S+k) (rs++l):=by
 intro t ht;refine gJ (oB.mp ht) λa b z u e=>?_;refine gJ (hl b u) λt1 t2 e1 e2 e3=>?_;have:=h (a+(k+t1+t2)) (oB.mpr (ir a _ z ⟨_,0,.split h1 h2 h3 h4 h5 d e1 e2,rfl,by exact nA (kJ [k,t1,t2] (.a (.a Z0 Z1) Z2) (.a (.a (.a Z0 Z1) Z2) Y0) rfl) (kJ [k,t1,t2] (.a (.a (.a Z0 Z1) Z2) Y0) (.a (.a Z0 Z1) Z2) rfl)⟩ rfl))
 rwa [show S+(a+(k+t1+t2))=S+k+t by exact nA (eQ [S,a,k,t1,t2,t,b] 1 (.a Z0 (.a Z1 (.a (.a Z2 Z3) Z4))) (.a (.a Z0 Z2) Z5) 1 (.a Z3 Z4) Z6 1 (.a Z1 Z6) Z5 rfl (iq e3) (iq e)) (eQ [S,k,t,a,t1,t2,b] 1 (.a (.a Z0 Z1) Z2) (.a Z0 (.a Z3 (.a (.a Z1 Z4) Z5))) 1 Z6 (.a Z4 Z5) 1 Z2 (.a Z3 Z6) rfl (gV e3) (gV e))] at this
theorem ph(h:¬(a<b∧c<d)):pM xs ys a b c d 0:=.none λp q h1 h2 h3 h4=>absurd ⟨by exact eF h1 h2,by exact eF h3 h4⟩ h
theorem HE(h:w8 xs ys [r1,r2] t):∃t1 t2,pM xs ys r1.alo r1.ahi r1.blo r1.bhi t1∧pM xs ys r2.alo r2.ahi r2.blo r2.bhi t2∧t=t1+t2:=by
 refine gJ h λt1 t2 h1 e h6=>?_
 try clear h
 refine gJ e λt3 t4 h3 h4 h5=>?_
 try clear e
 have u:t4=0:=h4;exact(ir t1 t3 h1 h3 (nA (g5 [t,t1,t3,t4,t2] 1 Z0 (.a Z1 Z2) 1 Z3 Y0 1 Z4 (.a Z2 Z3) 1 Z0 (.a Z1 Z4) rfl (gV u) (gV h5) (gV h6)) (g5 [t1,t3,t,t4,t2] 1 (.a Z0 Z1) Z2 1 Y0 Z3 1 (.a Z1 Z3) Z4 1 (.a Z0 Z4) Z2 rfl (iq u) (iq h5) (iq h6))))
theorem wJ(h:w8 xs ys [r1] t):pM xs ys r1.alo r1.ahi r1.blo r1.bhi t:=by
 refine gJ h λt1 t2 h1 h2 h3=>?_
 try clear h
 have e:t2=0:=h2;have:t=t1:=nA (eQ [t,t1,t2] 1 Z0 Z1 1 Z2 Y0 1 Z0 (.a Z1 Z2) rfl (gV e) (gV h3)) (eQ [t1,t,t2] 1 Z0 Z1 1 Y0 Z2 1 (.a Z0 Z2) Z1 rfl (iq e) (iq h3))
 rwa [this]
theorem jU(h:yM ys kvs a)(s:∀p∈a,p∈b):yM ys kvs b:=
 ⟨h.1,λj n e=>let ⟨x,t,ep,h1,h2⟩:=h.2 j n e;⟨x,t,ep,h1,s _ h2⟩⟩
noncomputable def dO(xs:Array Value):Obj:={cls:=.type "tuple",data:=.seq xs}
noncomputable def Pp(T:Ns)(q:Addr×Rect):Prop:=∃t1 t2 t3 t4,(q.1,dO #[.int q.2.alo t1,.int q.2.ahi t2,.int q.2.blo t3,.int q.2.bhi t4])∈T
noncomputable def sL(T:Ns)(q:Addr×Int):Prop:=∃dx i j t1 t2 t3,(q.1,dT dx i j q.2 t1 t2 t3)∈T
theorem sL.mono(h:sL T q)(s:∀p∈T,p∈T'):sL T' q:=let ⟨a,b,c,d,e,f,g⟩:=h;⟨a,b,c,d,e,f,s _ g⟩
noncomputable def ee(ms:List (Addr×Int)):Int:=(ms.map (·.2)).sum
theorem mF(ms:List (Addr×Int))(q:Addr×Int):ee (ms++[q])=ee ms+q.2:=by simp [ee]
theorem Pp.mono(h:Pp T q)(s:∀p∈T,p∈T'):Pp T' q:=let ⟨a,b,c,d,e⟩:=h;⟨a,b,c,d,s _ e⟩
noncomputable def refsOf{α:Type}(qs:List (Addr×α)):List Value:=qs.map λp=>.ref p.1
section
variable {prog:Program}{w:World}{A:Around}{E:VP}{s:Shared}{h₀:Heap}{L D:Addr}{news:Ns}{n:Nat}{Q:Bool→Shared→Prop}
theorem zj(N:ba h₀ L s.heap news)(hm:(D,listOf (us++[v]).toArray n)∈news)(hz:(us++[v]).length≤dY)(h:Q true {s with toks:=s.toks+1+1}):ay (aq prog w) A (truthy (.ref D)) Q E s:=by
 refine wpAny_truthy_list (N.isList hm) ?_ ?_
 .rw[eK] at hz
  rw[aV];exact cS [↑((us++[v]).length)] 1 (.a Z0 Y1) (.k (2 ^ 63)) 1 Z0 (.k 16777216) rfl (d9 hz)
 .have e:(!((us++[v]).toArray.isEmpty))=true:=by simp
  rw[e];exact h
theorem BG(N:ba h₀ L s.heap news)(hm:(D,listOf ([]:List Value).toArray n)∈news)(h:Q false {s with toks:=s.toks+1+1}):ay (aq prog w) A (truthy (.ref D)) Q E s:=by
 refine wpAny_truthy_list (N.isList hm) ?_ ?_
 .exact eF (bZ _) (by decide)
 .exact h
end
noncomputable def vA:List Rect→Int
 | []=>0
 | r::rs=>(r.ahi-r.alo)+vA rs
theorem tJ:∀{a b:List Rect},vA (a++b)=vA a+vA b
 | [],b=>by simp [vA]
 | r::rs,b=>by simp only[fE,vA,tJ (a:=rs)];exact nA (kJ [r.ahi,r.alo,vA rs,vA b] (.a (.s Z0 Z1) (.a Z2 Z3)) (.a (.a (.s Z0 Z1) Z2) Z3) rfl) (kJ [r.ahi,r.alo,vA rs,vA b] (.a (.a (.s Z0 Z1) Z2) Z3) (.a (.s Z0 Z1) (.a Z2 Z3)) rfl)
structure GS(xs ys:List Int)(news:Ns)(MB QU D:Addr)(qs:List (Addr×Rect))(ms:List (Addr×Int))(T:Ns):Prop where
 h0:∀p∈news,p∈T
 h1:∀p∈T,p.1≠MB
 h2:∀p∈T,p.1≠QU
 h3:∀p∈T,p.1≠D
 hq:∀q∈qs,Pp T q∧Gy xs ys q.2
 hm:∀q∈ms,sL T q
 ow:Gh xs ys (ee ms) (qs.map (·.2))
 hz:ms.length+fq (qs.map (·.2))≤65
 hz2:(ms.length:Int)+vA (qs.map (·.2))≤32
 hpos:∀q∈ms,0≤q.2
section
variable {xs ys:List Int}{news:Ns}{MB QU D:Addr}{qs:List (Addr×Rect)}{ms:List (Addr×Int)}{T:Ns}{q:Addr×Rect}
theorem GS.none(g:GS xs ys news MB QU D (qs++[q]) ms T)(hn:uY xs ys q.2.alo q.2.blo q.2.bhi (q.2.ahi-q.2.alo).toNat):GS xs ys news MB QU D qs ms T where
 h0:=g.h0
 h1:=g.h1
 h2:=g.h2
 h3:=g.h3
 hq:=λp hp=>g.hq p (zL hp)
 hm:=g.hm
 ow:=BR (r:=q.2) (by have:=g.ow;rwa [aX] at this) hn
 hz:=by have:=g.hz;rw[aX,mK] at this;exact nV (eQ [ms.length,↑(fq (fY (λ(x:Addr×Rect)=>x.snd) qs)),↑(fq (fY (λ(x:Addr×Rect)=>x.snd) [q]))] 1 (.a Z0 Z1) (.k 65) 1 (.a Z0 (.a Z1 Z2)) (.k 65) 1 Y0 Z2 rfl (d9 this) j0)
 hz2:=by
  have h1:=g.hz2;rw[aX,tJ] at h1;have hr:=(g.hq q (zR (aA.mpr rfl))).2;refine Kk hr λa b c d e f=>?_
  try clear hr
  have:vA ([q].map (·.2))=(q.2.ahi-q.2.alo)+0:=rfl;exact g5 [ms.length,vA (fY (λ(x:Addr×Rect)=>x.snd) qs),q.snd.ahi,q.snd.alo,vA (fY (λ(x:Addr×Rect)=>x.snd) [q])] 1 (.a Z0 Z1) (.k 32) 1 (.a (.s Z2 Z3) Y0) Z4 1 Z3 Z2 1 (.a Z0 (.a Z1 Z4)) (.k 32) rfl (iq this) b h1
 hpos:=g.hpos
theorem GS.drop(g:GS xs ys news MB QU D (qs++[q]) ms T):fq (qs.map (·.2))<fq ((qs++[q]).map (·.2)):=by
 rw[aX,mK];have hr:=(g.hq q (zR (aA.mpr rfl))).2;refine Kk hr λa b c d e f=>?_
 try clear hr
 show _<_+(ja q.2+0);unfold ja;exact ltN (g5 [↑(fq (fY (λ(x:Addr×Rect)=>x.snd) qs)),↑((q.snd.ahi-q.snd.alo+(q.snd.bhi-q.snd.blo)+1).toNat),q.snd.blo,q.snd.bhi,q.snd.alo,q.snd.ahi] 1 (.a Z0 Y1) (.a Z0 (.a Z1 Y0)) 1 Z2 Z3 1 Z4 Z5 1 (.a (.a (.s Z5 Z4) (.s Z3 Z2)) Y1) Z1 rfl e b tq)
theorem GS.step(g:GS xs ys news MB QU D (qs++[q]) ms T)(l:List (Addr×Rect))(u:Ns)(hb:BI xs ys q.2.alo q.2.blo q.2.bhi (q.2.ahi-q.2.alo).toNat i j k)(hk:k≠0)
  (hl:∀p∈l,Pp u p∧Gy xs ys p.2) (H:∀t,w8 xs ys (l.map (·.2)) t→∃t1 t2,pM xs ys q.2.alo i q.2.blo j t1∧pM xs ys (i+k) q.2.ahi (j+k) q.2.bhi t2∧t=t1+t2)
  (hsz:fq (l.map (·.2))+1≤ja q.2) (hs2:vA (l.map (·.2))+1≤q.2.ahi-q.2.alo) (a1:∀p∈u,p.1≠MB) (a2:∀p∈u,p.1≠QU) (a3:∀p∈u,p.1≠D) (r1:r≠MB) (r2:r≠QU) (Y:r≠D):
  GS xs ys news MB QU D (qs++l) (ms++[(r,k)]) (u++(r,dT dx i j k w1 w2 w3)::T)∧fq ((qs++l).map (·.2))<fq ((qs++[q]).map (·.2)):=by
 have G:∀p∈T,p∈u++(r,dT dx i j k w1 w2 w3)::T:=λp hp=>zR (zT hp);have hr:=(g.hq q (zR (aA.mpr rfl))).2;refine Kk hr λb1 b2 b3 b4 b5 b6=>?_
 try clear hr
 have B:fq ((qs++l).map (·.2))+1≤fq ((qs++[q]).map (·.2)):=by
  rw[aX,mK,aX,mK];show _≤_+(ja q.2+0);exact nV (cS [↑(fq (fY (λ(x:Addr×Rect)=>x.snd) qs)),↑(fq (fY (λ(x:Addr×Rect)=>x.snd) l)),↑(ja q.snd)] 1 (.a (.a Z0 Z1) Y1) (.a Z0 (.a Z2 Y0)) 1 (.a Z1 Y1) Z2 rfl (d9 hsz))
 have all:∀(X:Addr),(∀p∈u,p.1≠X)→r≠X→(∀p∈T,p.1≠X)→∀p∈u++(r,dT dx i j k w1 w2 w3)::T,p.1≠X:=by
  intro X U O J p hp
  rcases aC.mp hp with hp|hp
  .exact U p hp
  .rcases ak.mp hp with e|hp
   .subst e;exact O
   .exact J p hp
 rcases hb with ⟨z,_⟩|⟨c1,c2,c3,c4,c5,c6⟩
 .exact absurd z hk
 refine⟨⟨λp hp=>G p (g.h0 p hp),all MB a1 r1 g.h1,all QU a2 r2 g.h2,all D a3 Y g.h3,?_,?_,?_,?_,?_,λp hp=>(aC.mp hp).elim (g.hpos p) (λhp=>by rw[aA.mp hp];refine(?_:(0:Int)≤k);exact cS [k] 1 Y0 Z0 1 Y1 Z0 rfl c1)⟩,by exact bB B⟩
 .intro p hp
  rcases aC.mp hp with hp|hp
  .exact⟨(g.hq p (zL hp)).1.mono G,(g.hq p (zL hp)).2⟩
  .exact⟨(hl p hp).1.mono λx hx=>zL hx,(hl p hp).2⟩
 .intro p hp
  rcases aC.mp hp with hp|hp
  .exact(g.hm p hp).mono G
  .rw[aA.mp hp]
   exact(B7 dx i j w1 w2 w3 (zR (zH)))
 .rw[mF,aX]
  exact zA (r:=q.2) (by have:=g.ow;rwa [aX] at this) c2 c4 c1 (OC (Rp b2) c3) c5 c6 H
 .have:=g.hz
  rw[aT,df];exact nV (eQ [ms.length,↑(fq (fY (λ(x:Addr×Rect)=>x.snd) (qs++l))),↑(fq (fY (λ(x:Addr×Rect)=>x.snd) (qs++[q])))] 1 (.a (.a Z0 Y1) Z1) (.k 65) 1 (.a Z0 Z2) (.k 65) 1 (.a Z1 Y1) Z2 rfl (d9 this) (d9 B))
 .have h1:=g.hz2
  rw[aX,tJ] at h1;rw[aT,df,aX,tJ];have:vA ([q].map (·.2))=(q.2.ahi-q.2.alo)+0:=rfl;exact g5 [ms.length,vA (fY (λ(x:Addr×Rect)=>x.snd) qs),vA (fY (λ(x:Addr×Rect)=>x.snd) l),q.snd.ahi,q.snd.alo,vA (fY (λ(x:Addr×Rect)=>x.snd) [q])] 1 (.a (.a Z0 Y1) (.a Z1 Z2)) (.k 32) 1 (.a (.s Z3 Z4) Y0) Z5 1 (.a Z0 (.a Z1 Z5)) (.k 32) 1 (.a Z2 Y1) (.s Z3 Z4) rfl (iq this) h1 hs2
inductive Bk(r:Rect)(i j k:Int):Prop
 | mk (k1:1≤k) (a:r.alo≤i) (b:i+k≤r.ahi) (c:r.blo≤j) (d:j+k≤r.bhi)
theorem Br(hb:BI xs ys r.alo r.blo r.bhi (r.ahi-r.alo).toNat i j k)(hk:k≠0)(h:Gy xs ys r):Bk r i j k:=by
 rcases hb with ⟨z,_⟩|⟨c1,c2,c3,c4,e,_⟩
 .exact absurd z hk
 .exact⟨c1,c2,cj c3 (by rw[dA (dU h.2.1),gf,ni];exact bZ _),c4,e⟩
section
variable {r:Rect}{i j k:Int}
theorem Bk.k0(b:Bk r i j k):0≤k:=cj (by decide) b.1
theorem Bk.rl(b:Bk r i j k)(h:Gy xs ys r):Gy xs ys ⟨r.alo,i,r.blo,j⟩:=⟨h.1,b.2,cj (cj (fw b.k0) b.3) h.2.2.1,h.2.2.2.1,b.4,cj (cj (fw b.k0) b.5) h.2.2.2.2.2⟩
theorem Bk.rr(b:Bk r i j k)(h:Gy xs ys r):Gy xs ys ⟨i+k,r.ahi,j+k,r.bhi⟩:=⟨cj h.1 (cj b.2 (fw b.k0)),b.3,h.2.2.1,cj h.2.2.2.1 (cj b.4 (fw b.k0)),b.5,h.2.2.2.2.2⟩
theorem Bk.m2(b:Bk r i j k):ja ⟨r.alo,i,r.blo,j⟩+ja ⟨i+k,r.ahi,j+k,r.bhi⟩+1≤ja r:=by
 obtain ⟨k1,a,b,c,d⟩:=b;unfold ja;dsimp only;exact nV (y5 [↑((i-r.alo+(j-r.blo)+1).toNat),↑((r.ahi-(i+k)+(r.bhi-(j+k))+1).toNat),↑((r.ahi-r.alo+(r.bhi-r.blo)+1).toNat),k,r.ahi,r.alo,r.bhi,r.blo,i,j] 1 (.a (.a Z0 Z1) Y1) Z2 2 Y1 Z3 1 (.a (.a (.s Z4 Z5) (.s Z6 Z7)) Y1) Z2 1 Z0 (.a (.a (.s Z8 Z5) (.s Z9 Z7)) Y1) 1 Z1 (.a (.a (.s Z4 (.a Z8 Z3)) (.s Z6 (.a Z9 Z3))) Y1) rfl k1 tq (iZ (eQ [i,r.alo,j,r.blo] 1 Y0 (.a (.a (.s Z0 Z1) (.s Z2 Z3)) Y1) 1 Z3 Z2 1 Z1 Z0 rfl c a)) (iZ (eQ [r.ahi,i,k,r.bhi,j] 1 Y0 (.a (.a (.s Z0 (.a Z1 Z2)) (.s Z3 (.a Z4 Z2))) Y1) 1 (.a Z4 Z2) Z3 1 (.a Z1 Z2) Z0 rfl d b)))
theorem Bk.ml(b:Bk r i j k):ja ⟨r.alo,i,r.blo,j⟩+1≤ja r:=aw (eZ (bx _ _) 1) b.m2
theorem Bk.mr(b:Bk r i j k):ja ⟨i+k,r.ahi,j+k,r.bhi⟩+1≤ja r:=aw (eZ (gy _ _) 1) b.m2
theorem Bk.a2(b:Bk r i j k):(i-r.alo)+((r.ahi-(i+k))+0)+1≤r.ahi-r.alo:=by
 have:=b.1;exact cS [i,r.alo,r.ahi,k] 1 (.a (.a (.s Z0 Z1) (.a (.s Z2 (.a Z0 Z3)) Y0)) Y1) (.s Z2 Z1) 1 Y1 Z3 rfl this
theorem Bk.al(b:Bk r i j k):(i-r.alo)+0+1≤r.ahi-r.alo:=cj (ll (Int.add_le_add_left (yZ (dU b.3) (bZ 0)) _) 1) b.a2
theorem Bk.ar(b:Bk r i j k):(r.ahi-(i+k))+0+1≤r.ahi-r.alo:=cj (ll (nH (dU b.2)) 1) b.a2
end
theorem GS.two{t2:Tok}{t3:Tok}(g:GS xs ys news MB QU D (qs++[q]) ms T)(hb:BI xs ys q.2.alo q.2.blo q.2.bhi (q.2.ahi-q.2.alo).toNat i j k)(hk:k≠0)
  (hi:q.2.alo<i∧q.2.blo<j) (hj:i+k<q.2.ahi∧j+k<q.2.bhi) (a1:T1≠MB) (a2:T1≠QU) (a3:T1≠D) (c1:T2≠MB) (c2:T2≠QU) (c3:T2≠D) (r1:r≠MB) (r2:r≠QU) (e:r≠D):
  GS xs ys news MB QU D (qs++[(T1,Rect.mk q.2.alo i q.2.blo j),(T2,Rect.mk (i+k) q.2.ahi (j+k) q.2.bhi)]) (ms++[(r,k)]) ([(T1,dO #[.int q.2.alo t1,.int i t2,.int q.2.blo t3,.int j t4]),(T2,dO #[.int (i+k) t5,.int q.2.ahi t6,.int (j+k) t7,.int q.2.bhi t8])]++(r,dT dx i j k w1 w2 w3)::T)∧fq ((qs++[(T1,Rect.mk q.2.alo i q.2.blo j),(T2,Rect.mk (i+k) q.2.ahi (j+k) q.2.bhi)]).map (·.2))<fq ((qs++[q]).map (·.2)):=by
 have hr:=(g.hq q (zR (aA.mpr rfl))).2;have b:=Br hb hk hr;exact g.step [(T1,Rect.mk q.2.alo i q.2.blo j),(T2,Rect.mk (i+k) q.2.ahi (j+k) q.2.bhi)] [(T1,dO #[.int q.2.alo t1,.int i t2,.int q.2.blo t3,.int j t4]),(T2,dO #[.int (i+k) t5,.int q.2.ahi t6,.int (j+k) t7,.int q.2.bhi t8])] hb hk (FC ⟨(EX _ _ _ _ (zH)),b.rl hr⟩ (FC ⟨(EX _ _ _ _ (a8 1 rfl)),b.rr hr⟩ FN)) (λt h=>HE (r1:=Rect.mk q.2.alo i q.2.blo j) (r2:=Rect.mk (i+k) q.2.ahi (j+k) q.2.bhi) h) b.m2 b.a2 (FC a1 (FC c1 FN)) (FC a2 (FC c2 FN)) (FC a3 (FC c3 FN)) r1 r2 e
theorem GS.left{t2:Tok}{t3:Tok}(g:GS xs ys news MB QU D (qs++[q]) ms T)(hb:BI xs ys q.2.alo q.2.blo q.2.bhi (q.2.ahi-q.2.alo).toNat i j k)(hk:k≠0)
  (hi:q.2.alo<i∧q.2.blo<j) (hj:¬(i+k<q.2.ahi∧j+k<q.2.bhi)) (a1:T1≠MB) (a2:T1≠QU) (a3:T1≠D) (r1:r≠MB) (r2:r≠QU) (e:r≠D):
  GS xs ys news MB QU D (qs++[(T1,Rect.mk q.2.alo i q.2.blo j)]) (ms++[(r,k)]) ([(T1,dO #[.int q.2.alo t1,.int i t2,.int q.2.blo t3,.int j t4])]++(r,dT dx i j k w1 w2 w3)::T)∧fq ((qs++[(T1,Rect.mk q.2.alo i q.2.blo j)]).map (·.2))<fq ((qs++[q]).map (·.2)):=by
 have hr:=(g.hq q (zR (aA.mpr rfl))).2;have b:=Br hb hk hr;exact g.step [(T1,Rect.mk q.2.alo i q.2.blo j)] [(T1,dO #[.int q.2.alo t1,.int i t2,.int q.2.blo t3,.int j t4])] hb hk (FC ⟨(EX _ _ _ _ (zH)),b.rl hr⟩ FN) (λt h=>ir t 0 (wJ (r1:=Rect.mk q.2.alo i q.2.blo j) h) (ph hj) (iW t).symm) b.ml b.al (FC a1 FN) (FC a2 FN) (FC a3 FN) r1 r2 e
theorem GS.right(g:GS xs ys news MB QU D (qs++[q]) ms T)(hb:BI xs ys q.2.alo q.2.blo q.2.bhi (q.2.ahi-q.2.alo).toNat i j k)(hk:k≠0)
  (hi:¬(q.2.alo<i∧q.2.blo<j)) (hj:i+k<q.2.ahi∧j+k<q.2.bhi) (c1:T2≠MB) (c2:T2≠QU) (c3:T2≠D) (r1:r≠MB) (r2:r≠QU) (e:r≠D):
  GS xs ys news MB QU D (qs++[(T2,Rect.mk (i+k) q.2.ahi (j+k) q.2.bhi)]) (ms++[(r,k)]) ([(T2,dO #[.int (i+k) t5,.int q.2.ahi t6,.int (j+k) t7,.int q.2.bhi t8])]++(r,dT dx i j k w1 w2 w3)::T)∧fq ((qs++[(T2,Rect.mk (i+k) q.2.ahi (j+k) q.2.bhi)]).map (·.2))<fq ((qs++[q]).map (·.2)):=by
 have hr:=(g.hq q (zR (aA.mpr rfl))).2;have b:=Br hb hk hr;exact g.step [(T2,Rect.mk (i+k) q.2.ahi (j+k) q.2.bhi)] [(T2,dO #[.int (i+k) t5,.int q.2.ahi t6,.int (j+k) t7,.int q.2.bhi t8])] hb hk (FC ⟨(EX _ _ _ _ (zH)),b.rr hr⟩ FN) (λt h=>ir 0 t (ph hi) (wJ (r1:=Rect.mk (i+k) q.2.ahi (j+k) q.2.bhi) h) (fO t).symm) b.mr b.ar (FC c1 FN) (FC c2 FN) (FC c3 FN) r1 r2 e
theorem GS.bare(g:GS xs ys news MB QU D (qs++[q]) ms T)(hb:BI xs ys q.2.alo q.2.blo q.2.bhi (q.2.ahi-q.2.alo).toNat i j k)(hk:k≠0)
  (hi:¬(q.2.alo<i∧q.2.blo<j)) (hj:¬(i+k<q.2.ahi∧j+k<q.2.bhi)) (r1:r≠MB) (r2:r≠QU) (e:r≠D):
  GS xs ys news MB QU D qs (ms++[(r,k)]) ((r,dT dx i j k w1 w2 w3)::T)∧fq (qs.map (·.2))<fq ((qs++[q]).map (·.2)):=by
 have hr:=(g.hq q (zR (aA.mpr rfl))).2;have b:=Br hb hk hr;have:=g.step (r:=r) (dx:=dx) (w1:=w1) (w2:=w2) (w3:=w3) [] [] hb hk FN (λt h=>ir 0 0 (ph hi) (ph hj) h) (aw (gy 1 _) b.ml) (cj (ll (yZ (dU b.2) (bZ 0)) 1) b.al) FN FN FN r1 r2 e;rw[im] at this;exact this
theorem EY{t2:Tok}{t3:Tok}(u:xs.length≤32)(z:ys.length≤32)(h1:∀p∈news,p.1≠MB)(h2:∀p∈news,p.1≠QU)(h3:∀p∈news,p.1≠D)(G:e≠MB)(d2:e≠QU)(B:e≠D):
  GS xs ys news MB QU D [(e,Rect.mk 0 xs.length 0 ys.length)] [] ((e,dO #[.int 0 t1,.int (xs.length:Int) t2,.int 0 t3,.int (ys.length:Int) t4])::news) where
 h0:=λp hp=>zT hp
 h1:=zC ⟨G,h1⟩
 h2:=zC ⟨d2,h2⟩
 h3:=zC ⟨B,h3⟩
 hq:=λq hq=>by rw[aA.mp hq];exact⟨(EX t1 t2 t3 t4 (zH)),by unfold Gy;dsimp only;exact⟨kJ [] Y0 Y0 rfl,⟨cS [xs.length] 1 Y0 Z0 1 Y0 Z0 rfl j0,⟨kJ [xs.length] Z0 Z0 rfl,⟨kJ [] Y0 Y0 rfl,⟨cS [ys.length] 1 Y0 Z0 1 Y0 Z0 rfl j0,kJ [ys.length] Z0 Z0 rfl⟩⟩⟩⟩⟩⟩
 hm:=λq hq=>nomatch hq
 ow:=λt ht=>by
  have:=wJ ht;refine(?_:pM xs ys 0 xs.length 0 ys.length (0+t))
  rwa [fO]
 hz:=by refine(?_:0+(ja _+0)≤65);unfold ja;dsimp only;exact nV (g5 [↑(((xs.length:Int)-0+((ys.length:Int)-0)+1).toNat),ys.length,xs.length] 1 (.a Y0 (.a Z0 Y0)) (.k 65) 1 Z1 (.k 32) 1 Z2 (.k 32) 1 Z0 (.a (.a (.s Z2 Y0) (.s Z1 Y0)) Y1) rfl (d9 z) (d9 u) (iZ (eQ [xs.length,ys.length] 1 Y0 (.a (.a (.s Z0 Y0) (.s Z1 Y0)) Y1) 1 Y0 Z1 1 Y0 Z0 rfl j0 j0)))
 hz2:=by refine(?_:(0:Int)+(_+0)≤32);dsimp only;exact cS [xs.length] 1 (.a Y0 (.a (.s Z0 Y0) Y0)) (.k 32) 1 Z0 (.k 32) rfl (d9 u)
 hpos:=λq hq=>nomatch hq
theorem rh:∀{l:List (Addr×Rect)},(∀q∈l,Gy xs ys q.2)→l.length≤fq (l.map (·.2))
 | [],_=>aR _
 | q::l,h=>by
  have h1:=rh (l:=l) λp hp=>h p (zT hp);obtain ⟨a,b,c,d,e,f⟩:=h q (zH);refine(?_:l.length+1≤ja q.2+fq (l.map (·.2)));unfold ja;exact nV (y5 [l.length,↑((q.snd.ahi-q.snd.alo+(q.snd.bhi-q.snd.blo)+1).toNat),↑(fq (fY (λ(x:Addr×Rect)=>x.snd) l)),q.snd.blo,q.snd.bhi,q.snd.alo,q.snd.ahi] 1 (.a Z0 Y1) (.a Z1 Z2) 1 Z3 Z4 1 Z5 Z6 1 Z0 Z2 1 (.a (.a (.s Z6 Z5) (.s Z4 Z3)) Y1) Z1 rfl e b (d9 h1) tq)
theorem GS.len(g:GS xs ys news MB QU D qs ms T):qs.length+ms.length≤65:=by
 have:=rh λq hq=>(g.hq q hq).2;have:=g.hz;lia
theorem GS.room(g:GS xs ys news MB QU D (qs++[q]) ms T)(v:Value):(refsOf qs++[v]).length≤dY:=by
 have:=g.len;rw[eK];simp only[refsOf,aT,aE,df] at *;exact aw (bx (eE qs+1) (eE ms)) (rZ this (bR true))
theorem IF(h:BI xs ys alo blo bhi i bi bj bs)(hk:bs=0):uY xs ys alo blo bhi i:=by
 rcases h with ⟨_,_,_,h⟩|⟨h,_⟩
 .exact h
 .exact(qz (eQ [bs] 1 Y0 (.k (-1)) 1 Y1 Z0 1 Z0 Y0 rfl h (gV hk))).elim
theorem J9{α:Type}{qs:List (Addr×α)}{a:Addr}(r:α){n:Nat} : listOf ((refsOf qs).toArray.push (.ref a)) n=listOf (refsOf (qs++[(a,r)])).toArray n:=by simp [refsOf]
theorem GS.short(g:GS xs ys news MB QU D [] ms T):ms.length≤32:=by
 have:=g.hz2;have h:vA (([]:List (Addr×Rect)).map (·.2))=0:=rfl;exact nV (eQ [ms.length,vA (fY (λ(x:Addr×Rect)=>x.snd) [])] 1 Z0 (.k 32) 1 Y0 Z1 1 (.a Z0 Z1) (.k 32) rfl (iq h) this)
theorem GS.all(g:GS xs ys news MB QU D [] ms T):pM xs ys 0 xs.length 0 ys.length (ee ms):=by
 have:=g.ow 0 rfl
 rwa [iW] at this
end
section
variable {prog:Program}{w:World}{A:Around}{E:VP}{s:Shared}{h₀:Heap}{env:Env}{body:List Stmt}{Q:FP}
theorem GV
  (F:Fr h₀ L s.heap m) (N:ba h₀ L s.heap news) (J:(Lo)→Ns→Nat→(Lo)→Ns→Prop) (D:(Lo)→Ns→(Lo)→Ns→Prop) (hJ:∃U,J m news U m news)
  (turn:∀n G u z B,Fr h₀ L z G→ba h₀ L z u→J m news n G u→ay (aq prog w) A (isTrue test env (eval test env)) (λb s₂=>if b=true then ay (aq prog w) A (kz body env) (Ph h₀ L s Q (J m news) n) E s₂ else Pj h₀ L s (D m news) s₂) E {s with heap:=z,toks:=B})
  (done:∀G u z B,Fr h₀ L z G→ba h₀ L z u→D m news G u→Q .next {s with heap:=z,toks:=B})
  (hE:autoParam (lG (aq prog w) A env E) zAf):
  ay (aq prog w) A (exec (.While test body [] pos) env) Q E s:=by
 obtain ⟨U,hJ⟩:=hJ;refine While_inv2 (J m news) F N hJ ?_ hE;intro n G u z B ah aa ab;refine cg (turn n G u z B ah aa ab) (λb s₂ x=>?_) λ_ _ e=>e
 cases b with
 | false=>
  simp only[g9,if_false] at x ⊢;refine Hs x λh' tk m' nx Y F' N' j=>?_
  try clear x
  subst Y;exact done m' nx h' tk F' N' j
 | true=>
  simp only[if_true] at x ⊢;refine cg x (λf s₃ y=>?_) λ_ _ e=>e
  cases f with
  | ret v=>exact y
  | brk=>exact y
  | next=>refine fK y λk hk O=>?_;try clear y;refine Hs O λh' tk m' nx ap F' N' j=>?_;try clear O;subst ap;exact(EV h' tk m' nx k rfl F' N' hk j)
  | cont=>refine fK y λk hk H=>?_;try clear y;refine Hs H λh' tk m' nx aj F' N' j=>?_;try clear H;subst aj;exact(EV h' tk m' nx k rfl F' N' hk j)
end
noncomputable def y6(R:Nat→Nat→Bool→Prop)(n:Nat){α:Type}(Φ:α→Prop):KasT α→Prop
 | .ret a=>Φ a
 | .ask i j k=>i<n∧j<n∧∀b,R i j b→y6 R n Φ (k b)
section
variable {R:Nat→Nat→Bool→Prop}{n:Nat}{α β:Type}
theorem eX(h:∀a,u a→e a):∀{t:KasT α},y6 R n u t→y6 R n e t
 | .ret _,x=>h _ x
 | .ask _ _ _,x=>(eR x.1 x.2.1 (λb hb=>eX h (x.2.2 b hb)))
theorem mO:∀{t:KasT α},y6 R n (λa=>y6 R n e (f a)) t→y6 R n e (t.bind f)
 | .ret _,x=>x
 | .ask _ _ _,x=>(eR x.1 x.2.1 (λb hb=>mO (x.2.2 b hb)))
theorem tg{cmp:Nat→Nat→(Bool→Shared→Prop)→Shared→Prop}{I:Shared→Prop}{e:α→Prop}{Q:α→Shared→Prop}(hc:∀i j,i<n→j<n→∀(C:Bool→Shared→Prop) s,I s→(∀b s',R i j b→I s'→C b s')→cmp i j C s)(hQ:∀a s,e a→I s→Q a s):∀{t:KasT α}{s:Shared},y6 R n e t→I s→t.kasWp cmp Q s
 | .ret _,_,x,i=>hQ _ _ x i
 | .ask a b k,s,x,i=>hc a b x.1 x.2.1 _ s i λc s' r u=>tg hc hQ (x.2.2 c r) u
noncomputable def P(n:Nat)(p:Array Nat):Prop:=p.Perm (aU n).toArray
theorem P.list(h:P n p):p.toList.Perm (aU n):=by simpa using h.toList
theorem P.size(h:P n p):p.size=n:=by simpa using h.list.length_eq
theorem P.get(h:P n p)(hk:k<n):p[k]?=some (p.getD k 0):=by
 have:=h.size;rw[lP,getElem?_pos p k (pV this hk)];rfl
theorem P.lt(h:P n p)(hk:k<n):p.getD k 0<n:=by
 have hs:=h.size
 have hm:p.getD k 0∈p.toList:=by
  have:=h.get hk;rw[← kc] at this;exact cq this
 exact bD.mp (h.list.mem_iff.mp hm)
theorem P.inj(h:P n p)(hi:i<n)(hj:j<n)(hne:i≠j):p.getD i 0≠p.getD j 0:=by
 intro e;have nd:p.toList.Nodup:=h.list.nodup_iff.mpr JG;have a:=h.get hi;have b:=h.get hj;rw[e,← b,← kc,← kc] at a;exact hne ((tX (by rw[Dh,h.size];exact hi) nd).mp a)
theorem P.rev(h:P n p)(i j:Nat):P n (IW p i j):=(mirror_perm _ _ _ _).trans h
theorem P.bub(h:P n p)(i j:Nat):P n (bubble p i j):=(bubble_perm _ _ _).trans h
theorem jk{p q:Array Nat}{i j:Nat}(h:p[i]?=q[j]?):p.getD i 0=q.getD j 0:=by rw[lP,lP,h]
structure Ord(lt:Nat→Nat→Bool)(n:Nat):Prop where
 tot:∀i j,i<n→j<n→i≠j→lt i j=false→lt j i=true
 tr:∀i j k,lt i j=true→lt j k=true→lt i k=true
noncomputable def tL(lt:Nat→Nat→Bool)(p:Array Nat)(k:Nat):Prop:=∀i j,i<j→j<k→lt (p.getD i 0) (p.getD j 0)=true
noncomputable def GB(lt:Nat→Nat→Bool)(p:Array Nat)(k:Nat):Prop:=∀i j,i<j→j<k→lt (p.getD j 0) (p.getD i 0)=true
variable {lt:Nat→Nat→Bool}
theorem tL.one:tL lt p 1:=λi j h1 h2=>by exact(qz (g5 [j,i] 1 Y0 (.k (-1)) 1 (.a Z0 Y1) Y1 1 (.a Z1 Y1) Z0 1 Y0 Z1 rfl (d9 h2) (d9 h1) j0)).elim
theorem tL.step(o:Ord lt n)(s:tL lt p k)(hk:1≤k)(h:lt (p.getD (k-1) 0) (p.getD k 0)=true):tL lt p (k+1):=by
 intro i j h1 h2
 by_cases e:j=k
 .subst e
  by_cases e2:i=j-1
  .subst e2;exact h
  .exact o.tr _ _ _ (s i (j-1) (Oe h1 e2) (JV (bB hk))) h
 .exact s i j h1 (PB h2 e)
theorem GB.step(o:Ord lt n)(s:GB lt p k)(hk:1≤k)(h:lt (p.getD k 0) (p.getD (k-1) 0)=true):GB lt p (k+1):=by
 intro i j h1 h2
 by_cases e:j=k
 .subst e
  by_cases e2:i=j-1
  .subst e2;exact h
  .exact o.tr _ _ _ h (s i (j-1) (Oe h1 e2) (JV (bB hk)))
 .exact s i j h1 (PB h2 e)
theorem sA{p:Array Nat}{m:Nat}(hm:m≤p.size)(k:Nat):(IW p 0 m).getD k 0=if k<m then p.getD (m-1-k) 0 else p.getD k 0:=by
 have:=getElem?_mirror_all (i:=0) hm k;unfold IW
 by_cases h:k<m
 .rw[if_pos h]
  rw[if_pos (⟨nV (cS [k] 1 Y0 Z0 1 Y0 Z0 rfl j0),ltN (cS [k,m] 1 (.a Z0 Y1) Z1 1 (.a Z0 Y1) Z1 rfl (d9 h))⟩)] at this;exact(jk this).trans (by congr 1;lia)
 .rw[if_neg h]
  rw[if_neg (λhh=>wP hh.right (cJ h))] at this;exact jk this
theorem GB.rev(hp:P n p)(hk:k≤n)(s:GB lt p k):tL lt (IW p 0 k) k:=by
 intro i j h1 h2;have hz:=hp.size;rw[sA (Db hz hk),sA (Db hz hk),if_pos (aO h1 h2),if_pos h2];exact s _ _ (Rc h1 h2) (RV (aO h1 h2))
noncomputable def Good(R:Nat→Nat→Bool→Prop)(lt:Nat→Nat→Bool)(n:Nat):Prop:=Ord lt n∧∀i j b,R i j b→b=lt i j
theorem Good.no(g:Good R lt n)(hi:i<n)(hj:j<n)(hne:i≠j)(r:R i j b)(hb:¬b=true):lt j i=true:=
 g.1.tot i j hi hj hne (by rw[← g.2 i j b r];simpa using hb)
theorem Good.yes(g:Good R lt n)(r:R i j b)(hb:b=true):lt i j=true:=by rw[← g.2 i j b r];exact hb
theorem A6(hp:P n p):∀(f m:Nat),1≤m→m+f≤n→y6 R n (λr=>m≤r∧r≤m+f∧(Good R lt n→tL lt p m→tL lt p r)) (kas_asc p f m)
 | 0,m,h1,h2=>(eR (aR _) (aR _) (λ_ s=>s))
 | f+1,m,h1,h2=>by
  refine(eR (hp.lt (Bu h2)) (hp.lt (JU (Bu h2))) (λb hb=>?_))
  by_cases e:b=true
  .simp only[if_pos e];exact(eR (aR _) (bx m (f+1)) (λ_ s=>s))
  .simp only[if_neg e]
   refine eX (λr x=>(eR (aL (bB x.left)) (Sz x.right.left) (λg s=>x.2.2 g (s.step g.1 h1 (g.no (hp.lt (Bu h2)) (hp.lt (JU (Bu h2))) (hp.inj (Bu h2) (JU (Bu h2)) (λhh=>P7 (bB h1) hh)) hb e))))) (A6 hp f (m+1) (dI h1) (PP h2))
theorem rk:∀(f:Nat) (p:Array Nat) (m q:Nat),P n p→1≤m→m+f≤n→y6 R n (λr=>P n r.1∧m≤r.2.1∧r.2.1≤n∧(Good R lt n→q=0→GB lt p m→r.2.2=0∧GB lt r.1 r.2.1)) (kas_desc f p m q)
 | 0,p,m,q,hp,h1,h2=>(nB hp (aR _) (by refine(?_:m≤n);exact aw (bx m 0) h2) (λ_ e d=>⟨e,d⟩))
 | f+1,p,m,q,hp,h1,h2=>by
  refine(eR (hp.lt (Bu h2)) (hp.lt (JU (Bu h2))) (λb hb=>?_))
  by_cases e:b=true
  .simp only[if_pos e]
   by_cases hq:q > 0
   .simp only[if_pos hq]
    exact eX (λr x=>(nB x.1 (aL (bB x.right.left)) x.2.2.1 (λg u=>by exact pd (QM hq (Eq.symm u))))) (rk f (IW p (m-(q+1)) m) (m+1) 0 (hp.rev _ _) (dI h1) (PP h2))
   .simp only[if_neg hq]
    exact eX (λr x=>(nB x.1 (aL (bB x.right.left)) x.2.2.1 (λg _ d=>x.2.2.2 g rfl (d.step g.1 h1 (g.yes hb e))))) (rk f p (m+1) 0 hp (dI h1) (PP h2))
  .simp only[if_neg e]
   refine(eR (hp.lt (JU (Bu h2))) (hp.lt (Bu h2)) (λc hc=>?_))
   by_cases e2:c=true
   .simp only[if_pos e2];exact(nB hp (aR _) (by refine(?_:m≤n);exact aL (Bu h2)) (λ_ e d=>⟨e,d⟩))
   .simp only[if_neg e2]
    refine eX (λr x=>(nB x.1 (aL (bB x.right.left)) x.2.2.1 (λg u=>?_))) (rk f p (m+1) (q+1) hp (dI h1) (PP h2));have B:=g.no (hp.lt (Bu h2)) (hp.lt (ltN (g5 [↑(m-1),n,m,r.snd.fst] 1 (.a Z0 Y1) Z1 1 (.a Z2 Y1) Z3 1 Z3 Z1 1 (.a Z0 Y1) Z2 rfl (d9 x.2.1) (d9 x.2.2.1) (xN (cS [m] 1 Y1 Z0 1 Y1 Z0 rfl (d9 h1)))))) (hp.inj (i:=m) (j:=m-1) (Bu h2) (ltN (g5 [↑(m-1),n,m,r.snd.fst] 1 (.a Z0 Y1) Z1 1 (.a Z2 Y1) Z3 1 Z3 Z1 1 (.a Z0 Y1) Z2 rfl (d9 x.2.1) (d9 x.2.2.1) (xN (cS [m] 1 Y1 Z0 1 Y1 Z0 rfl (d9 h1))))) (λhh=>P7 (bB h1) hh)) hb e;have z:=g.2 _ _ _ hc;exact absurd (z.trans B) e2
theorem x7(hp:P n p)(h1:1≤m)(h2:m≤n):y6 R n (λr=>1≤r.1∧r.1≤n∧P n r.2∧(Good R lt n→GB lt p m→tL lt r.2 r.1)) (kas_tail3 m n p):=by
 unfold kas_tail3;refine mO (eX (λr x=>?_) (A6 (lt:=lt) (hp.rev 0 m) (n-m) m h1 (RE h2)));exact(nB (aw h1 x.left) (Sc (Pf h2) x.right.left) (hp.rev 0 m) (λg d=>x.2.2 g (d.rev hp h2)))
theorem rj(hp:P n p)(h1:1≤m)(h2:m+1≤n):y6 R n (λr=>1≤r.1∧r.1≤n∧P n r.2∧(Good R lt n→GB lt p (m+1)→tL lt r.2 r.1)) (kas_descPart m n p):=by
 unfold kas_descPart;refine mO (eX (λr x=>?_) (rk (lt:=lt) (n-(m+1)) p (m+1) 0 hp (dI h1) (RE h2)));refine xU x λB z u e=>?_
 try clear x
 by_cases hq:r.2.2 > 0
 .simp only[if_pos hq]
  refine eX (λt y=>(nB y.1 y.2.1 y.2.2.1 (λg d=>?_))) (x7 (lt:=lt) (B.rev _ _) (aL (aK h1 (bB z))) u);have:=(e g rfl d).1;exact pd (QM hq (Eq.symm this))
 .simp only[if_neg hq]
  exact eX (λt y=>(nB y.1 y.2.1 y.2.2.1 (λg d=>y.2.2.2 g (e g rfl d).2))) (x7 (lt:=lt) B (aL (aK h1 (bB z))) u)
theorem B1(hp:P n p)(h1:2≤n):y6 R n (λr=>1≤r.1∧r.1≤n∧P n r.2∧(Good R lt n→tL lt r.2 r.1)) (kas_count n p):=by
 unfold kas_count;have stop:∀{a:Array Nat}{b:Nat}{f:Nat},kas_asc a f b=kas_asc a f b:=rfl
 have G:∀(f m:Nat),1≤m→m+f=n→y6 R n (λr=>m≤r∧r≤n∧(Good R lt n→tL lt p m→tL lt p r∧(r<n→lt (p.getD r 0) (p.getD (r-1) 0)=true))) (kas_asc p f m):=by
  intro f
  induction f with
  | zero=>intro m a b;exact(eR (aR _) (Db (Eq.symm b) (bx m 0)) (λ_ s=>⟨s,λh=>by exact(qz (eQ [m,n] 1 Y0 (.k (-1)) 1 (.a Z0 Y1) Z1 1 Z1 (.a Z0 Y0) rfl (d9 h) (l9 b))).elim⟩))
  | succ f H=>
   intro m a b;refine(eR (hp.lt (L9 b)) (hp.lt (JU (L9 b))) (λc hc=>?_))
   by_cases e:c=true
   .simp only[if_pos e];exact(eR (aR _) (Db (Eq.symm b) (bx m (f+1))) (λg s=>⟨s,λ_=>g.yes hc e⟩))
   .simp only[if_neg e]
    exact eX (λr x=>(eR (aL (bB x.left)) (x.right.left) (λg s=>x.2.2 g (s.step g.1 a (g.no (hp.lt (L9 b)) (hp.lt (ltN (g5 [↑(m-1),n,m,r] 1 (.a Z0 Y1) Z1 1 (.a Z2 Y1) Z3 1 Z3 Z1 1 (.a Z0 Y1) Z2 rfl (d9 x.1) (d9 x.2.1) (xN (cS [m] 1 Y1 Z0 1 Y1 Z0 rfl (d9 a)))))) (hp.inj (L9 b) (ltN (g5 [↑(m-1),n,m,r] 1 (.a Z0 Y1) Z1 1 (.a Z2 Y1) Z3 1 Z3 Z1 1 (.a Z0 Y1) Z2 rfl (d9 x.1) (d9 x.2.1) (xN (cS [m] 1 Y1 Z0 1 Y1 Z0 rfl (d9 a))))) (λhh=>P7 (bB a) hh)) hc e))))) (H (m+1) (dI a) (Pg b))
 refine mO (eX (λm x=>?_) (G (n-1) 1 (aR 1) (Pf (aL (bB h1)))));refine kq x λu B z=>?_
 try clear x
 by_cases e:m=n
 .subst e
  simp only[beq_self_eq_true,if_true];exact(nB (u) (aR _) hp (λg=>(z g .one).1))
 .rw[if_neg (by simpa using e)]
  by_cases h:m > 1
  .rw[if_pos h]
   refine(eR (hp.lt (aN (bB u) B)) (hp.lt (RY (bB u) B)) (λc hc=>?_))
   by_cases e2:c=true
   .simp only[if_pos e2];exact(nB (u) B hp (λg=>(z g .one).1))
   .simp only[if_neg e2]
    refine eX (λt y=>(nB y.1 y.2.1 y.2.2.1 (λg=>?_))) (rj (lt:=lt) (hp.rev 0 m) (u) (jX (ng B e)));have a:=(z g .one).1 0 (m-1) (Nat.sub_pos_of_lt h) (JV h);exact absurd ((g.2 _ _ _ hc).trans a) e2
  .rw[if_neg h]
   have hm:m=1:=iw (cJ h) u;subst hm;refine eX (λt y=>(nB y.1 y.2.1 y.2.2.1 (λg=>y.2.2.2 g ?_))) (rj (lt:=lt) hp (cJ h) (h1));exact GB.step g.1 (λi j a b=>by exact(qz (g5 [j,i] 1 Y0 (.k (-1)) 1 (.a Z0 Y1) Y1 1 (.a Z1 Y1) Z0 1 Y0 Z1 rfl (d9 b) (d9 a) j0)).elim) (cJ h) ((z g .one).2 (bB h1))
theorem sb(hp:P n p)(hk:k<n):∀(f l r:Nat),l≤r→r≤k→r-l≤f→y6 R n (λx=>l≤x∧x≤r∧(Good R lt n→tL lt p k→(∀i,i<l→lt (p.getD i 0) (p.getD k 0)=true)→(∀i,r≤i→i<k→lt (p.getD k 0) (p.getD i 0)=true)→(∀i,i<x→lt (p.getD i 0) (p.getD k 0)=true)∧(∀i,x≤i→i<k→lt (p.getD k 0) (p.getD i 0)=true))) (kas_place p k f l r)
 | 0,l,r,h1,h2,h3=>(eR (aR _) h1 (λ_ _ a b=>⟨a,λi hi=>b i (by exact nV (g5 [r,i,l,↑(r-l)] 1 Z0 Z1 1 Z2 Z1 1 Z3 Y0 1 Z0 (.a Z3 Z2) rfl (d9 hi) (d9 h3) C8))⟩))
 | f+1,l,r,h1,h2,h3=>by
  unfold kas_place
  by_cases u:l≥r
  .rw[if_pos u];exact(eR (aR _) h1 (λ_ _ a b=>⟨a,λi hi=>b i (by exact aw u hi)⟩))
  .rw[if_neg u]
   refine(eR (hp.lt (by exact hk)) (hp.lt (by exact aN (NX (cI u) h2) (aL hk))) (λc hc=>?_))
   by_cases e:c=true
   .simp only[if_pos e]
    refine eX (λx y=>(eR y.1 (by exact nV (g5 [x,r,↑((l+r)/2),l] 2 Z0 Z1 2 Z0 Z2 1 (.a Z3 Y1) Z1 1 (.m 2 Z2) (.a Z3 Z1) rfl (d9 y.2.1) (Sa u) Rv)) (λg s a b=>y.2.2 g s a λi hi B=>?_))) (sb hp hk f l ((l+r)/2) (by exact Oa (cI u)) (by exact aL (NX (cI u) h2)) (by exact Rk h3 (cI u)))
    by_cases e2:i=(l+r)/2
    .subst e2;exact g.yes hc e
    .exact g.1.tr _ _ _ (g.yes hc e) (s _ _ (by lia) B)
   .simp only[if_neg e]
    refine eX (λx y=>(eR (by exact aw (Oa (cI u)) (aL (bB y.left))) y.2.1 (λg s a b=>y.2.2 g s (λi hi=>?_) b))) (sb hp hk f ((l+r)/2+1) r (by exact jX (NY (cI u))) (by exact h2) (by exact Rl h3 (cI u)));have z:=g.no (hp.lt (by exact hk)) (hp.lt (by exact ltN (y5 [↑((l+r)/2),n,x,r,k] 1 (.a Z0 Y1) Z1 1 (.a Z0 Y1) Z2 1 Z2 Z3 1 Z3 Z4 1 (.a Z4 Y1) Z1 rfl (d9 y.1) (d9 y.2.1) (d9 h2) (d9 hk)))) (hp.inj (by exact hk) (by exact ltN (y5 [↑((l+r)/2),n,x,r,k] 1 (.a Z0 Y1) Z1 1 (.a Z0 Y1) Z2 1 Z2 Z3 1 Z3 Z4 1 (.a Z4 Y1) Z1 rfl (d9 y.1) (d9 y.2.1) (d9 h2) (d9 hk))) (by exact λhh=>wP (HD hh (bB y.left)) (aw y.right.left h2))) hc e
    by_cases e2:i=(l+r)/2
    .subst e2;exact z
    .exact g.1.tr _ _ _ (s i ((l+r)/2) (by exact PB hi e2) (by exact NX (cI u) h2)) z
theorem uV{p:Array Nat}{src d:Nat}(hs:src<p.size)(hd:d≤src)(k:Nat):(bubble p src d).getD k 0=if k=src-d then p.getD src 0 else if src-d<k∧k≤src then p.getD (k-1) 0 else p.getD k 0:=by
 have:=getElem?_bubble hs d hd k
 by_cases h1:k=src-d
 .rw[if_pos h1] at this ⊢;exact jk this
 .rw[if_neg h1] at this ⊢
  by_cases h2:src-d<k∧k≤src
  .rw[if_pos h2] at this ⊢;exact jk this
  .rw[if_neg h2] at this ⊢;exact jk this
theorem tL.put(hp:P n p)(hk:k<n)(hl:l≤k)(s:tL lt p k)(a:∀i,i<l→lt (p.getD i 0) (p.getD k 0)=true)(b:∀i,l≤i→i<k→lt (p.getD k 0) (p.getD i 0)=true):tL lt (bubble p k (k-l)) (k+1):=by
 intro i j h1 h2;have hz:=hp.size;rw[uV (pV hz hk) (jy k l),uV (pV hz hk) (jy k l),show k-(k-l)=l by exact Nat.sub_sub_self hl]
 by_cases e1:j=l
 .have n1:¬i=l:=λhh=>wP (pV (Eq.symm e1) h1) (fu (Eq.symm hh))
  have n2:¬(l<i∧i≤k):=λhh=>wP (pV (Eq.symm e1) h1) (aL hh.left);simp only[if_pos e1,if_neg n1,if_neg n2];exact a i (pV (Eq.symm e1) h1)
 .simp only[if_neg e1]
  by_cases e2:i=l
  .have n1:l<j∧j≤k:=⟨ltN (eQ [l,j,i] 1 (.a Z0 Y1) Z1 1 Z0 Z2 1 (.a Z2 Y1) Z1 rfl (l9 e2) (d9 h1)),nV (cS [j,k] 1 Z0 Z1 1 (.a Z0 Y1) (.a Z1 Y1) rfl (d9 h2))⟩
   simp only[if_pos e2,if_pos n1];exact b _ (lh n1.left) (P6 n1.left h2)
  .simp only[if_neg e2]
   by_cases e3:l<j
   .have n1:l<j∧j≤k:=⟨ltN (cS [l,j] 1 (.a Z0 Y1) Z1 1 (.a Z0 Y1) Z1 rfl (d9 e3)),nV (cS [j,k] 1 Z0 Z1 1 (.a Z0 Y1) (.a Z1 Y1) rfl (d9 h2))⟩
    simp only[if_pos n1]
    by_cases e4:l<i
    .have n2:l<i∧i≤k:=⟨ltN (cS [l,i] 1 (.a Z0 Y1) Z1 1 (.a Z0 Y1) Z1 rfl (d9 e4)),nV (eQ [i,k,j] 1 Z0 Z1 1 Z2 Z1 1 (.a Z0 Y1) Z2 rfl (d9 n1.2) (d9 h1))⟩
     simp only[if_pos n2];exact s _ _ (RU n2.left h1) (P6 n1.left h2)
    .have n2:¬(l<i∧i≤k):=λhh=>wP hh.left (cJ e4)
     simp only[if_neg n2];exact s _ _ (by lia) (P6 n1.left h2)
   .have n1:¬(l<j∧j≤k):=λhh=>wP hh.left (cJ e3)
    have n2:¬(l<i∧i≤k):=λhh=>wP hh.left (aL (aN h1 (cJ e3)));simp only[if_neg n1,if_neg n2];exact s _ _ h1 (by lia)
theorem A5:∀(f:Nat) (p:Array Nat) (k:Nat),P n p→1≤k→k+f=n→y6 R n (λx=>P n x∧(Good R lt n→tL lt p k→tL lt x n)) (kas_bin f p k)
 | 0,p,k,hp,h1,h2=>⟨hp,λ_ s=>by rwa [show n=k by exact vn (cS [n,k] 1 Z0 Z1 1 Z0 (.a Z1 Y0) rfl (l9 h2)) (cS [k,n] 1 Z0 Z1 1 (.a Z0 Y0) Z1 rfl (vX h2))]⟩
 | f+1,p,k,hp,h1,h2=>by
  unfold kas_bin;refine mO (eX (λl x=>?_) (sb (lt:=lt) hp (L9 h2) k 0 k (aL (bB h1)) (aR _) (jy k 0)));refine eX (λy z=>⟨z.1,λg s=>z.2 g ?_⟩) (A5 f (bubble p k (k-l)) (k+1) (hp.bub _ _) (dI h1) (Pg h2));have:=x.2.2 g s (λi hi=>by exact(qz (eQ [i] 1 Y0 (.k (-1)) 1 (.a Z0 Y1) Y0 1 Y0 Z0 rfl (d9 hi) j0)).elim) (λi a b=>by exact(qz (eQ [i,k] 1 Y0 (.k (-1)) 1 (.a Z0 Y1) Z1 1 Z1 Z0 rfl (d9 b) (d9 a))).elim);exact s.put hp (L9 h2) x.2.1 this.1 this.2
theorem uE(h2:2≤n):y6 R n (λx=>P n x∧(Good R lt n→tL lt x n)) (kas_sort n):=by
 unfold kas_sort;have hp:P n (bO (aU n)):=C6 _;refine mO (eX (λr x=>?_) (B1 (lt:=lt) hp h2));refine xU x λG B u e=>?_
 try clear x
 by_cases h:r.1<n
 .rw[if_pos h,show max r.1 1=r.1 by exact xr G]
  exact eX (λy z=>⟨z.1,λg=>z.2 g (e g)⟩) (A5 (n-r.1) r.2 r.1 u G (Pf B))
 .rw[if_neg h]
  exact⟨u,λg=>by have:=e g;rwa [show r.1=n by exact iw B (cJ h)] at this⟩
end
end
section
open W PyProof.Rows
open PySem.Builtin
open PySem.Builtin.Tuple in
theorem JR(args:Args):Builtin.«tuple.__lt__» args=(do
  let (a,[b]) ← slotArgs "__lt__" 1 args|unsupported "internal:tuple.compare"
  if !(← jV b (.type "tuple")) then return ← ret .notImplemented
  let xs ← tupleItemsOf a
  let ys ← tupleItemsOf b
  for (x,y) in xs.toList.zip ys.toList do
   if !(← yQ x y) then
    rule "tuple.compare.by-the-first-pair-that-differs";return ← ret (← je .Lt x y)
  ret (tupleCompareSizes .Lt xs.size ys.size)):=rfl
section
variable {prog:Program}{w:World}{A:Around}{E:VP}{s:Shared}{x y:Addr}{ox oy:Obj}{n k:Nat}{a1 a2 a3 b1 b2 b3:Int}{t1 t2 t3 u1 u2 u3:Tok}
theorem Dw{P:Fin→Shared→Prop}(z:s.heap.get? x=some ox)(dx:ox.data=.seq #[.int a1 t1,.int a2 t2,.int a3 t3] n)(e:s.heap.get? y=some oy)(B:oy.data=.seq #[.int b1 u1,.int b2 u2,.int b3 u3] k)
  (hi:iP (aq prog w) s.heap (jV (.ref y) (.type "tuple")) true) (h:∀b,P (.done (.ret (.bool b))) s):ay (aq prog w) A (Builtin.«tuple.__lt__» ⟨[.ref x,.ref y],[]⟩) P E s:=by
 rw[JR];refine af (bN (a:=(.ref x,[.ref y])) (by kernel_rfl) ?_);refine af (hi.here ?_);refine af (nZ z dx ?_);refine af (nZ e B ?_)
 have lt:∀(a b:Int) (t u:Tok) (Q:VP) (E:VP),(∀c,Q (.bool c) s)→ay (aq prog w) A (je .Lt (.int a t) (.int b u)) Q E s:=
  λa b t u Q E hq=>show ay _ _ (fi .Lt (.int a t) (.int b u)) Q E s from wpAny_lt_int (hq _)
 refine af (af (af (hU ?_)))
 cases (a1==b1) with
 | false=>
  exact af (gv (af (lt _ _ _ _ _ _ λc=>af (ag (ag (ag (ag (h _))))))))
 | true=>
  refine ag (af (af (hU ?_)))
  cases (a2==b2) with
  | false=>
   exact af (gv (af (lt _ _ _ _ _ _ λc=>af (ag (ag (ag (ag (h _))))))))
  | true=>
   refine ag (af (af (hU ?_)))
   cases (a3==b3) with
   | false=>
    exact af (gv (af (lt _ _ _ _ _ _ λc=>af (ag (ag (ag (ag (h _))))))))
   | true=>
    exact ag (ag (ag (h false)))
variable {K:Frag}{C:Addr}{Q:Bool→Shared→Prop}
theorem He(hu:A.units<cT)(X:K.In s.heap)(U:s.heap.get? x=some ox)(cx:ox.cls=.ref C)(dx:ox.data=.seq #[.int a1 t1,.int a2 t2,.int a3 t3] n)(hy:s.heap.get? y=some oy)(cy:oy.cls=.ref C)(dy:oy.data=.seq #[.int b1 u1,.int b2 u2,.int b3 u3] k)
  (hf:fF K (.ref C) "__lt__"=some (some (.builtin "tuple.__lt__"))) (hm:lm K C (.type "tuple")=some true) (h:∀b,Q b s):ay (aq prog w) A (I6 oneType' (.ref x) (.ref y)) Q E s:=by
 rw[keyLt'_oneType,oneLt'_eq];refine af (wpAny_cRoomFor hu ?_)
 have H:∀(p:Addr) (o:Obj),s.heap.get? p=some o→o.cls=.ref C→iP (aq prog w) s.heap (rF (.ref p)) (.ref C):=λp o e c=>by
  have:=(kE (M:=aq prog w) (part:=some n9) e)
  exact c▸this.andThen .now
 have hl:=jr (M:=aq prog w) X hf;have G:=j6 (M:=aq prog w) X hm;have aa:iP (aq prog w) s.heap (jV (.ref x) (.type "tuple")) true:=(H x ox U cx).andThen G;have Y:iP (aq prog w) s.heap (jV (.ref y) (.type "tuple")) true:=(H y oy hy cy).andThen G;have u:=PySem.F.slot_tuple_lt.bind (.ref x)
 have fin:∀A,ay (aq prog w) A (call (.builtin "tuple.__lt__") [.ref x,.ref y]) (λv s'=>s'=s∧∃b,v=.bool b) (λ_ _=>False) s:=λA=>by
  refine ev (fV PySem.F.slot_tuple_lt.plain PySem.F.entry_tuple_lt (@rJ (aq prog w) _ _ _ "tuple.__lt__" "tuple" "__lt__" (.ref x) [.ref y] [] _ (by decide +kernel) (by decide +kernel) aa (PySem.F.args_tuple_lt_2 _ _) ?_))
  exact Dw U dx hy dy Y λb=>⟨rfl,b,rfl⟩
 have fin2:∀(R:Option Value→Shared→Prop),(∀b,R (some (.bool b)) s)→ay (aq prog w) A (call (.builtin "tuple.__lt__") ([.ref x]++[.ref y]) >>= λv=>ck (some v)) R E s:=λR hR=>
  af (cg (fin A) (λv s' z=>by refine b7 z λJ B=>?_;try clear z;subst J;refine cp B λb O=>?_;try clear B;subst O;exact ag (hR b)) λ_ _ z=>z.elim)
 have go:∀(R:Option Value→Shared→Prop),(∀b,R (some (.bool b)) s)→ay (aq prog w) A (callSpecialIfBound? (.ref x) "__lt__" [.ref y]) R E s:=by
  intro R hR;refine bA (af (af (af ((H x ox U cx).here (hl.here ?_)))));refine af (qN (wpAny_ite ?_))
  split
  .exact af (bN u (ag (fin2 R hR)))
  .exact jc (af (bN u (ag (fin2 R hR))))
 refine af (go _ λb=>?_);exact aY (h b)
end
theorem gZ(ms:List (Addr×α))(h:i<ms.length):(refsOf ms).getD i Value.none=.ref (ms[i]'h).1:=by
 simp [refsOf,az,h]
theorem po(ms:List α)(d:α)(hp:P ms.length p):(p.toList.map λi=>ms.getD i d).Perm ms:=by
 have h1:=hp.list.map λi=>ms.getD i d;refine h1.trans (List.Perm.of_eq ?_);refine ou (by simp) λi h1 h2=>?_;simp only[cG,mE,az,ao h2,GN]
theorem pj(ms:List (Addr×α))(d:Addr×α)(hp:P ms.length p):(p.toList.map λi=>(refsOf ms).getD i Value.none)=refsOf (p.toList.map λi=>ms.getD i d):=by
 unfold refsOf;rw[iQ];refine rR λi hi=>?_;have e:i<ms.length:=bD.mp (hp.list.mem_iff.mp hi);have:=gZ ms e;unfold refsOf at this;rw[this];simp [Function.comp,az,ao e]
section
variable {prog:Program}{w:World}{A:Around}{E:VP}{s:Shared}{h₀:Heap}{L D:Addr}{m:Lo}{news T:Ns}{n:Nat}{g:Obj→Ns}{Q:VP}{K:Frag}{ms:List (Addr×Int)}
omit K ms in
theorem xF:∀{l:Ns}{g:Obj→Ns},xh D o l g→∀o',xh D o' (g o') g
 | _,_,.head a,_=>.head a
 | _,_,.tail a b,o'=>.tail a (xF b o')
theorem zr{vs:List Value}(F:Fr h₀ L s.heap m)(N:ba h₀ L s.heap news)(U:xh D (listOf vs.toArray n) news g)(u:vs.length<2)
  (h:∀h' c,Fr h₀ L h' m→ba h₀ L h' (g (listOf vs.toArray c))→Q .none {s with heap:=h'}):ay (aq prog w) A (call (.builtin "list.sort") [.ref D]) Q E s:=by
 refine hH U.split λpre post e0 hg O J=>?_;rw[e0] at N;have H:=N (D,listOf vs.toArray n) (zR (.head _));have ho:s.heap.get? D=some (cE "list" vs.toArray n):=H.1;refine ej Bx (c9 _ H.1 rfl) Az ?_ (PyProof.Rows.args_list_sort _);have s1:=cu s.heap D (bI λ_=>(#[]:Array Value))
 obtain ⟨e1,B⟩:∃e1,(s.heap.update D (bI λ_=>(#[]:Array Value))).get? D=some (cE "list" #[] e1):=⟨_,fA ho λ_=>#[]⟩
 have F1:Fr h₀ L (s.heap.update D (bI λ_=>(#[]:Array Value))) m:=F.change s1 H.2.1 H.2.2;have N1:ba h₀ L (s.heap.update D (bI λ_=>(#[]:Array Value))) (pre++(D,cE "list" #[] e1)::post):=Mw N O J s1 B;have F3:=(F1.push (cE "tuple" vs.toArray 0)).push (cE "list" #[] 0);have Y:=News.grown (News.grown N1 λ_ _ e=>aG (cE "tuple" vs.toArray 0) e) λ_ _ e=>aG (cE "list" #[] 0) e;have na:=Y (D,cE "list" #[] e1) (zR (.head _));rw[list_sort_plain];refine af (listItems_at ho rfl ?_);refine af (pY ho rfl ?_ (by rw[aV,eK];exact rZ (aL u) (bR true)) (c7 _));refine af (sW B rfl ?_);refine af (wpAny_newTuple ?_ (by refine(?_:vs.length≤_);rw[eK];exact rZ (aL u) (bR true)));refine af (vi ?_ (c7 _));refine bA ?_
 have G:vs.toArray.size<2:=by rw[aV];exact u
 rw[if_pos G,if_pos G];refine af (ag ?_);refine af (ag ?_);dsimp only
 have z:(arrOf (ot general' (vs.toArray.zip vs.toArray) #[] 7 none)).map (·.2)=vs.toArray:=by
  apply oq.mp;rw[vg,oo];exact JH (aR _)
 rw[z];have s2:=cu (((s.heap.update D (bI λ_=>(#[]:Array Value))).push (cE "tuple" vs.toArray 0)).push (cE "list" #[] 0)) D (bI λ_=>vs.toArray)
 obtain ⟨c2,hc2⟩:∃c2,((((s.heap.update D (bI λ_=>(#[]:Array Value))).push (cE "tuple" vs.toArray 0)).push (cE "list" #[] 0)).update D (bI λ_=>vs.toArray)).get? D=some (cE "list" vs.toArray c2):=⟨_,fA na.1 λ_=>vs.toArray⟩
 refine af (sW na.1 rfl ?_);refine af (pY na.1 rfl ?_ (c7 _) (by rw[aV,eK];exact rZ (aL u) (bR true)));simp only[bne_self_eq_false,g9,if_false];refine ag (c9 _ rfl (h _ c2 (F3.change s2 na.2.1 na.2.2) ?_));rw[hg];exact Mw Y O J s2 hc2
theorem zM(hu:A.units+1<cT)(aa:K.In h₀)(hf:fF K (.ref 171) "__lt__"=some (some (.builtin "tuple.__lt__")))(hm:lm K 171 (.type "tuple")=some true)(F:Fr h₀ L s.heap m)(N:ba h₀ L s.heap news)(U:xh D (listOf (refsOf ms).toArray n) news g)
  (hM:∀q∈ms,sL T q) (hT:∀o,∀p∈T,p∈g o) (ah:ms.length<64)
  (h:∀O h' tk' c,O.Perm ms→Fr h₀ L h' m→ba h₀ L h' (g (listOf (refsOf O).toArray c))→Q .none {s with heap:=h',toks:=tk'}):
  ay (aq prog w) A (call (.builtin "list.sort") [.ref D]) Q E s:=by
 have u:∀(e1:Nat) (h':Heap),ba h₀ L h' (g (cE "list" #[] e1))→∀q∈ms,∃dx i j t1 t2 t3,h'.get? q.1=some (dT dx i j q.2 t1 t2 t3):=by
  intro e1 h' z q hq;refine zE (hM q hq) λdx i j t1 t2 t3 ab=>?_;exact(B7 dx i j t1 t2 t3 ((z _ (hT _ _ ab)).1))
 by_cases h2:2≤ms.length
 .refine kas_lsort (vs:=refsOf ms) (T:=.ref 171) F N U (by simp) (by simpa [refsOf] using h2) (by simpa [refsOf] using ah) (λe1 h' B z v hv=>?_) (by decide) (λe1 h' B z=>?_)
  .refine fK (eg.mp hv) λq hq J=>?_
   subst J;refine zE (u e1 h' z q hq) λdx i j t1 t2 t3 e=>?_;exact(kE (M:=aq prog w) (part:=some n9) e).andThen .now
  .have hl:(refsOf ms).length=ms.length:=by simp [refsOf]
   rw[hl]
   have hne:ms≠[]:=by rintro rfl;simp at h2
   refine tg (n:=ms.length) (R:=λ_ _ _=>True) (I:=λs'=>∃h' tk,s' = {s with heap:=h',toks:=tk}∧Fr h₀ L h' m∧ba h₀ L h' (g (cE "list" #[] e1))) (λi j hi hj C s1 Y hC=>?_) (λp s1 hp Y=>?_) (uE (lt:=λ_ _=>true) h2) (ir h' s.toks rfl B z)
   .refine gJ Y λh1 tk H F1 N1=>?_
    try clear Y
    subst H;show ay (aq prog w) _ (I6 oneType' ((refsOf ms).getD i Value.none) ((refsOf ms).getD j Value.none)) C (λ_ _=>False) _;rw[gZ ms hi,gZ ms hj];refine zE (u e1 h1 N1 _ (bG hi)) λdx i1 j1 t1 t2 t3 e=>?_;refine zE (u e1 h1 N1 _ (bG hj)) λaD ax as ar ap aj e'=>?_;exact He hu (aa.keeps F1.keep) e rfl rfl e' rfl rfl hf hm λb=>hC b _ trivial (ir h1 tk rfl F1 N1)
   .refine gJ Y λh1 tk G F1 N1=>?_
    try clear Y
    subst G;rw[pj ms (ms.head hne) hp.1];exact KasFin.intro F1 N1 (xF U _) λh' c B z=>h _ h' tk c (po ms _ hp.1) B z
 .exact zr F N U (by simpa [refsOf] using h2) λh' c B z=>h ms h' s.toks c (List.Perm.refl _) B z
end
end
section
open W PyProof.Rows
section
variable {prog:Program}{w:World}{A:Around}{E:VP}{env:Env}{h₀:Heap}{target:PE}{body:List Stmt}{Q:FP}{s:Shared}
theorem BE{I:Addr}{nm:String}{keep:Ns}{vs:List Value}{m:Lo}{news:Ns}(J:Nat→(Lo)→Ns→Prop)(hJ:J 0 m news)
  (turn:∀i v m news o h tk,vs[i]?=some v→J i m news→o.cls=.type nm→Fr h₀ env.locals h m→ba h₀ env.locals h ((I,o)::news)→
   ay (aq prog w) A (de target env v) (λ_ s₂=>ay (aq prog w) A (kz body env) (mj h₀ env.locals {s with heap:=h,toks:=tk} [(I,o)] (λm' n'=>IY keep n'∧J (i+1) m' n') Q) E s₂) E {s with heap:=h,toks:=tk})
  (done:∀m news h tk,J vs.length m news→Fr h₀ env.locals h m→ba h₀ env.locals h news→Q .next {s with heap:=h,toks:=tk}):
  qR prog w A E h₀ env target body Q s [(I,nm)] keep (vs.map .val) m news:=by
 refine pA J hJ ?_ ?_
 .intro i a m news ha hJ v h tk hv F o ho N
  rw[eO] at ha
  cases e:vs[i]? with
  | none=>rw[e] at ha;cases ha
  | some x=>
   rw[e] at ha;have z:Itm.val x=a:=dJ ha;subst z;have u:v=x:=hv;subst u;exact turn i _ m news o h tk e hJ ho F N
 .intro m news h tk hJ F N
  rw[aE] at hJ;exact done m news h tk hJ F N
end
noncomputable def GA(T:Ns)(q:Addr×Int):Prop:=∃i j t1 t2 t3,(q.1,dO #[.int i t1,.int j t2,.int q.2 t3])∈T
theorem GA.mono(h:GA T q)(s:∀p∈T,p∈T'):GA T' q:=let ⟨a,b,c,d,e,f⟩:=h;⟨a,b,c,d,e,s _ f⟩
structure NS(T:Ns)(NA MB QU D I:Addr)(na:List (Addr×Int))(T2:Ns):Prop where
 h0:∀p∈T,p∈T2
 h1:∀p∈T2,p.1≠NA
 h2:∀p∈T2,p.1≠MB
 h3:∀p∈T2,p.1≠QU
 h4:∀p∈T2,p.1≠D
 h5:∀p∈T2,p.1≠I
 hn:∀q∈na,GA T2 q
 hpos:∀q∈na,0≤q.2
theorem NS.more{T T2:Ns}{NA MB QU D I t:Addr}{na:List (Addr×Int)}(g:NS T NA MB QU D I na T2){i j k:Int}{w1 w2 w3:Tok}(e1:t≠NA)(e2:t≠MB)(e3:t≠QU)(e4:t≠D)(e5:t≠I)(hk:0≤k):NS T NA MB QU D I (na++[(t,k)]) ((t,dO #[.int i w1,.int j w2,.int k w3])::T2) where
 h0:=λp hp=>zT (g.h0 p hp)
 h1:=zC ⟨e1,g.h1⟩
 h2:=zC ⟨e2,g.h2⟩
 h3:=zC ⟨e3,g.h3⟩
 h4:=zC ⟨e4,g.h4⟩
 h5:=zC ⟨e5,g.h5⟩
 hn:=λq hq=>(aC.mp hq).elim (λh=>(g.hn q h).mono λp hp=>zT hp) λh=>aA.mp h▸(OF i j w1 w2 w3 (zH))
 hpos:=λq hq=>(aC.mp hq).elim (g.hpos q) λh=>aA.mp h▸hk
theorem mH{α:Type}{ms:List (Addr×α)}{i:Nat}{v:Value}(h:(refsOf ms)[i]?=some v):∃q,ms[i]?=some q∧v=.ref q.1:=by
 unfold refsOf at h;rw[eO] at h
 cases e:ms[i]? with
 | none=>rw[e] at h;cases h
 | some q=>rw[e] at h;exact(c9 q rfl ((dJ h).symm))
theorem vO{ms:List (Addr×Int)}{i:Nat}{q:Addr×Int}(h:ms[i]?=some q):ee (ms.take (i+1))=ee (ms.take i)+q.2:=by
 have hl:i<ms.length:=(bP.mp h).1;rw[tW hl,mF];rw[ao hl] at h;rw[dJ h]
theorem pi(q:Addr×Int)(l:List (Addr×Int)):ee (q::l)=q.2+ee l:=by simp [ee]
theorem BL(h:a.Perm b):ee a=ee b:=by
 induction h with
 | nil=>rfl
 | cons x _ e=>rw[pi,pi,e]
 | swap x y l=>simp only[pi];exact nA (kJ [y.snd,x.snd,ee l] (.a Z0 (.a Z1 Z2)) (.a Z1 (.a Z0 Z2)) rfl) (kJ [x.snd,y.snd,ee l] (.a Z0 (.a Z1 Z2)) (.a Z1 (.a Z0 Z2)) rfl)
 | trans _ _ a b=>exact a.trans b
theorem Hf(h:a.map (·.2)=b.map (·.2)):ee a=ee b:=by unfold ee;rw[h]
theorem KL{a b:List (Addr×Int)}(h:a.map (·.2)=b.map (·.2)):a.length=b.length:=by have:=congrArg eE h;simpa using this
theorem HR{na:List (Addr×Int)}{T:Ns}{t:Addr}{i j k:Int}{w1 w2 w3:Tok}(h:∀q∈na,GA T q):∀q∈na++[(t,k)],GA ((t,dO #[.int i w1,.int j w2,.int k w3])::T) q:=
 λq hq=>(aC.mp hq).elim (λhq=>(h q hq).mono λp hp=>zT hp) λhq=>aA.mp hq▸(OF i j w1 w2 w3 (zH))
end
section
open W PyProof.Rows
open PySem.Builtin
section
variable {prog:Program}{w:World}{A:Around}{E:VP}{s:Shared}{K:Frag}{C r:Addr}{o:Obj}
theorem sy{name:Sr}{id:String}{args:List Value}{Q:Option Value→Shared→Prop}(X:K.In s.heap)(hr:s.heap.get? r=some o)(ho:o.cls=.ref C)(hf:fF K (.ref C) name=some (some (.builtin id)))
  (hb:bindSpecial (.builtin id) (.ref r)=ck (.builtin id,[.ref r])) (h:ay (aq prog w) A (call (.builtin id) (.ref r::args)) (λv=>Q (some v)) E s):ay (aq prog w) A (xe (.ref r) name args) Q E s:=by
 have e:iP (aq prog w) s.heap (rF (.ref r)) (.ref C):=by
  have:=(kE (M:=aq prog w) (part:=some n9) hr)
  exact ho▸this.andThen .now
 have hl:=jr (M:=aq prog w) X hf;unfold xe tP;exact af (af (e.here (hl.here (bA (af (bN hb (af (cg h (λ_ _ z=>ag z) λ_ _ z=>z))))))))
theorem Hq(F:Fr h₀ L s.heap m)(N:ba h₀ L s.heap news)(u:K.In h₀)(hr:(r,o)∈news)(ho:o.cls=.ref C)(hd:o.data=.seq xs n)
  (hf:fF K (.ref C) "__len__"=some (some (.builtin "tuple.__len__"))) (hm:lm K C (.type "tuple")=some true) (hz:(xs.size:Int)<2 ^ 63) (h:∀tk t,Q (.int xs.size t) {s with toks:=tk}):
  ay (aq prog w) A (call (.builtin "len") [.ref r]) Q E s:=by
 have X:=u.keeps F.keep;have G:=(N _ hr).1
 have z:iP (aq prog w) s.heap (rF (.ref r)) (.ref C):=by
  have:=(kE (M:=aq prog w) (part:=some n9) G)
  exact ho▸this.andThen .now
 have e:=j6 (M:=aq prog w) X hm;have B:iP (aq prog w) s.heap (jV (.ref r) (.type "tuple")) true:=z.andThen e;refine xx kind_len plain_len entry_len (args_len1 _) ?_;unfold Builtin.«len»;refine af (m:=oneArg "len" _) (ag ?_);refine af (m:=xe (.ref r) (ae "__len__")) (sy X G ho hf (PySem.F.slot_tuple_len.bind _) ?_);refine ev (fV PySem.F.slot_tuple_len.plain PySem.F.entry_tuple_len (@rJ (aq prog w) _ _ _ "tuple.__len__" "tuple" "__len__" (.ref r) [] [] _ (by decide +kernel) (by decide +kernel) B (PySem.F.args_tuple_len_1 _) ?_));unfold Builtin.«tuple.__len__»;refine af (bN (a:=(.ref r,[])) (by kernel_rfl) ?_);refine af (PySem.wpAny_tupleItemsOf G hd ?_)
 have h0:¬((xs.size:Int)<0):=λhh=>(qz (eQ [xs.size] 1 Y0 (.k (-1)) 1 (.a Z0 Y1) Y0 1 Y0 Z0 rfl hh j0))
 have h1:¬((xs.size:Int)≥2 ^ 63):=λhh=>MR hz hh;unfold retInt;refine af (pO ?_);refine ag ?_;refine af (bA (ag ?_));refine af (mh ?_);rw[if_neg h0];rw[if_neg h1];exact af (pO (ag (c9 _ rfl (h _ _))))
theorem DW(F:Fr h₀ L s.heap m)(N:ba h₀ L s.heap news)(e:K.In h₀)(hr:(r,o)∈news)(ho:o.cls=.ref C)(hd:o.data=.seq #[a,b,c] n)
  (hf:fF K (.ref C) "__len__"=some (some (.builtin "tuple.__len__"))) (hm:lm K C (.type "tuple")=some true) (h:∀tk t,Q (.int 3 t) {s with toks:=tk}):
  ay (aq prog w) A (call (.builtin "len") [.ref r]) Q E s:=Hq F N e hr ho hd hf hm (eF (bZ 3) (by decide)) h
end
end
section
open W PyProof Rows
theorem vl:Slot "map" "__init__" "object.__init__":=
 .of (owner:="object") (n:="__init__") (by rw[cr,bu];kernel_rfl) (by decide +kernel) (by decide +kernel) (by decide +kernel)
  (by first|exact .inl (by decide +kernel)|exact .inr (by decide +kernel)) (by rw[dr];kernel_rfl)
theorem iK:Slot "map" "__next__" "map.__next__":=
 .of (owner:="map") (n:="__next__") (by rw[cr,bu];kernel_rfl) (by decide +kernel) (by decide +kernel) (by decide +kernel)
  (by first|exact .inl (by decide +kernel)|exact .inr (by decide +kernel)) (by rw[dr];kernel_rfl)
theorem qf:Slot "map" "__iter__" "map.__iter__":=
 .of (owner:="map") (n:="__iter__") (by rw[cr,bu];kernel_rfl) (by decide +kernel) (by decide +kernel) (by decide +kernel)
  (by first|exact .inl (by decide +kernel)|exact .inr (by decide +kernel)) (by rw[dr];kernel_rfl)
theorem oV:kC xb "map.__next__"=some Builtin.«map.__next__»:=qP (by kernel_rfl)
theorem vx:kC xb "map.__new__"=some Builtin.«map.__new__»:=qP (by kernel_rfl)
theorem uQ:kC xb "map.__iter__"=some Builtin.«dict_keyiterator.__iter__»:=
 entryFor_alias (id':="dict_keyiterator.__iter__") (by kernel_rfl) (by decide +kernel) (by decide +kernel) (by kernel_rfl)
theorem qn(a:Value):gX "map.__next__" ⟨[a],[]⟩:=by unfold gX;kernel_rfl
theorem vB(a:Value):gX "map.__iter__" ⟨[a],[]⟩:=by unfold gX;kernel_rfl
theorem AX:mroOf (.type "map")=ck [.type "map",.type "object"]:=by rw[mroOf_type];kernel_rfl
theorem uz:gw (.type "map") "__new__"=ck (some (.builtin "map.__new__")):=by rw[cr,bu];kernel_rfl
theorem Ao:TypeCalled "map" "map.__new__" "object.__init__":=
 ⟨by decide +kernel,by decide +kernel,(ro _ _ AX),madeBy_type AX uz (by decide +kernel),by decide +kernel,by rw[dr];kernel_rfl,vl⟩
theorem ue(a b:Value):checkTypeCall "map" ⟨[a,b],[]⟩=ck ():=by kernel_rfl
theorem vm(a b:Value):yS "map.__new__" ⟨[.type "map",a,b],[]⟩=ck ():=by kernel_rfl
theorem zN:gw (.type "map") "__len__"=ck none:=by rw[cr,bu];kernel_rfl
theorem x5:gw (.type "map") "__length_hint__"=ck none:=by rw[cr,bu];kernel_rfl
noncomputable def l8(TI:Addr)(f:Value):Obj:={cls:=.type "map",data:=.fields #[.ref TI,f]}
noncomputable def gU(l:Addr):Obj:={cls:=.type "list_iterator",data:=.fields #[.ref l,.int 0 0]}
theorem Hg:tR (.type "map") (.type "map")=ck true:=by rw[dr];kernel_rfl
theorem vo(q l:Addr)(xs:Array Value):
  Meets (Builtin.«map.__new__» ⟨[.type "map",.ref q,.ref l],[]⟩) (λ_ R s=>s.heap.IsList l xs∧
   R (.ok (.ret (.ref (((s.heap.push (gU l)).push (dO #[.ref s.heap.objs.size])).objs.size)))) {s with heap:=((s.heap.push (gU l)).push (dO #[.ref s.heap.objs.size])).push (l8 (s.heap.push (gU l)).objs.size (.ref q))}):=
 .of_wp λprog w A R s h=>by
  obtain ⟨hp,g,d,tk,os⟩:=s;obtain ⟨e,h⟩:=h;have z:=Hg;have u:Heap.IsList (Shared.heap ⟨hp,g,d,tk,os⟩) l xs:=e
  wp_walk using kx u
  exact(c9 _ rfl h)
section
variable {prog:Program}{w:World}{A:Around}{E:VP}{s:Shared}{h₀:Heap}{L:Addr}{m:Lo}{news:Ns}{Q:VP}{q l:Addr}
theorem FO{its:Array Value}{n:Nat}(F:Fr h₀ L s.heap m)(N:ba h₀ L s.heap news)(hl:(l,listOf its n)∈news)
  (h:∀it tup G h',Fr h₀ L h' m→ba h₀ L h' ((G,l8 tup (.ref q))::(tup,dO #[.ref it])::(it,gU l)::news)→(∀p∈news,p.1<it)→it<tup→tup<G→Q (.ref G) {s with heap:=h'}):
  ay (aq prog w) A (call (.type "map") [.ref q,.ref l]) Q E s:=by
 have H:s.heap.IsList l its:=(cZ _ ((N _ hl).1) rfl ⟨_,rfl⟩)
 refine callType_new Ao (by decide) (ue _ _) (vm _ _) (λB=>PySem.F.args_object_init_3 B _ _) vx (vo q l its) ⟨H,?_⟩;have z1:(s.heap.push (gU l)).objs.size=s.heap.objs.size+1:=gk ..
 have z2:((s.heap.push (gU l)).push (dO #[.ref s.heap.objs.size])).objs.size=s.heap.objs.size+2:=by rw[gk,z1]
 have F3:Fr h₀ L (((s.heap.push (gU l)).push (dO #[.ref s.heap.objs.size])).push (l8 (s.heap.push (gU l)).objs.size (.ref q))) m:=((F.push _).push _).push _;have u:=F.ns.lt;have z:=F.above;refine⟨(c9 _ (a9 _ rfl) rfl),h s.heap.objs.size (s.heap.push (gU l)).objs.size _ _ F3 ?_ (λp hp=>bM (N p hp).1) (by rw[z1];exact aJ _) (by rw[z1,z2];exact aJ _)⟩;have Y:ba h₀ L (((s.heap.push (gU l)).push (dO #[.ref s.heap.objs.size])).push (l8 (s.heap.push (gU l)).objs.size (.ref q))) news:=N.grown λb x e=>aG _ (aG _ (aG _ e));have U:=jh F;have O:=jh (F.push (gU l));have J:=jh ((F.push (gU l)).push (dO #[.ref s.heap.objs.size]));intro p hp
 rcases ak.mp hp with e|hp
 .subst e;exact(eR (a9 _ rfl) (aF (by rw[z2];exact aN u (bx _ 2))) J)
 .rcases ak.mp hp with e|hp
  .subst e;exact(eR (aG _ (a9 _ rfl)) (aF (by rw[z1];exact aN u (bx _ 1))) O)
  .rcases ak.mp hp with e|hp
   .subst e;exact(eR (aG _ (aG _ (a9 _ rfl))) (aF u) U)
   .exact Y p hp
end
theorem km_P9:True:=by
 k_with "zmt"=>first|with_reducible assumption|with_reducible exact zH|(with_reducible refine zR ?_;k_extra "zmt")|(with_reducible refine zL ?_;k_extra "zmt")|(with_reducible refine zT ?_;k_extra "zmt")
 k_with "zmm"=>first|with_reducible assumption|exact a8 0 rfl|exact a8 1 rfl|exact a8 2 rfl|exact a8 3 rfl|exact a8 4 rfl|exact a8 5 rfl|exact a8 6 rfl|exact a8 7 rfl|exact a8 8 rfl|exact a8 9 rfl|(refine bk 1 ?_;assumption)|(refine bk 2 ?_;assumption)|(refine bk 3 ?_;assumption)|(refine bk 4 ?_;assumption)|(refine bk 5 ?_;assumption)|(refine bk 6 ?_;assumption)|(refine bk 7 ?_;assumption)|(refine bk 8 ?_;assumption)|(refine bk 9 ?_;assumption)|k_extra "zmt"
 k_with "zsu"=>first|exact FN|(refine FC ?_ ?_;(focus k_extra "zmm");k_extra "zsu")|(refine FA ?_ ?_;(focus k_extra "zsu");k_extra "zsu")|(intro p9 hp9;k_extra "zmm")
 trivial
section
variable {prog:Program}{w:World}{A:Around}{E:VP}{s:Shared}{h₀:Heap}{L:Addr}{m:Lo}{news:Ns}
theorem EC{B tup it q l f:Addr}{self v:Value}{O:Obj}{i n:Nat}{its:Array Value}{Q:Option Value→Shared→Prop}(F:Fr h₀ L s.heap m)(N:ba h₀ L s.heap ((it,O)::(B,l8 tup (.ref q))::(tup,dO #[.ref it])::(q,f9 (.ref f) self)::(l,listOf its n)::news))
  (hc:O.cls=.type "list_iterator") (hd:O.data=.fields #[.ref l,.int i 0]) (hx:its[i]?=some v) (off:∀p∈news,p.1≠it) (o1:B≠it) (o2:tup≠it) (o3:q≠it) (o4:l≠it)
  (h:∀h' u,u.cls=.type "list_iterator"→u.data=.fields #[.ref l,.int ((i+1:Nat):Int) 0]→Fr h₀ L h' m→ba h₀ L h' ((it,u)::(B,l8 tup (.ref q))::(tup,dO #[.ref it])::(q,f9 (.ref f) self)::(l,listOf its n)::news)→
   dH (aq prog w) A.in1 (.call (.ref f) ⟨[self,v],[]⟩) (λr s'=>match r with | .ok (.ret x)=>Q (some x) s' | .ok _=>False | .error _=>False) {s with heap:=h'}):
  ay (aq prog w) A (ky (.ref B)) Q E s:=by
 have J:=N _ (zH);have k1:=N _ (zT (zH));have k2:=N _ (zT (zT (zH)));have k4:=N _ (zT (zT (zT (zT (zH)))));dsimp only at J k1 k2 k4
 have hT:s.TypeIs (.ref B) "map":=(c9 _ k1.1 rfl)
 have U:s.heap.IsListIter it l i:=(cZ _ J.1 hc hd)
 have hl:s.heap.IsList l its:=(cZ _ k4.1 rfl ⟨_,rfl⟩)
 unfold ky
 refine af (Gk (ia (name:=ae "__next__") hT iK
  (ej iK hT oV ?_ (qn _))))
 unfold Builtin.«map.__next__»;refine af (bN (a:=(.ref B,[])) (by kernel_rfl) ?_);refine af (sP k1.1 rfl (x:=.ref tup) rfl ?_);refine af (jd k2.1 rfl ?_);refine af (af (af (bA (wpAny_nextOf_list_item U hl hx λh' h1 hs=>ag (ag ?_)))));refine fJ h1 λu g1 g2 g3=>?_
 try clear h1
 have keep:∀b o,b≠it→s.heap.get? b=some o→h'.get? b=some o:=λb o hb e=>hs.extBut b o hb e;have F':Fr h₀ L h' m:=F.change hs J.2.1 J.2.2
 have Y:ba h₀ L h' ((it,u)::(B,l8 tup (.ref q))::(tup,dO #[.ref it])::(q,f9 (.ref f) self)::(l,listOf its n)::news):=by
  intro p hp
  rcases ak.mp hp with e|hp
  .subst e;exact⟨g1,J.2⟩
  .have z:=N p (zT hp)
   refine⟨keep _ _ ?_ z.1,z.2⟩
   rcases ak.mp hp with e|hp
   .subst e;exact o1
   .rcases ak.mp hp with e|hp
    .subst e;exact o2
    .rcases ak.mp hp with e|hp
     .subst e;exact o3
     .rcases ak.mp hp with e|hp
      .subst e;exact o4
      .exact off p hp
 have H:=Y _ (zT (zH));have G:=Y _ (zT (zT (zT (zH))));dsimp only at H G;refine af (sP H.1 rfl (x:=.ref q) rfl ?_);refine af (bA (ev (method_call G.1 ?_)));refine xd (h h' u g2 g3 F' Y) λr s' hr=>?_
 cases r with
 | error e=>exact hr.elim
 | ok fl=>
  cases fl with
  | ret x=>exact af (mh (ag (c9 _ rfl (ag hr))))
  | _=>exact hr.elim
theorem HA{u tup it q l f:Addr}{self:Value}{G:Obj}{i n:Nat}{its:Array Value}{Q:Option Value→Shared→Prop}(hh:A.handled=none)(F:Fr h₀ L s.heap m)(N:ba h₀ L s.heap ((it,G)::(u,l8 tup (.ref q))::(tup,dO #[.ref it])::(q,f9 (.ref f) self)::(l,listOf its n)::news))
  (hc:G.cls=.type "list_iterator") (hd:G.data=.fields #[.ref l,.int i 0]) (U:its[i]?=none) (off:∀p∈news,p.1≠it) (o1:u≠it) (o2:tup≠it) (o3:q≠it) (o4:l≠it)
  (h:∀h',Fr h₀ L h' m→ba h₀ L h' ((u,l8 tup (.ref q))::(tup,dO #[.ref it])::(q,f9 (.ref f) self)::(l,listOf its n)::news)→Q none {s with heap:=h'}):
  ay (aq prog w) A (ky (.ref u)) Q E s:=by
 have B:=N _ (zH);have k1:=N _ (zT (zH));have k2:=N _ (zT (zT (zH)));have k4:=N _ (zT (zT (zT (zT (zH)))));dsimp only at B k1 k2 k4
 have hT:s.TypeIs (.ref u) "map":=(c9 _ k1.1 rfl)
 have J:s.heap.IsListIter it l i:=(cZ _ B.1 hc hd)
 have hl:s.heap.IsList l its:=(cZ _ k4.1 rfl ⟨_,rfl⟩)
 unfold ky
 refine af (Gk (ia (name:=ae "__next__") hT iK
  (ej iK hT oV ?_ (qn _))))
 unfold Builtin.«map.__next__»;refine af (bN (a:=(.ref u,[])) (by kernel_rfl) ?_);refine af (sP k1.1 rfl (x:=.ref tup) rfl ?_);refine af (jd k2.1 rfl ?_);refine af (af (af (bA (wpAny_nextOf_list_end (hh) J hl U λh' e hs he=>?_))));refine fK he λoe H O=>?_
 try clear he
 refine af (lz (T:="StopIteration") (b:=true) (c9 _ H O) isSubtype_stop ?_)
 have Y:Fr h₀ L h' m:=⟨F.ns.at' (λo e=>hs _ _ B.2.1.symm e),λb x e=>hs b x (λq=>by rw[q,B.2.2] at e;cases e) (F.keep b x e),F.above⟩
 refine ag (h h' Y λp hp=>?_);have z:=N p (zT hp);refine⟨hs _ _ ?_ z.1,z.2⟩
 rcases ak.mp hp with e|hp
 .subst e;exact o1
 .rcases ak.mp hp with e|hp
  .subst e;exact o2
  .rcases ak.mp hp with e|hp
   .subst e;exact o3
   .rcases ak.mp hp with e|hp
    .subst e;exact o4
    .exact off p hp
theorem ED{U tup it q l f S:Addr}{self ah:Value}{n:Nat}{na:List (Addr×Int)}{T:Ns}{R:Result→Shared→Prop}(hh:A.handled=none)
  (hcall:∀(s:Shared) (news:Ns) (tp:Addr) (x y z:Int) (t1 t2 t3:Tok) (Q:VP),Fr h₀ L s.heap m→ba h₀ L s.heap ((tp,dO #[.int x t1,.int y t2,.int z t3])::news)→
   (∀(r dx:Addr) (h':Heap) (tk':Nat),Fr h₀ L h' m→ba h₀ L h' ((r,dT dx x y z t1 t2 t3)::(tp,dO #[.int x t1,.int y t2,.int z t3])::news)→(∀p∈news,p.1<r)→tp<r→Q (.ref r) {s with heap:=h',toks:=tk'})→
   dH (aq prog w) A.in1.in1 (.call (.ref f) ⟨[self,.ref tp],[]⟩) (λr s'=>match r with | .ok (.ret v)=>Q v s' | .ok _=>False | .error _=>False) s)
  (aQ:na.length≤64) (O:∀p∈na,GA T p) (aj:∀p∈T,p.1≠it) (ap:∀p∈T,p.1≠S) (o1:U≠it) (o2:tup≠it) (o3:q≠it) (o4:l≠it) (o5:it<S) (o6:U≠S) (o7:tup≠S) (o8:q≠S) (o9:l≠S)
  (hR:∀(mk:List (Addr×Int)) (M:Ns) (c:Nat) (h':Heap) (tk':Nat),mk.map (·.2)=na.map (·.2)→(∀p∈mk,sL M p)→(∀p∈M,S<p.1)→Fr h₀ L h' m→ba h₀ L h' ((S,listOf (refsOf mk).toArray c)::(M++T))→R (.ok (.ret ah)) {s with heap:=h',toks:=tk'}):
  ∀(k i:Nat) (mk:List (Addr×Int)) (M:Ns) (c:Nat) (oi:Obj) (h:Heap) (tk:Nat),na.length-i=k→i≤na.length→oi.cls=.type "list_iterator"→oi.data=.fields #[.ref l,.int i 0]→mk.length=i→mk.map (·.2)=(na.take i).map (·.2)→(∀p∈mk,sL M p)→(∀p∈M,S<p.1)→Fr h₀ L h m→
   ba h₀ L h ((it,oi)::(U,l8 tup (.ref q))::(tup,dO #[.ref it])::(q,f9 (.ref f) self)::(l,listOf (refsOf na).toArray n)::(S,listOf (refsOf mk).toArray c)::(M++T))→
   dH (aq prog w) A (.builtin "list.extend.loop" ⟨[.ref S,.ref U,ah],[]⟩) R {s with heap:=h,toks:=tk}:=by
 have oM:∀{M:Ns}{c:Nat}{mk:List (Addr×Int)},(∀p∈M,S<p.1)→∀p∈(S,listOf (refsOf mk).toArray c)::(M++T),p.1≠it:=by
  intro M c mk hM p hp
  rcases ak.mp hp with e|hp
  .subst e;exact aF o5
  .rcases aC.mp hp with hp|hp
   .exact aF (aO o5 (hM p hp))
   .exact aj p hp
 intro k
 induction k with
 | zero=>
  intro i mk M c oi h tk hk hi c1 c2 H J hM u F N;have O:i=na.length:=Rd hk hi;subst O;refine eM PySem.F.entry_extend_loop ?_;rw[fH PySem.F.plain_extend_loop _];refine af (HA (hh) F N c1 c2 (by simp [refsOf]) (oM u) o1 o2 o3 o4 λh' F' Y=>?_);refine ag (hR mk M c h' tk (by rw[J,cP]) hM u F' λp hp=>Y p ?_);exact zT (zT (zT (zT hp)))
 | succ k ih=>
  intro i mk M c oi h tk hk hi c1 c2 H J hM u F N;have B:i<na.length:=Rf hk;refine eM PySem.F.entry_extend_loop ?_;rw[fH PySem.F.plain_extend_loop _];refine af (EC (v:=.ref (na[i]).1) F N c1 c2 (by simp [refsOf,B]) (oM u) o1 o2 o3 o4 λh1 G aM aD F1 N1=>?_);refine Ql (O _ (bG B)) λx y t1 t2 t3 ar=>?_
  have N2:ba h₀ L h1 ((na[i].1,dO #[.int x t1,.int y t2,.int na[i].2 t3])::_):=Es N1 (by
   exact zT (zT (zT (zT (zT (zT (zR ar)))))))
  refine xd (hcall {s with heap:=h1,toks:=tk} _ _ _ _ _ _ _ _ (λv s'=>∃(r dx:Addr) (h':Heap) (tk':Nat),v=.ref r∧s' = {s with heap:=h',toks:=tk'}∧Fr h₀ L h' m∧ba h₀ L h' ((r,dT dx x y na[i].2 t1 t2 t3)::(it,G)::(U,l8 tup (.ref q))::(tup,dO #[.ref it])::(q,f9 (.ref f) self)::(l,listOf (refsOf na).toArray n)::(S,listOf (refsOf mk).toArray c)::(M++T))∧S<r) F1 N2 λr dx h' tk' F' Y l1 _=>(zW r dx h' tk' rfl rfl F' (λp hp=>Y p ?_) (l1 (S,listOf (refsOf mk).toArray c) (by k_extra "zmm")))) λr s' hr=>?_
  .rcases ak.mp hp with e|hp
   .subst e;exact zH
   .exact zT (zT hp)
  cases r with
  | error e=>exact hr.elim
  | ok fl=>
   cases fl with
   | ret v=>
    refine zF hr λr dx h' tk' ab aa F' Y ax=>?_
    try clear hr
    subst ab;subst aa;have kS:=Y (S,listOf (refsOf mk).toArray c) (by k_extra "zmm");dsimp only at kS;refine af ?_
    obtain ⟨c',as⟩:∃c',(h'.update S (bI (·.push (.ref r)))).get? S=some (listOf ((refsOf mk).toArray.push (.ref r)) c'):=⟨_,fA kS.1 (·.push (.ref r))⟩
    have e9:listOf ((refsOf mk).toArray.push (.ref r)) c'=listOf (refsOf (mk++[(r,na[i].2)])).toArray c':=J9 _;rw[e9] at as
    have N3:ba h₀ L (h'.update S (bI (·.push (.ref r)))) ([(r,dT dx x y na[i].2 t1 t2 t3),(it,G),(U,l8 tup (.ref q)),(tup,dO #[.ref it]),(q,f9 (.ref f) self),(l,listOf (refsOf na).toArray n)]++(S,listOf (refsOf (mk++[(r,na[i].2)])).toArray c')::(M++T)):=by
     refine Mw (o:=listOf (refsOf mk).toArray c) Y ?_ ?_ (cu ..) as
     .intro p hp
      simp only[ak,bT,or_false] at hp
      rcases hp with e|e|e|e|e|e<;>subst e
      .exact aF ax
      .exact aB o5
      .exact o6
      .exact o7
      .exact o8
      .exact o9
     .intro p hp
      rcases aC.mp hp with hp|hp
      .exact aF (u p hp)
      .exact ap p hp
    have hsz:(refsOf mk).toArray.size=i:=by simp [refsOf,H]
    refine jH kS.1 rfl (ag ⟨iH PySem.F.plain_extend_loop _,ih (i+1) (mk++[(r,na[i].2)]) ((r,dT dx x y na[i].2 t1 t2 t3)::M) c' G _ tk' (by lia) (jX B) aM aD (by simp [H]) ?_ ?_ ?_ (F'.change (cu ..) kS.2.1 kS.2.2) ?_⟩)
     (by rw[hsz,eK];lia) (by refine(?_:((refsOf mk).toArray.push _).size≤dY+1);rw[Array.size_push,hsz,eK];lia)
    .rw[aX,J,tW B,aX];rfl
    .intro p hp
     rcases aC.mp hp with hp|hp
     .exact(hM p hp).mono λz hz=>zT hz
     .rw[aA.mp hp];exact(B7 dx x y t1 t2 t3 (zH))
    .exact zC ⟨ax,u⟩
    .intro p hp
     refine N3 p ?_;simp only[ak,aC,fE,ik] at hp ⊢
     rcases hp with e|e|e|e|e|e|e|e|e
     .exact .inr (.inl e)
     .exact .inr (.inr (.inl e))
     .exact .inr (.inr (.inr (.inl e)))
     .exact .inr (.inr (.inr (.inr (.inl e))))
     .exact .inr (.inr (.inr (.inr (.inr (.inl e)))))
     .exact .inr (.inr (.inr (.inr (.inr (.inr (.inl e))))))
     .exact .inl e
     .exact .inr (.inr (.inr (.inr (.inr (.inr (.inr (.inl e)))))))
     .exact .inr (.inr (.inr (.inr (.inr (.inr (.inr (.inr e)))))))
   | _=>exact hr.elim
end
section
variable {prog:Program}{w:World}{A:Around}{E:VP}{s:Shared}{h₀:Heap}{L:Addr}{m:Lo}{news:Ns}
theorem zw(u:s.heap.get? e=some (l8 tup f))(h:Q (.ref e) s):ay (aq prog w) A (rH (.ref e)) Q E s:=by
 have hT:s.TypeIs (.ref e) "map":=(c9 _ u rfl)
 refine wpAny_pyIter_slot hT qf (ej qf hT uQ ?_ (vB _));exact ag ⟨_,rfl,"map",_,hT,iK.lookup,h⟩
theorem EK{u tup it q l f:Addr}{self:Value}{n:Nat}{na:List (Addr×Int)}{T:Ns}{Q:VP}(hh:A.handled=none)
  (hcall:∀(s:Shared) (news:Ns) (tp:Addr) (x y z:Int) (t1 t2 t3:Tok) (Q:VP),Fr h₀ L s.heap m→ba h₀ L s.heap ((tp,dO #[.int x t1,.int y t2,.int z t3])::news)→
   (∀(r dx:Addr) (h':Heap) (tk':Nat),Fr h₀ L h' m→ba h₀ L h' ((r,dT dx x y z t1 t2 t3)::(tp,dO #[.int x t1,.int y t2,.int z t3])::news)→(∀p∈news,p.1<r)→tp<r→Q (.ref r) {s with heap:=h',toks:=tk'})→
   dH (aq prog w) A.in1.in1.in1 (.call (.ref f) ⟨[self,.ref tp],[]⟩) (λr s'=>match r with | .ok (.ret v)=>Q v s' | .ok _=>False | .error _=>False) s)
  (F:Fr h₀ L s.heap m) (N:ba h₀ L s.heap ((u,l8 tup (.ref q))::(tup,dO #[.ref it])::(it,gU l)::(q,f9 (.ref f) self)::(l,listOf (refsOf na).toArray n)::T))
  (ab:na.length≤64) (ax:∀p∈na,GA T p) (Y:∀p∈T,p.1≠it) (o1:u≠it) (o2:tup≠it) (o3:q≠it) (o4:l≠it)
  (h:∀(S:Addr) (mk:List (Addr×Int)) (M:Ns) (c:Nat) (h':Heap) (tk':Nat),mk.map (·.2)=na.map (·.2)→(∀p∈mk,sL M p)→(∀p∈M,S<p.1)→(∀p∈T,p.1<S)→Fr h₀ L h' m→ba h₀ L h' ((S,listOf (refsOf mk).toArray c)::(M++T))→Q (.ref S) {s with heap:=h',toks:=tk'}):
  ay (aq prog w) A (call (.type "list") [.ref u]) Q E s:=by
 have lt:∀p∈((u,l8 tup (.ref q))::(tup,dO #[.ref it])::(it,gU l)::(q,f9 (.ref f) self)::(l,listOf (refsOf na).toArray n)::T),p.1<s.heap.objs.size:=λp hp=>bM (N p hp).1
 refine callType_codes (Q₁:=λaa s₁=>aa=.ref s.heap.objs.size∧s₁ = {s with heap:=s.heap.push {cls:=.type "list",data:=.seq #[]} }) PySem.F.called_list (PySem.F.typeCall_list_1 _) PySem.F.entry_list_init
  (code_list_new _ ⟨rfl,rfl⟩) λaa s₁ G=>?_
 refine b7 G λU O=>?_
 try clear G
 subst U;subst O;have hS:(s.heap.push {cls:=.type "list",data:=.seq #[]}).get? s.heap.objs.size=some (listOf #[] 0):=a9 _ rfl;refine(eR (c9 _ hS rfl) (PySem.F.args_list_init_2 _ _) ?_);have F1:Fr h₀ L (s.heap.push {cls:=.type "list",data:=.seq #[]}) m:=F.push _;have N1:ba h₀ L (s.heap.push {cls:=.type "list",data:=.seq #[]}) ((u,l8 tup (.ref q))::(tup,dO #[.ref it])::(it,gU l)::(q,f9 (.ref f) self)::(l,listOf (refsOf na).toArray n)::T):=N.grown λb x e=>aG _ e;have ah:s.heap.objs.size≠L:=aF F.ns.lt;have ar:h₀.get? s.heap.objs.size=none:=jh F;have B:∀p∈((u,l8 tup (.ref q))::(tup,dO #[.ref it])::(it,gU l)::(q,f9 (.ref f) self)::(l,listOf (refsOf na).toArray n)::T),p.1≠s.heap.objs.size:=λp hp=>aB (lt p hp)
 have ci:∀{h1 h2:Heap}{o:Obj},Fr h₀ L h1 m→ba h₀ L h1 ((u,l8 tup (.ref q))::(tup,dO #[.ref it])::(it,gU l)::(q,f9 (.ref f) self)::(l,listOf (refsOf na).toArray n)::T)→Heap.SameBut s.heap.objs.size h1 h2→
   Fr h₀ L h2 m∧ba h₀ L h2 ((u,l8 tup (.ref q))::(tup,dO #[.ref it])::(it,gU l)::(q,f9 (.ref f) self)::(l,listOf (refsOf na).toArray n)::T):=λ{h1 h2 o} F N hs=>
  ⟨F.change hs ah ar,λp hp=>⟨(hs.2 p.1 (B p hp)).trans (N p hp).1,(N p hp).2⟩⟩
 show ay _ A.in1.in1 (do let as ← gH (.ref s.heap.objs.size);lX (.ref s.heap.objs.size) (λ_=>#[]);letGo as.toList.reverse;j7 (.ref s.heap.objs.size) (.ref u) .none) _ _ _;refine af ?_;unfold gH;refine af (jd hS rfl (ag ?_));show ay _ _ (GF s.heap.objs.size (λ_=>#[]) >>= λ_=>letGo (#[]:Array Value).toList.reverse >>= λ_=>j7 (.ref s.heap.objs.size) (.ref u) .none) _ _ _;refine af (jH hS rfl ?_)
 obtain ⟨c2,ap⟩:∃c,((s.heap.push {cls:=.type "list",data:=.seq #[]}).update s.heap.objs.size (bI (λ_=>(#[]:Array Value)))).get? s.heap.objs.size=some (listOf #[] c):=⟨_,fA hS λ_=>#[]⟩
 obtain ⟨F2,N2⟩:=ci (o:=gU l) F1 N1 (cu ..);refine af (mh ?_);unfold j7;have kM:=N2 _ (zH)
 have H:Shared.TypeIs {s with heap:=(s.heap.push {cls:=.type "list",data:=.seq #[]}).update s.heap.objs.size (bI (λ_=>(#[]:Array Value)))} (.ref u) "map":=(c9 _ kM.1 rfl)
 refine af (nE H ?_)
 have h1:tU (.ref s.heap.objs.size) (.ref u)=false:=by
  have:s.heap.objs.size≠u:=(B _ (zH)).symm;simp [tU,this]
 have h2:(oX "map" == oX "list")=false:=by decide
 have h3:(oX "map" == oX "tuple")=false:=by decide
 rw[h1];refine af (zw kM.1 ?_);refine af (bA ?_);unfold Builtin.List.listLengthHint;refine af (Av H zN ?_);show ay _ _ (tP (bF u) (ae "__length_hint__") >>= _) _ _ _;refine af (Av H x5 ?_);refine ag ?_
 show ay _ _ (rule "list.extend.makes-room" >>= λ_=>Builtin.List.listTouch (.ref s.heap.objs.size) >>= λ_=>
  Mv (.builtin "list.extend.loop" ⟨[.ref s.heap.objs.size,.ref u,.none],[]⟩)) _ _ _
 refine af (gv ?_);refine af ?_;show ay _ _ (GF s.heap.objs.size (·.push .none) >>= λ_=>GF s.heap.objs.size (·.pop)) _ _ _;refine af (jH ap rfl ?_)
 obtain ⟨c3,aj⟩:∃c,(((s.heap.push {cls:=.type "list",data:=.seq #[]}).update s.heap.objs.size (bI (λ_=>(#[]:Array Value)))).update s.heap.objs.size (bI (·.push Value.none))).get? s.heap.objs.size=some (listOf #[.none] c):=⟨_,fA ap (·.push Value.none)⟩
 refine b7 (ci (o:=gU l) F2 N2 (cu _ _ (bI (·.push Value.none)))) λF3 N3=>?_;refine jH (hz:=by seq_fits) aj rfl ?_
 obtain ⟨c4,aD⟩:∃c,((((s.heap.push {cls:=.type "list",data:=.seq #[]}).update s.heap.objs.size (bI (λ_=>(#[]:Array Value)))).update s.heap.objs.size (bI (·.push Value.none))).update s.heap.objs.size (bI (·.pop))).get? s.heap.objs.size=some (listOf #[] c):=⟨_,fA aj (·.pop)⟩
 refine b7 (ci (o:=gU l) F3 N3 (cu _ _ (bI (·.pop)))) λF4 J=>?_;refine ag ⟨iH PySem.F.plain_extend_loop _,?_⟩;have ne:∀(a:Addr) (o:Obj),(a,o)∈((u,l8 tup (.ref q))::(tup,dO #[.ref it])::(it,gU l)::(q,f9 (.ref f) self)::(l,listOf (refsOf na).toArray n)::T)→a≠s.heap.objs.size:=λa o hm=>B (a,o) hm;refine ED (A:=A.in1) (f:=f) (self:=self) (q:=q) (l:=l) (it:=it) (tup:=tup) (n:=n) (na:=na) (T:=T) (h₀:=h₀) (L:=L) (m:=m) (s:=s) hh hcall ab ax Y (λp hp=>B p (by k_extra "zmm")) o1 o2 o3 o4 (lt (it,gU l) (by k_extra "zmm")) (ne u (l8 tup (.ref q)) (by k_extra "zmm")) (ne tup (dO #[.ref it]) (by k_extra "zmm")) (ne q (f9 (.ref f) self) (by k_extra "zmm")) (ne l (listOf (refsOf na).toArray n) (by k_extra "zmm")) (λmk M c h' tk' e1 e2 e3 F' N'=>?_) _ 0 [] [] c4 (gU l) _ s.toks rfl (c7 _) rfl rfl rfl rfl (λ_ h=>nomatch h) (λ_ h=>nomatch h) F4 ?_
 .exact⟨rfl,h _ mk M c h' tk' e1 e2 e3 (λp hp=>lt p (by k_extra "zmm")) F' N'⟩
 .intro p hp
  simp only[ik,ak] at hp
  rcases hp with e|e|e|e|e|e|e
  .exact J p (by simp [e])
  .exact J p (by simp [e])
  .exact J p (by simp [e])
  .exact J p (by simp [e])
  .exact J p (by simp [e])
  .subst e;exact(eR aD ah ar)
  .exact J p (by k_extra "zmm")
end
theorem Kd{a b:List (Addr×Int)}(h:a.map (·.2)=b.map (·.2))(hb:∀q∈b,0≤q.2):∀q∈a,0≤q.2:=by
 intro q hq;have:q.2∈b.map (·.2):=h▸fX hq;refine fK (eg.mp this) λz u e=>?_;exact e▸hb z u
theorem DS{na:List (Addr×Int)}{t:Addr}{k:Int}(h:∀q∈na,0≤q.2)(hk:0≤k):∀q∈na++[(t,k)],0≤q.2:=
 λq hq=>(aC.mp hq).elim (h q) λh=>aA.mp h▸hk
section
variable {prog:Program}{w:World}{A:Around}{E:VP}{s:Shared}{K:Frag}{C r:Addr}{o:Obj}
theorem DY(X:K.In s.heap)(hr:s.heap.get? r=some o)(ho:o.cls=.ref C)(hd:o.data=.seq xs n)
  (hf:fF K (.ref C) "__getitem__"=some (some (.builtin "tuple.__getitem__"))) (hm:lm K C (.type "tuple")=some true) (hq:lm K C (.type "collections.deque")=some false)
  (Y : -(2 ^ 63)≤k) (ab:k<2 ^ 63) (hj:seqIndex? k xs.size=some j) (hx:xs[j]?=some x) (h:Q x s)
  (hs:autoParam (j4 z false (.ref r) (.int k u)=tQ [.ref r,.int k u] (pP (.ref r) (.int k u))) zAc):
  ay (aq prog w) A (subscriptTail U z (.ref r) (.int k u)) Q E s:=by
 have B:iP (aq prog w) s.heap (rF (.ref r)) (.ref C):=by
  have:=(kE (M:=aq prog w) (part:=some n9) hr)
  exact ho▸this.andThen .now
 have hl:=jr (M:=aq prog w) X hf;have J:=j6 (M:=aq prog w) X hm;have ah:=j6 (M:=aq prog w) X hq;have aa:iP (aq prog w) s.heap (jV (.ref r) (.type "tuple")) true:=B.andThen J;unfold subscriptTail getitemInPython;refine af (af (af (B.here (hl.here ?_))));refine ag ?_;rw[hs]
 have item:ay (aq prog w) A (pP (.ref r) (.int k u)) (λv s'=>Q v s') E s:=by
  unfold pP
  try with_reducible refine bA ?_
  first|refine af (ag ?_)|skip
  have O:ay (aq prog w) A (sequenceKey (.ref r) (.int k u) (ae "__getitem__")) (λv s'=>v=.int k u∧s=s') E s:=by
   unfold sequenceKey;refine af (B.here ?_);refine af (m:=seqItemTypes.anyM λn=>tR (.ref C) (.type n)) ?_;refine af (m:=tR (.ref C) (.type "collections.deque")) (ah.here ?_);exact ag (ag ⟨rfl,rfl⟩)
  refine af (cg O (λv s' hv=>?_) λ_ _ e=>e);refine b7 hv λH G=>?_
  try clear hv
  subst H;subst G;refine af (sy X hr ho hf (slot_tuple_getitem.bind _) ?_);refine ev (fV slot_tuple_getitem.plain entry_tuple_getitem (@rJ (aq prog w) _ _ _ "tuple.__getitem__" "tuple" "__getitem__" (.ref r) [.int k u] [] _ (by decide +kernel) (by decide +kernel) aa (args_tuple_getitem _ _) ?_));unfold Builtin.«tuple.__getitem__»;refine af (bN (a:=(.ref r,[.int k u])) (by kernel_rfl) ?_);refine af (PySem.wpAny_tupleItemsOf hr hd ?_);refine af (nE (iB s k u) ?_);refine PySem.wpAny_ite_false (by decide) ?_;refine af (Av (T:="int") (iB s k u) int_index ?_);refine PySem.wpAny_ite_false (by rfl) ?_;refine af (bN (a:=k) rfl ?_);refine PySem.wpAny_ite_false (by rw[decide_eq_false (Int.not_lt.mpr Y),decide_eq_false (Int.not_le.mpr ab)];rfl) ?_;rw[show ((seqIndex? k xs.size).bind λx=>xs[x]?)=some x by rw[hj];exact hx];exact ag (ag h)
 refine af (wpAny_operating (cg item (λv s' hv=>?_) λ_ _ e=>e));exact af (wpAny_letTemporaryGo (ag hv))
end
section
variable {prog:Program}{w:World}{A:Around}{E:VP}{s:Shared}{gp:Program}{gl:List Sr}{mean:ExcName→Option Value}{mg mb:Lo}{h₀:Heap}{L c P:Addr}{m:Lo}
theorem xQ(n:Nat):passing (λ_=>true) n 0=aU n:=by unfold passing;simp
inductive Mh(prog:Program)(w:World)(h₀:Heap)(L P:Addr)(m:Lo)(elt:PE)(x:Sr)(scope:Scope)(cl:List (Sr×Addr))(env:Env)(Q:VP)(A:Around)(s₁:Shared)(xv:Value):Prop
 | mk (r:Addr) (items:Array Value) (n:Nat) (ps:Array Value) (news:Ns) (F:Nat→Value→Prop) (e:xv=.ref r) (hF:Fr h₀ L s₁.heap m) (hN:ba h₀ L s₁.heap ((r,listOf items n)::(P,bS ps)::news)) (ht:dZ ps.toList) (hG:du s₁.gens) (hr:r≠P) (hn:∀p∈news,p.1≠P)
   (hel:∀(A':Around) (E':VP) (i:Nat) (v:Value) (s₂:Shared) (m₂:Lo) (Cx:Addr) (code:Value),A'.handled=none→items[i]?=some v→s₂.heap.Ns Cx m₂→m₂ x=some v→
    (∀b o,b≠P→s₁.heap.get? b=some o→s₂.heap.get? b=some o)→ay (aq prog w) A' (eval elt (genEnv scope cl Cx code builtinsNs env)) (λy s₃=>F i y∧Keeps s₂ s₃) E' s₂)
   (hQ:∀(a:Addr) (s₅:Shared) (ps':Array Value) (Kb:Addr),dZ ps'.toList→Fr h₀ L s₅.heap m→ba h₀ L s₅.heap ((r,listOf items n)::(P,bS ps')::news)→du s₅.gens→s₅.os=s₁.os→L≤Kb→
    (∀p∈(r,listOf items n)::(P,bS ps')::news,p.1≤Kb)→ze prog w A Kb a items.size (λj y=>∃i,(aU items.size)[j]?=some i∧F i y) s₅→Q (.ref a) s₅)
theorem E0
  (_F₀:Fr h₀ L s.heap m) (T:Top gp gl mean mg mb h₀) (Cd:IZ h₀ c P) (hg:env.globals=gQ) (as:env.code=.ref c) (hh:A.handled=none) (c6:scope.isCoroutine=false) (bb:fy scope env=ck cl)
  (bh:∀y∈scope.names,y.2≠.cell) (h0:scope.names.lookup (".0" : Sr)=some NameKind.local) (hx:scope.names.lookup x=some .local) (hkind:scope.kind=.function) (a5:A.depth<aH)
  (h:ay (aq prog w) A (eval iter env) (λxv s₁=>Mg (Mh prog w h₀ L P m elt x scope cl env Q A s₁ xv)) E s)
  (hs:∀x,genFold iter env x=ck x):
  ay (aq prog w) A (eval (.GeneratorExp elt [⟨.Name x px,iter,[],0⟩] scope pos) env) Q E s:=by
 refine wpAny_GeneratorExp_walksQ hh c6 bb bh h0 hx hkind a5 (cg h (λxv s₁ bo=>?_) λ_ _ e=>e) hs;obtain ⟨r,items,n,ps,news,F,rfl,aD,H,ht,cD,bv,c2,hel,hQ⟩:=bo;have hr:=(H _ (zH)).1
 have hl:s₁.heap.IsList r items:=(cZ _ hr rfl ⟨n,rfl⟩)
 have ab:r<s₁.heap.objs.size:=bM hr;refine kx hl ?_;generalize hI:({cls:=.type "list_iterator",data:=.fields #[.ref r,.int 0 0]} : Obj)=oI;have up:∀b o,s₁.heap.get? b=some o→(s₁.heap.push oI).get? b=some o:=λb o e=>aG _ e;have br:(s₁.heap.push oI).objs.size=s₁.heap.objs.size+1:=gk ..;have J:Fr h₀ L (s₁.heap.push oI) m:=aD.keeps up;have cC:=H.grown up;have cc:(s₁.heap.push oI).NoLimit:=T.nolimit.keeps J.keep;have bl:=cC _ (zT (zH));have U:=bl.1;have cy:=bl.2.2;have cx:=bl.2.1;have a7:(s₁.heap.push oI).get? s₁.heap.objs.size=some oI:=a9 _ (by rw[← hI];rfl);have dg:s₁.heap.objs.size≠P:=aF (bM (H _ (zT (zH))).1);refine⟨cc,?_⟩
 have a4:∀(cv:Value) (z:Heap) (ah:Nat) (ps':Array Value),De P (s₁.heap.push oI) z→(s₁.heap.push oI).objs.size≤z.objs.size→z.get? P=some (bS ps')→dZ ps'.toList→
   ay (aq prog w) A (builtinsFor env.globals env.builtins) (λbi u=>
    ∃I fp wr Y Pi ax pz F,bF s₁.heap.objs.size=.ref I∧(∀A':Around,A'.handled=none→y9 prog w A' I fp wr Y Pi ax)∧ax 0 u.heap∧(∀b∈fp,b<u.heap.objs.size)∧u.heap.NoLimit∧oa∉wr∧
     (∀aj:Heap,(∀b o,u.heap.get? b=some o→aj.get? b=some o)→
      QuietGen prog w (genEnv scope cl u.heap.objs.size cv bi env) x [] elt (aU u.heap.objs.size) wr Pi pz F aj)∧
     (∀a aa tk gs,gs.bare=true→u.heap.objs.size<a→aa.objs.size=a+1→(∀b o,u.heap.get? b=some o→aa.get? b=some o)→
      WalksS prog w A.in4 a (a::u.heap.objs.size::aU u.heap.objs.size) (u.heap.objs.size::wr) (GenOnlyQ u.gens.size) (passing pz Y 0).length
       (λj y=>∃i,(passing pz Y 0)[j]?=some i∧F i y) (GenAt prog w A.in4 a u.gens.size u.heap.objs.size (aU u.heap.objs.size) wr pz Y F)→
      GenAt prog w A.in4 a u.gens.size u.heap.objs.size (aU u.heap.objs.size) wr pz Y F 0 {u with gens:=u.gens.push gs,toks:=tk,heap:=aa}→
      Q (.ref a) {u with gens:=u.gens.push gs,toks:=tk,heap:=aa})) E {s₁ with heap:=z,toks:=ah}:=by
  intro cv z ah ps' O aQ bj c1;refine NL T.bmain λbm ob b1 b2 b3 b4 b5 b6=>?_;have B:∀b o,b≠P→s₁.heap.get? b=some o→z.get? b=some o:=λb o hb e=>O b o hb (up b o e);have G:∀b o,h₀.get? b=some o→z.get? b=some o:=λb o e=>O b o (λq=>by rw[q,cy] at e;cases e) (J.keep b o e)
  have cQ:Fr h₀ L z m:=⟨J.ns.at' λo e=>O L o (Ne.symm cx) e,G,J.above⟩
  have ap:z.NoLimit:=T.nolimit.keeps G;have a0:s₁.heap.objs.size<z.objs.size:=aN (by rw[br];exact aJ _) aQ;have cz:=T.keeps G;rw[hg];refine wpAny_builtinsFor cz.g b1 b2 (G _ _ b3) b4 b5 b6 ?_;have cn:oa<s₁.heap.objs.size:=let ⟨_,hn,_⟩:=T.nolimit.keeps aD.keep;hn.lt
  have cB:ba h₀ L z ((r,listOf items n)::(P,bS ps')::news):=by
   intro p hp
   rcases ak.mp hp with e|hp
   .have:=H p (e▸zH)
    exact⟨B _ _ (by rw[e];exact bv) this.1,this.2⟩
   .rcases ak.mp hp with e|hp
    .subst e;exact(eR bj cx cy)
    .have:=H p (zT (zT hp))
     exact⟨B _ _ (c2 p hp) this.1,this.2⟩
  refine(OD s₁.heap.objs.size [s₁.heap.objs.size,r] [s₁.heap.objs.size] items.size _ _ (λ_=>true) F rfl (λA' hA=>sr hA _ _ (aB ab) items) ⟨⟨oI,O _ _ dg a7,by rw[← hI],by rw[← hI];rfl⟩,⟨_,B _ _ bv hr,rfl,n,rfl⟩⟩ ?_ ap ?_ ?_ ?_)
  .intro b hb
   rcases ak.mp hb with rfl|hb
   .exact a0
   .rw[aA.mp hb];exact aO ab a0
  .intro hm
   exact absurd (aA.mp hm▸cn) (c8 _)
  .intro aj a6
   exact {tests:=λA' E' i v s₂ m₂ hA hP hn ca hk=>wpAny_tests_nil ⟨rfl,s₂.heap,s₂.toks,rfl,λ_ _ e=>e⟩,elt:=λA' E' i v s₂ m₂ hA hP _ hn ca hk=>hel A' E' i v s₂ m₂ _ cv hA hP hn ca λb o hb e=>hk b (bD.mpr (aO (bM e) a0)) (λhm=>absurd (aA.mp hm▸bM e) (c8 _)) o (a6 _ _ (B b o hb e))}
  .intro a aa tk gs c5 cw aM ar W dd
   have cM:=cQ.keeps ar;have cA:=cB.grown ar;have Db:∀b,b<s₁.heap.objs.size→b≤s₁.heap.objs.size-1:=λb hb=>lh hb;have hpos:0<s₁.heap.objs.size:=aK (c7 _) ab;refine hQ a _ ps' (s₁.heap.objs.size-1) c1 cM cA (cD.push c5) rfl (Db _ aD.ns.lt) ?_ ?_
   .intro p hp
    rcases ak.mp hp with e|hp
    .rw[e];exact Db _ ab
    .rcases ak.mp hp with e|hp
     .rw[e];exact Db _ (bM (H _ (zT (zH))).1)
     .exact Db _ (bM (H p (zT (zT hp))).1)
   .rw[xQ,db] at W
    refine(QD _ _ _ _ W dd (λi s' st=>st.1.typeIs) (zH) ?_ ?_)
    .intro b hb
     rw[aM]
     rcases ak.mp hb with rfl|hb
     .exact aJ _
     .rcases ak.mp hb with rfl|hb
      .exact aW cw
      .exact aW (aO (bD.mp hb) cw)
    .intro b hb
     have:s₁.heap.objs.size-1<s₁.heap.objs.size:=Nat.sub_lt hpos Nat.one_pos
     rcases ak.mp hb with rfl|hb
     .exact aO this a0
     .rw[aA.mp hb];exact this
 cases b0:nM pos ps.toList with
 | some cv=>exact wpAny_genexprCode_hit as ((Cd.keeps J.keep).code U ht) b0 (a4 cv _ _ ps (λ_ _ _ e=>e) (aR _) U ht)
 | none=>
  refine wpAny_genexprCodeX as ((Cd.keeps J.keep).code U ht) ((Cd.keeps J.keep).tab U) b0 λc' h' tk hx c4 c3 cd dj c0 _=>?_
  exact a4 _ _ _ _ hx (aw c4 (aL c3)) c0.2 (by
   obtain ⟨_,_,_,_,_,_,_,_,_,_,_,_,_,_,_,_,_,_,_,cU,_⟩:=cd
   exact cU)
end
noncomputable def vq(mk:List (Addr×Int))(j:Nat):Int:=(mk[j]?.map (·.2)).getD 0
theorem lU(mk:List (Addr×Int)):∀j,j≤mk.length→vE (vq mk) j=ee (mk.take j)
 | 0,_=>rfl
 | j+1,h=>by
  have e:mk[j]?=some mk[j]:=ao h;refine(?_:vE (vq mk) j+vq mk j=_);rw[lU mk j (iE h),vO e];unfold vq;rw[e];rfl
theorem lR:∀{l:List (Addr×Int)},(∀q∈l,0≤q.2)→0≤ee l
 | [],_=>bZ _
 | q::l,h=>by
  rw[pi];have:=h q (zH);have:=lR (l:=l) λp hp=>h p (zT hp);exact eQ [q.snd,ee l] 1 Y0 (.a Z0 Z1) 1 Y0 Z1 1 Y0 Z0 rfl this (‹0≤q.snd›)
theorem zo(l:List (Addr×Int))(j:Nat):ee l=ee (l.take j)+ee (l.drop j):=by
 conv=>lhs;rw[← CW j l]
 unfold ee;rw[aX,List.sum_append]
theorem K5(h:∀q∈mk,0≤q.2)(j:Nat)(hj:j<mk.length):0≤vq mk j∧vq mk j≤ee mk∧0≤vE (vq mk) (j+1)∧vE (vq mk) (j+1)≤ee mk:=by
 have e1:=lU mk (j+1) hj;have e0:=lU mk j (aL hj);have n0:=lR (l:=mk.take j) λq hq=>h q (gz hq);have n1:=lR (l:=mk.drop (j+1)) λq hq=>h q (gA hq);have B:=zo mk (j+1);have e2:vE (vq mk) (j+1)=vE (vq mk) j+vq mk j:=rfl
 have z:0≤vq mk j:=by
  unfold vq;rw[ao hj];exact h _ (bG hj)
 have G:0≤vE (vq mk) j:=e0▸n0
 have u:vE (vq mk) (j+1)≤ee mk:=by rw[e1,B];exact fw n1
 have e:vq mk j≤vE (vq mk) (j+1):=by rw[e2];exact nH G
 exact⟨z,cj e u,cj z e,u⟩
theorem il{x z:Int}(h0:0≤x)(h1:x≤z)(h2:z≤1000) : -(2 ^ 63)≤x∧x<2 ^ 63:=⟨cj (by decide) h0,eF (cj h1 h2) (by decide)⟩
theorem Du(h:pM xs ys a b c d t):a≤b→c≤d→0≤t∧t≤b-a∧t≤d-c:=by
 induction h with
 | none _=>intro h1 h2;exact⟨bZ 0,dU h1,dU h2⟩
 | split h1 h2 h3 h4 h5 _ _ _ i1 i2=>
  intro z e;rename_i al ah bl bh i j k t1 t2 _ _ _;have u:=i1 h1 h2;have v:=i2 h4 h5;exact⟨g5 [k,t1,t2] 1 Y0 (.a (.a Z0 Z1) Z2) 1 Y1 Z0 1 Y0 Z1 1 Y0 Z2 rfl h3 u.1 v.1,eQ [k,t1,t2,al,ah,i] 1 (.a (.a Z0 Z1) Z2) (.s Z4 Z3) 1 Z1 (.s Z5 Z3) 1 Z2 (.s Z4 (.a Z5 Z0)) rfl u.2.1 v.2.1,eQ [k,t1,t2,bl,bh,j] 1 (.a (.a Z0 Z1) Z2) (.s Z4 Z3) 1 Z1 (.s Z5 Z3) 1 Z2 (.s Z4 (.a Z5 Z0)) rfl u.2.2 v.2.2⟩
section
variable {prog:Program}{w:World}{A:Around}{E:VP}{s:Shared}{h₀:Heap}{L a Kb:Addr}{m:Lo}{news:Ns}
theorem BK(F:Fr h₀ L s.heap m)(N:ba h₀ L s.heap news)(G:du s.gens)(hK:L≤Kb)(hN:∀p∈news,p.1≤Kb)
  (X:ze prog w A Kb a (refsOf mk).toArray.size (λj y=>∃i,(aU (refsOf mk).toArray.size)[j]?=some i∧∃t,y=fn (vq mk i) t) s)
  (hpos:∀q∈mk,0≤q.2) (hz:ee mk≤1000) (h:∀s' t,Fr h₀ L s'.heap m→ba h₀ L s'.heap news→du s'.gens→s'.os=s.os→Q (.int (ee mk) t) s'):
  ay (aq prog w) A (call (.builtin "sum") [.ref a]) Q E s:=by
 have e:(refsOf mk).toArray.size=mk.length:=by simp [refsOf]
 rw[e] at X;refine sum_rowsK F G X hK (vq mk) (λj v hv=>?_) (λj hj=>?_) λs' B J H ho hk=>?_
 .refine fK hv λi hi u=>?_
  try clear hv
  refine cp u λt z=>?_
  try clear u
  subst z
  have:j=i:=by
   rw[lO] at hi
   .exact dJ hi
   .exact(by simpa using (bP.mp hi).1)
  exact⟨t,by rw[this]⟩
 .have:=K5 hpos j hj
  exact⟨il this.1 this.2.1 hz,il this.2.2.1 this.2.2.2 hz⟩
 .rw[lU mk _ (aR _),cP]
  exact h s' B J (λp hp=>⟨hk _ _ (hN p hp) (N p hp).1,(N p hp).2⟩) H ho
end
section
variable {prog:Program}{w:World}{A:Around}{E:VP}{s:Shared}{h₀ h:Heap}{L P:Addr}{K:Frag}{m:Lo}
theorem Ft{x:Sr}{scope:Scope}{cl:List (Sr×Addr)}{Cx bi q dx:Addr}{code:Value}{env:Env}{px B z u:Pos}{i j k:Int}{t1 t2 t3:Tok}{G:Nat}(X:K.In s.heap)
  (hf:fF K (.ref 171) "__getitem__"=some (some (.builtin "tuple.__getitem__"))) (hm:lm K 171 (.type "tuple")=some true) (hq:lm K 171 (.type "collections.deque")=some false)
  (hk:scope.kind=.function) (hl:scope.names.lookup x=some .local) (hd:(x==("__debug__" : Sr))=false) (hn:s.heap.Ns Cx m) (hv:m x=some (.ref q)) (ho:s.heap.get? q=some (dT dx i j k t1 t2 t3)):
  ay (aq prog w) A (eval (.Subscript (.Name x px) (.UnaryOp .USub (.Constant (.int 1) G B) z) u) (genEnv scope cl Cx code bi env)) (λy s₃=>(∃t,y=fn k t)∧Keeps s s₃) E s:=by
 refine og (CI (sM hk hl hn hv ?_) hd);rw[eval_UnaryOp];refine af (n8 ?_);refine af (gW (bA (neg_int ?_)));refine DY (K:=K) (C:=171) (o:=dT dx i j k t1 t2 t3) X ho rfl rfl hf hm hq (by decide) (by decide) (j:=2) (by rfl) (by rfl) ?_;exact⟨⟨_,rfl⟩,s.heap,_,rfl,λ_ _ e=>e⟩
theorem Dy(N:ba h₀ L h (a++T))(hP:(P,o)∈T):ba h₀ L h ((P,o)::(a++T.filter λp=>p.1 != P)):=by
 intro p hp
 rcases ak.mp hp with e|hp
 .exact N p (e▸zR hP)
 .rcases aC.mp hp with hp|hp
  .exact N p (zL hp)
  .exact N p (zR (bY.mp hp).1)
theorem HS(N:ba h₀ L h (a++T))(hP:(P,bS ps)∈T)(hq:sL T q):sL (T.filter λp=>p.1 != P) q:=by
 refine zE hq λdx i j t1 t2 t3 hm=>?_
 try clear hq
 refine(B7 dx i j t1 t2 t3 (bY.mpr ⟨hm,?_⟩));have h1:=(N _ (zR hm)).1;have h2:=(N _ (zR hP)).1
 have hne:q.1≠P:=λe=>by
  dsimp only at h1 h2;rw[e,h2] at h1;cases h1
 simpa using hne
theorem uq{T:Ns}:∀p∈T.filter (λp=>p.1 != P),p.1≠P:=λp hp=>by simpa using (bY.mp hp).2
theorem Kf{T news:Ns}(h:∀p∈news,p∈T)(hn:∀p∈news,p.1≠P):∀p∈news,p∈T.filter (λp=>p.1 != P):=λp hp=>bY.mpr ⟨h p hp,by simpa using hn p hp⟩
theorem ko{T:Ns}{q:Addr×Obj→Prop}(h:∀p∈T,q p):∀p∈T.filter (λp=>p.1 != P),q p:=λp hp=>h p (bY.mp hp).1
end
theorem zm{h₀ h:Heap}{L P a:Addr}{o:Obj}{ps:Array Value}{news:Ns}(N:ba h₀ L h news)(h1:(a,o)∈news)(h2:(P,bS ps)∈news)(hc:o.cls≠.none):a≠P:=λe=>by
 have u:=(N _ h1).1;have z:=(N _ h2).1;dsimp only at u z;rw[e,z] at u;cases u;exact hc rfl
section
variable {prog:Program}{w:World}{A:Around}{E:VP}{s:Shared}{h₀:Heap}{L:Addr}{m:Lo}{news:Ns}
theorem yw{α:Type}{K:ItemKind α}{U:List α}{xv:Value}{env:Env}{J O:Sr}{body:List Stmt}{Q:FP}(S:PairSrcL prog w A E h₀ L K U xv s m news)(Y:env.locals=L)(hz:U=[])
  (h:∀h' tk,Fr h₀ L h' m→ba h₀ L h' news→Q .next {s with heap:=h',toks:=tk}):
  ay (aq prog w) A (rH xv) (λit s₂=>PairAt3 prog w A h₀ env J O body Q E it s₂) E s:=by
 subst Y;subst hz;refine S.at env rfl J O body Q (λ_ e z=>e=m∧z=news) ⟨rfl,rfl⟩ (λi a t v e H s₁ own _ hi=>nomatch hi) ?_;intro h' tk e z F N _ u;refine b7 u λG B=>?_;clear u;subst G;subst B;exact h h' tk F N
end
noncomputable def uW(h₀:Heap)(L I:Addr)(oI:Obj)(l:Addr)(lo:Obj)(s₀:Shared)(J:(Lo)→Ns→Nat→Prop)(Q:FP):ve→Shared→Prop
 | .next,s'=>∃m' n' tb,tb≤s'.toks∧du s'.gens∧s'.os=s₀.os∧Fr h₀ L s'.heap m'∧ba h₀ L s'.heap ((I,oI)::(l,lo)::n')∧(∀p∈n',p.1≠I)∧J m' n' tb
 | .cont,s'=>∃m' n' tb,tb≤s'.toks∧du s'.gens∧s'.os=s₀.os∧Fr h₀ L s'.heap m'∧ba h₀ L s'.heap ((I,oI)::(l,lo)::n')∧(∀p∈n',p.1≠I)∧J m' n' tb
 | .brk,s'=>Q .next s'
 | .ret v,s'=>Q (.ret v) s'
section
variable {prog:Program}{w:World}{A:Around}{E:VP}{s:Shared}{h₀:Heap}{m:Lo}{news:Ns}{env:Env}
theorem DH{x:Sr}{px pos:Pos}{iter:PE}{body:List Stmt}{l:Addr}{vs:List Value}{n:Nat}{Q:FP}(F:Fr h₀ env.locals s.heap m)(N:ba h₀ env.locals s.heap ((l,listOf vs.toArray n)::news))(hg:du s.gens)
  (hh:A.handled=none) (hx:env.kindOf x=some .local) (hp:(env.scope.kind == .class||(env.scope.kind == .module&&env.locals != env.globals))=false)
  (cB:∀Q':Value→Shared→Prop,Q' (.ref l) s→ay (aq prog w) A (eval iter env) Q' E s) (hs:∀x,bW iter env x=ck x)
  (J:Nat→(Lo)→Ns→Nat→Prop) (hJ:J 0 m news 0)
  (turn:∀i v O u tb I oI s',vs[i]?=some v→J i O u tb→tb+1≤s'.toks→du s'.gens→s'.os=s.os→Fr h₀ env.locals s'.heap (λy=>if y=x then some v else O y)→ba h₀ env.locals s'.heap ((I,oI)::(l,listOf vs.toArray n)::u)→
   oI.cls=.type "list_iterator"→(∀p∈u,p.1≠I)→l≠I→ay (aq prog w) A (kz body env) (uW h₀ env.locals I oI l (listOf vs.toArray n) s (J (i+1)) Q) E s')
  (done:∀O u tb s',J vs.length O u tb→du s'.gens→s'.os=s.os→Fr h₀ env.locals s'.heap O→ba h₀ env.locals s'.heap ((l,listOf vs.toArray n)::u)→Q .next s')
  (hE:autoParam (lG (aq prog w) A env E) zAf):
  ay (aq prog w) A (exec (.For (.Name x px) iter body [] pos) env) Q E s:=by
 refine wpAny_For (cB _ ?_) hs;have b4:=N _ (zH)
 have hl:s.heap.IsList l vs.toArray:=(cZ _ b4.1 rfl ⟨n,rfl⟩)
 have cy:l<s.heap.objs.size:=bM b4.1;refine kx hl ?_;generalize hI:({cls:=.type "list_iterator",data:=.fields #[.ref l,.int 0 0]} : Obj)=bh;have up:∀b o,s.heap.get? b=some o→(s.heap.push bh).get? b=some o:=λb o e=>aG _ e;have ca:=F.ns.lt;have hne:l≠s.heap.objs.size:=aB cy;have W:=sr (prog:=prog) (w:=w) hh s.heap.objs.size l hne vs.toArray
 refine codeAny_forLoop
  (λk s'=>∃i m' n' tb oI,tb≤s'.toks∧k=vs.length+1-i∧i≤vs.length∧s'.heap.IsListIter s.heap.objs.size l i∧du s'.gens∧s'.os=s.os∧Fr h₀ env.locals s'.heap m'∧ba h₀ env.locals s'.heap ((s.heap.objs.size,oI)::(l,listOf vs.toArray n)::n')∧(∀p∈n',p.1≠s.heap.objs.size)∧J i m' n' tb)
  ?_ (vs.length+1) (QA 0 m news 0 bh (c7 _) rfl (c7 _) ⟨bh,a9 _ (by rw[← hI];rfl),by rw[← hI],by rw[← hI];rfl⟩ hg rfl (F.keeps up) ?_ (λp hp=>aB (bM (N p (zT hp)).1)) hJ)
 .intro k s' a4
  refine Qi a4 λi m' n' tb oI cx bm hi b5 G' ho F' N' off hj=>?_;clear a4;subst bm;have aQ:=N' _ (zH);have cz:=N' _ (zT (zH))
  have ap:s'.heap.IsList l vs.toArray:=(cZ _ cz.1 rfl ⟨n,rfl⟩)
  have aj:∀{G:Heap},(∀b o,b∉[s.heap.objs.size]→s'.heap.get? b=some o→G.get? b=some o)→Fr h₀ env.locals G m'∧ba h₀ env.locals G ((l,listOf vs.toArray n)::n'):=by
   intro G hk;refine⟨⟨F'.ns.at' λo e=>hk _ o (by simpa using (Ne.symm aQ.2.1)) e,λb o e=>hk b o (λhm=>by rw[aA.mp hm,aQ.2.2] at e;cases e) (F'.keep b o e),F'.above⟩,λp hp=>?_⟩;have:=N' p (zT hp);refine⟨hk _ _ ?_ this.1,this.2⟩
   rcases ak.mp hp with e|hp
   .rw[e];simpa using hne
   .simpa using off p hp
  by_cases ah:i<vs.length
  .have hsz:i<vs.toArray.size:=by simpa using ah
   refine wpAny_with_toks (n:=tb) cx ?_;refine W.item i s' _ _ hsz ⟨b5,ap⟩ λv G a7 cC aM aa=>?_;intro ax;refine b7 (aj aa) λH U=>?_
   have b6:vs[i]?=some v:=by simpa using cC
   refine fJ aM.1 λB bj ar bl=>?_;refine xa (JB hx H.ns (λa5 bi Y=>?_) hp);have cM:s.heap.objs.size≠env.locals:=aQ.2.1;have cD:h₀.get? env.locals=none:=Dd H.above
   have cw:Fr h₀ env.locals a5 (λy=>if y=x then some v else m' y):=⟨bi,λb o e=>Y.extBut b o (λq=>by rw[q,cD] at e;cases e) (H.keep b o e),H.above⟩
   have cd:ba h₀ env.locals a5 ((s.heap.objs.size,B)::(l,listOf vs.toArray n)::n'):=by
    intro p hp
    rcases ak.mp hp with e|hp
    .rw[e];exact⟨Y.extBut _ _ cM bj,aQ.2⟩
    .exact⟨Y.extBut _ _ (U p hp).2.1 (U p hp).1,(U p hp).2⟩
   refine wpAny_passesOwn hE (cg (turn i v m' n' tb _ B _ b6 hj (gY ax) G' ho cw cd ar off hne) (λf z ab=>?_) λ_ _ e=>e)
   have fin:(∃m' n' tb,tb≤z.toks∧du z.gens∧z.os=s.os∧Fr h₀ env.locals z.heap m'∧ba h₀ env.locals z.heap ((s.heap.objs.size,B)::(l,listOf vs.toArray n)::n')∧(∀p∈n',p.1≠s.heap.objs.size)∧J (i+1) m' n' tb)→
     ∃k',k'<vs.length+1-i∧∃i m' n' tb oI,tb≤z.toks∧k'=vs.length+1-i∧i≤vs.length∧z.heap.IsListIter s.heap.objs.size l i∧du z.gens∧z.os=s.os∧Fr h₀ env.locals z.heap m'∧ba h₀ env.locals z.heap ((s.heap.objs.size,oI)::(l,listOf vs.toArray n)::n')∧(∀p∈n',p.1≠s.heap.objs.size)∧J i m' n' tb:=by
    intro a0;refine Qn a0 λbv br bb aD cc bo cn a6 as b0=>?_;clear a0;exact(c9 (vs.length+1-(i+1)) (ltN (eQ [↑(vs.length+1-(i+1)),↑(vs.length+1-i),vs.length,i] 1 (.a Z0 Y1) Z1 1 (.a Z2 Y1) (.a Z1 Z3) 1 (.a Z0 (.a Z3 Y1)) (.a Z2 Y1) rfl C8 (xN (cS [i,vs.length] 1 (.a Z0 Y1) (.a Z1 Y1) 1 (.a Z0 Y1) Z1 rfl (d9 ah))))) ⟨i+1,bv,br,bb,B,aD,rfl,ah,⟨B,(a6 _ (zH)).1,ar,bl⟩,cc,bo,cn,a6,as,b0⟩)
   cases f with
   | next=>exact fin ab
   | cont=>exact fin ab
   | brk=>exact ab
   | ret v=>exact ab
  .have cA:i=vs.length:=iw hi (cJ ah)
   subst cA;refine W.done s' _ _ ?_ λG a7 aa=>eY ?_
   .have e:vs.toArray.size=vs.length:=by simp
    rw[e];exact⟨b5,ap⟩
   .refine b7 (aj aa) λH U=>?_
    exact done m' n' tb _ hj G' ho H U
 .intro p hp
  rcases ak.mp hp with e|hp
  .rw[e];exact(eR (a9 _ (by rw[← hI];rfl)) (aF ca) (jh F))
  .exact⟨up _ _ (N p hp).1,(N p hp).2⟩
end
noncomputable def H1(x c:UInt64):Bool:=cV x c==some pS||cV x c==some dh
noncomputable def km(t n:Int):UInt64:=ji (fW 4611686018427387904 (bE t)) (bE n)
noncomputable def jo(T:Ns)(q:Addr×List Int):Prop:=∃va ep,(q.1,listOf va.toArray ep)∈T∧au va q.2∧q.2.length≤32∧q.2.Nodup
noncomputable def AV(av:Value)(T:Ns):Prop:=(∃t,av=.str "" t)∨∃(l2:Addr) (vs2:List Value) (e2:Nat),av=.ref l2∧(l2,listOf vs2.toArray e2)∈T
theorem AV.mono(h:AV av T)(s:∀p∈T,p∈T'):AV av T':=h.elim Or.inl λ⟨a,b,c,d,e⟩=>Or.inr ⟨a,b,c,d,s _ e⟩
noncomputable def MK(ys:List Int)(q:Addr×List Int)(mk:List (Addr×Int))(r:Addr)(T:Ns):Prop:=
 pM q.2 ys 0 q.2.length 0 ys.length (ee mk)∧mk.length≤34∧(∀x∈mk,0≤x.2)∧(∀x∈mk,sL T x)∧∀p∈T,p.1≠r
theorem MK.small(h:MK ys q mk r T)(hq:q.2.length≤32):ee mk≤1000:=by
 have:=Du h.1 (j0) (j0);exact eQ [ee mk,q.snd.length] 1 Z0 (.k 1000) 1 Z0 (.s Z1 Y0) 1 Z1 (.k 32) rfl this.2.1 (d9 hq)
structure GC(ys:List Int)(kvj:List (Int×Value))(R:List (Addr×List Int))(pass:Addr×List Int→Bool)(scr:Addr×List Int→UInt64)(news:Ns)(D RS:Addr)(T:Ns)(outs:List (Addr×(Addr×List Int)))(i tb:Nat):Prop where
 h0:∀p∈news,p∈T
 hD:∀p∈T,p.1≠D
 h256:∀p∈T,p.1≠256
 hR:∀p∈T,p.1≠RS
 hb:yM ys kvj T
 ho:∃tok:Addr→Tok,(∀o∈outs,tok o.1≠0∧tok o.1<tb∧(o.1,dO #[.float (scr o.2) (tok o.1),.ref o.2.1])∈T)∧∀o∈outs,∀o'∈outs,tok o.1=tok o'.1→o=o'
 hm:outs.map (·.2)=(R.take i).filter pass
section
variable {ys:List Int}{kvj:List (Int×Value)}{R:List (Addr×List Int)}{pass:Addr×List Int→Bool}{scr:Addr×List Int→UInt64}{news:Ns}{D RS:Addr}{T:Ns}{outs:List (Addr×(Addr×List Int))}{i tb tb':Nat}{q:Addr×List Int}
theorem GC.mono(g:GC ys kvj R pass scr news D RS T outs i tb)(s:∀p∈T,p∈T')(h1:∀p∈T',p.1≠D)(h2:∀p∈T',p.1≠256)(h3:∀p∈T',p.1≠RS):GC ys kvj R pass scr news D RS T' outs i tb where
 h0:=λp hp=>s p (g.h0 p hp)
 hD:=h1
 h256:=h2
 hR:=h3
 hb:=jU g.hb s
 ho:=let ⟨tok,h1,h2⟩:=g.ho;⟨tok,λo h=>⟨(h1 o h).1,(h1 o h).2.1,s _ (h1 o h).2.2⟩,h2⟩
 hm:=g.hm
theorem GC.skip(g:GC ys kvj R pass scr news D RS T outs i tb)(hq:R[i]?=some q)(hp:pass q=false):GC ys kvj R pass scr news D RS T outs (i+1) tb where
 h0:=g.h0
 hD:=g.hD
 h256:=g.h256
 hR:=g.hR
 hb:=g.hb
 ho:=g.ho
 hm:=by rw[g.hm,fo,hq];simp [cH,hp]
theorem GC.add(g:GC ys kvj R pass scr news D RS T outs i tb)(hq:R[i]?=some q)(hp:pass q=true)(B:tk≠0)(u:tb≤tk)(z:tk<tb')(G:∀p∈T,p.1<t)(e1:t≠D)(e2:t≠256)(e3:t≠RS):
  GC ys kvj R pass scr news D RS ((t,dO #[.float (scr q) tk,.ref q.1])::T) (outs++[(t,q)]) (i+1) tb' where
 h0:=λp hp=>zT (g.h0 p hp)
 hD:=zC ⟨e1,g.hD⟩
 h256:=zC ⟨e2,g.h256⟩
 hR:=zC ⟨e3,g.hR⟩
 hb:=jU g.hb λp hp=>zT hp
 ho:=by
  refine fK g.ho λtok h1 h2=>?_;have hne:∀o∈outs,o.1≠t:=λo h=>aB (G _ (h1 o h).2.2);refine(c9 (λa=>if a=t then tk else tok a) (λo h=>?_) (λo h o' h' e=>?_))
  .rcases aC.mp h with h|h
   .dsimp only
    rw[if_neg (hne o h)];exact(eR ((h1 o h).1) (aN (h1 o h).2.1 (aw u (aL z))) (zT (h1 o h).2.2))
   .rw[aA.mp h]
    dsimp only;rw[if_pos rfl];exact(eR B z (zH))
  .dsimp only at e
   rcases aC.mp h with h|h<;>rcases aC.mp h' with h'|h'
   .rw[if_neg (hne o h),if_neg (hne o' h')] at e
    exact h2 o h o' h' e
   .rw[aA.mp h'] at e
    dsimp only at e;rw[if_neg (hne o h),if_pos rfl] at e;exact absurd (e▸(h1 o h).2.1) (I8.mpr u)
   .rw[aA.mp h] at e
    dsimp only at e;rw[if_neg (hne o' h'),if_pos rfl] at e;exact absurd (e▸(h1 o' h').2.1) (I8.mpr u)
   .rw[aA.mp h,aA.mp h']
 hm:=by rw[aX,g.hm,fo,hq];simp [cH,hp]
theorem GC.len(g:GC ys kvj R pass scr news D RS T outs i tb):outs.length≤i:=by
 have:=congrArg eE g.hm;rw[aE] at this;rw[this];exact aw (bU _ _) (by rw[eJ];exact jv _ _)
end
section
variable {h₀ h:Heap}{L P:Addr}
theorem yb(N:ba h₀ L h (a++T))(hP:(P,o)∈T)(hc:o.cls≠.ref 171)(hq:sL T q):sL (T.filter λp=>p.1 != P) q:=by
 refine zE hq λdx i j t1 t2 t3 hm=>?_
 try clear hq
 refine(B7 dx i j t1 t2 t3 (bY.mpr ⟨hm,?_⟩));have h1:=(N _ (zR hm)).1;have h2:=(N _ (zR hP)).1
 have hne:q.1≠P:=λe=>by
  dsimp only at h1 h2;rw[e,h2] at h1;cases h1;exact hc rfl
 simpa using hne
end
theorem DI{h₀:Heap}{L I l:Addr}{oI lo:Obj}{e s':Shared}{J:(Lo)→Ns→Nat→Prop}{Q:FP}{m':Lo}{n':Ns}{tb:Nat}(u:tb≤s'.toks)(F:Fr h₀ L s'.heap m')(N:ba h₀ L s'.heap ((I,oI)::(l,lo)::n'))
  (g:du s'.gens) (o:s'.os=e.os) (off:∀p∈n',p.1≠I) (j:J m' n' tb):uW h₀ L I oI l lo e J Q .next s':=(QF m' n' tb u g o F N off j)
theorem zB(N:ba h₀ L h news)(h1:(a,o)∈news)(h2:(b,o')∈news)(hc:o.cls≠o'.cls):a≠b:=λe=>by
 have u:=(N _ h1).1;have z:=(N _ h2).1;dsimp only at u z;rw[e,z] at u;cases u;exact hc rfl
theorem dict_cls{α:Type}[DecidableEq α]{prog:Program}{w:World}{knd:PySem.KeyKind prog w α}{o:Obj}{kvs:List (α×Value)}(h:o.IsDictOf knd kvs):o.cls=.type "dict":=by
 refine pU h λes ep e _=>?_
 try clear h
 exact e.1
theorem Bt{ys:List Int}{kvs:List (Int×Value)}{h₀ h:Heap}{L P:Addr}{o:Obj}{a T:Ns}(N:ba h₀ L h (a++T))(hP:(P,o)∈T)(hne:∀(j:Int) (t:Tok) (ep:Nat),o≠listOf #[.int j t] ep)(hb:yM ys kvs T):yM ys kvs (T.filter λp=>p.1 != P):=
 ⟨hb.1,λj n e=>let ⟨x,t,ep,h1,h2⟩:=hb.2 j n e;⟨x,t,ep,h1,bY.mpr ⟨h2,by
  have u:=(N _ (zR h2)).1;have z:=(N _ (zR hP)).1
  have:x≠P:=λe=>by
   dsimp only at u z;rw[e,z] at u;exact hne _ _ _ (dJ u)
  simpa using this⟩⟩⟩
theorem iN{P:Addr}{p:Addr×Obj}{T:Ns}(h:p∈T)(hn:p.1≠P):p∈T.filter λx=>x.1 != P:=bY.mpr ⟨h,by simpa using hn⟩
theorem MK.mono(h:MK ys q mk r T)(s:∀p∈T,p∈T')(h2:∀p∈T',p.1≠r):MK ys q mk r T':=
 (OL h.1 h.2.1 h.2.2.1 (λx e=>(h.2.2.2.1 x e).mono s) h2)
noncomputable def At(prog:Program)(w:World)(cv:Value)(ge:UInt64→Bool):Prop:=∀(A:Around) (E:VP) (s:Shared) (x:UInt64) (t:Tok) (Q:VP),Q (.bool (ge x)) s→ay (aq prog w) A (fi .GtE (.float x t) cv) Q E s
noncomputable def MW(prog:Program)(w:World)(cv:Value):Prop:=∀(A:Around) (E:VP) (s:Shared) (t:Tok) (Q:VP),Q (.bool true) s→ay (aq prog w) A (fi .LtE (.float 0 t) cv) Q E s
noncomputable def MV(prog:Program)(w:World)(cv:Value):Prop:=∀(A:Around) (E:VP) (s:Shared) (t:Tok) (Q:VP),Q (.bool true) s→ay (aq prog w) A (fi .LtE cv (.float 4607182418800017408 t)) Q E s
section
variable {prog:Program}{A:Around}{h₀:Heap}{L:Addr}{m:Lo}{env:Env}
theorem yz{x u:Sr}{px:Pos}{scope:Scope}{cl:List (Sr×Addr)}{s:Shared}{ax:Addr}{its:Array Value}{Fin:List Value→Ns→Prop}{news:Ns}{outs:List (Addr×(Addr×List Int))}{scr:Addr×List Int→UInt64}
  (G:its=(refsOf outs).toArray) (ho:∀o∈outs,∃tk,(o.1,dO #[.float (scr o.2) tk,.ref o.2.1])∈news) (S:Nb h₀ ax its news) (U:∀C,(fj scope cl C env).scope.kind=.function) (Y:∀C,(fj scope cl C env).kindOf u=some .local)
  (hd:(u==("__debug__" : Sr))=false) (hF:Fin (outs.map λo=>.ref o.2.1) news):
  ∀(k i:Nat) (ys:List Value),i+k=outs.length→ys=(outs.take i).map (λo=>.ref o.2.1)→LCp.CompRestP prog W0 A h₀ L m env (.Name u px) x u scope cl s (Nb h₀ ax its) (λi v=>its[i]?=some v) Fin k i ys news:=by
 intro k
 induction k with
 | zero=>
  intro i ys hi H;have e:i=outs.length:=vn (cS [i,outs.length] 1 Z0 Z1 1 (.a Z0 Y0) Z1 rfl (vX hi)) (cS [outs.length,i] 1 Z0 Z1 1 Z0 (.a Z1 Y0) rfl (l9 hi));subst e;rw[cP] at H;subst H;exact hF
 | succ k ih=>
  intro i ys hi H;refine xp λv hv=>?_
  have O:(refsOf outs)[i]?=some v:=by rw[G] at hv;simpa using hv
  refine fK (mH O) λo B z=>?_;subst z;refine cp (ho o (cq B)) λtk hm=>?_;refine(EV o.1 _ _ _ _ rfl hm rfl rfl (λI oI C oC D m₂ h tk E' hC hx J F N off ne=>?_));refine LCgL.ld_own N (zT (zH)) hC J ?_ (U C) (Y C) hd;refine LCg.CompEnd.intro F N news (λp hp=>hp) off S (ih (i+1) _ (Pg hi) ?_);subst H;rw[fo,B];simp
end
noncomputable def sq(W0:World)(nn:Int)(scr:Addr×List Int→UInt64)(Pre:List (Addr×(Addr×List Int))→Prop)(Rel:List (Addr×(Addr×List Int))→List (Addr×(Addr×List Int))→Prop):Prop:=
 ∀(gp:Program) (gl:List Sr) (mean:ExcName→Option Value) (mg mb:Lo) (dp un:Nat) (gd:Option (List sR)) (cn:Sr) (cs:Scope) (a:Addr) (ccd:Value) (cl:List (Sr×Addr)) (outer:List Env) (A₀:Around) (base h₀:Heap) (L:Addr) (m:Lo)
  (news:Ns) (s:Shared) (Q E:VP) (RS:Addr) (re:Nat) (outs:List (Addr×(Addr×List Int))) (tn:Tok),qU A₀ base outer h₀→Fr h₀ L s.heap m→(hd.heap_1 W0.params).In h₀→ba h₀ L s.heap ((RS,listOf (refsOf outs).toArray re)::news)→Top gp gl mean mg mb h₀→cs.kind=.function→
  dp+20<aH→un+200<cT→outs.length≤40→Pre outs→(∃tok:Addr→Tok,(∀o∈outs,tok o.1≠0∧(o.1,dO #[.float (scr o.2) (tok o.1),.ref o.2.1])∈news)∧∀o∈outs,∀o'∈outs,tok o.1=tok o'.1→o=o')→(∀o∈outs,jo news o.2)→
  (∀(NR:Addr) (outs2:List (Addr×(Addr×List Int))) (c2:Nat) (h':Heap) (tk':Nat),Rel outs outs2→(∀o∈outs2,o∈outs)→outs2.length≤40→(∀p∈news,p.1<NR)→Fr h₀ L h' m→ba h₀ L h' ((NR,listOf (refsOf outs2).toArray c2)::news)→Q (.ref NR) {s with heap:=h',toks:=tk'})→
  ay (aq cF.row.prog W0) (ic dp un gd cn cs L a ccd cl outer) (call (.ref 288) [.int nn tn,.ref RS]) Q E s
theorem xT:∀{l:Ns},LCg.Off1 D l→∀p∈l,p.1≠D
 | [],_,_,h=>nomatch h
 | _::_,x,p,h=>by
  rcases ak.mp h with e|h
  .rw[e];exact x.1
  .exact xT x.2 p h
noncomputable abbrev P0:Program:=cF.row.prog
structure Fm(W0:World)(cs:Scope) where
 gp:Program
 gl:List Str
 mean:ExcName→Option Value
 mg:Lo
 mb:Lo
 dp:Nat
 un:Nat
 gd:Option (List sR)
 cn:Str
 L:Addr
 a:Addr
 ccd:Value
 cl:List (Str×Addr)
 outer:List Env
 A₀:Around
 base:Heap
 h₀:Heap
 s:Shared
 E:Value→Shared→Prop
 P:Shared→Prop
 B:qU A₀ base outer h₀
 X:(hd.heap_1 W0.params).In h₀
 T:Top gp gl mean mg mb h₀
 hk:cs.kind=.function
 hE:lG (aq P0 W0) (ic dp un gd cn cs L a ccd cl outer) (yU cn cs L a ccd cl) E
 hP:∀h tk,P {s with heap:=h,toks:=tk}
section
variable {cs:Scope}
noncomputable abbrev Fm.A(c:Fm W0 cs):Around:=ic c.dp c.un c.gd c.cn cs c.L c.a c.ccd c.cl c.outer
noncomputable abbrev Fm.env(c:Fm W0 cs):Env:=yU c.cn cs c.L c.a c.ccd c.cl
inductive Fm.Is(c:Fm W0 cs)(m:Lo)(n:Ns)(s:Shared):Prop
 | mk (h:Heap) (tk:Nat) (e:s = {c.s with heap:=h,toks:=tk}) (F:Fr c.h₀ c.L h m) (N:ba c.h₀ c.L h n)
noncomputable def Fm.Lib(c:Fm W0 cs)(m:Lo)(n:Ns)(s:Shared):Prop:=s.os=c.s.os∧c.P s∧Fr c.h₀ c.L s.heap m∧ba c.h₀ c.L s.heap n
noncomputable def Fm.Fin(c:Fm W0 cs)(f:ve)(m:Lo)(n:Ns)(s:Shared):Prop:=match f with
 | .ret _=>c.Lib m n s
 | _=>c.Is m n s
structure Cx(c:Fm W0 cs)(sc:Scope) where
 env:Env
 E:Value→Shared→Prop
 Is:Lo→Ns→Shared→Prop
 hsc:env.scope=sc
 exA:List Addr
 opn:∀{m:Lo}{n:Ns}{s:Shared},Is m n s→∃m0 ex,ex.map (·.1)=exA∧Fr c.h₀ c.L s.heap m0∧ba c.h₀ c.L s.heap (ex++n)∧∀h' tk n',Fr c.h₀ c.L h' m0→ba c.h₀ c.L h' (ex++n')→Is m n' {s with heap:=h',toks:=tk}
 load:∀{m:Lo}{n:Ns}{s:Shared}{x:Str}{pos:Pos}{v:Value}{Q:VP},Is m n s→m x=some v→sc.names.lookup x=some .local→(x==("__debug__" : Str))=false→Q v s→ay (aq P0 W0) c.A (eval (.Name x pos) env) Q E s
inductive Bv where
 | val (v:Value)
 | int (i:Int)
 | flt (x:UInt64)
noncomputable def Bv.den:Bv→Value→Prop
 | .val v,x=>x=v
 | .int i,x=>∃t,x=.int i t
 | .flt f,x=>∃t,x=.float f t
structure Ev{c:Fm W0 cs}{sc:Scope}(k:Cx c sc)(m:Lo)(n:Ns)(e:PE)(a:Bv):Prop where
 run:∀(Q:VP) s,k.Is m n s→(∀v s',a.den v→k.Is m n s'→Q v s')→ay (aq P0 W0) c.A (eval e k.env) Q k.E s
structure Tw{c:Fm W0 cs}{sc:Scope}(k:Cx c sc)(m:Lo)(n:Ns)(e:PE)(wh:M7 Value)(b:Bool):Prop where
 run:∀(Q:Bool→Shared→Prop) s,k.Is m n s→(∀s',k.Is m n s'→Q b s')→ay (aq P0 W0) c.A (isTrue e k.env wh) Q k.E s
structure Er{c:Fm W0 cs}{sc:Scope}(k:Cx c sc)(m:Lo)(n:Ns)(e:PE)(P:Value→Ns→Prop):Prop where
 run:∀(Q:VP) s,k.Is m n s→(∀v n' s',P v n'→k.Is m n' s'→Q v s')→ay (aq P0 W0) c.A (eval e k.env) Q k.E s
noncomputable abbrev Re:=ve→Lo→Ns→Prop
structure Ex(c:Fm W0 cs)(m:Lo)(n:Ns)(st:Stmt)(R:Re):Prop where
 run:∀(Q:FP) s,c.Is m n s→(∀f m' n' s',R f m' n'→c.Fin f m' n' s'→Q f s')→ay (aq P0 W0) c.A (exec st c.env) Q c.E s
structure cK(c:Fm W0 cs)(m:Lo)(n:Ns)(sts:List Stmt)(R:Re):Prop where
 run:∀(Q:FP) s,c.Is m n s→(∀f m' n' s',R f m' n'→c.Fin f m' n' s'→Q f s')→ay (aq P0 W0) c.A (kz sts c.env) Q c.E s
noncomputable def md(c:Fm W0 cs)(rest:List Stmt)(R:Re)(f:ve)(m:Lo)(n:Ns):Prop:=match f with
 | .next=>cK c m n rest R
 | f=>R f m n
noncomputable def ci(m:Lo)(x:Str)(v:Value):Lo:=λy=>if y=x then some v else m y
variable {c:Fm W0 cs}{m:Lo}{n:Ns}{R:Re}
theorem Fm.Is.at{s:Shared}(h:c.Is m n s):Fr c.h₀ c.L s.heap m∧ba c.h₀ c.L s.heap n:=by obtain ⟨h',tk,rfl,F,N⟩:=h;exact⟨F,N⟩
theorem Fm.Is.to{s:Shared}{m':Lo}{n':Ns}(h:c.Is m n s){h':Heap}{tk:Nat}(F:Fr c.h₀ c.L h' m')(N:ba c.h₀ c.L h' n'):c.Is m' n' {s with heap:=h',toks:=tk}:=by obtain ⟨_,_,rfl,_,_⟩:=h;exact⟨h',tk,rfl,F,N⟩
theorem Fm.Is.toks{s:Shared}(h:c.Is m n s){tk:Nat} : c.Is m n {s with toks:=tk}:=by obtain ⟨h',_,rfl,F,N⟩:=h;exact⟨h',tk,rfl,F,N⟩
theorem Fm.Is.sub{s:Shared}{n':Ns}(h:c.Is m n s)(sub:∀p∈n',p∈n):c.Is m n' s:=by obtain ⟨h',tk,rfl,F,N⟩:=h;exact⟨h',tk,rfl,F,cm N sub⟩
theorem Fm.Is.lib{s:Shared}(h:c.Is m n s):c.Lib m n s:=by obtain ⟨h',tk,rfl,F,N⟩:=h;exact(nB rfl (c.hP _ _) F N)
theorem Fm.Is.as{s:Shared}{m':Lo}(h:c.Is m n s)(e:m=m'):c.Is m' n s:=e▸h
theorem Cx.Is.toks{c:Fm W0 cs}{sc:Scope}{k:Cx c sc}{m:Lo}{n:Ns}{s:Shared}(h:k.Is m n s){tk:Nat} : k.Is m n {s with toks:=tk}:=by refine hH (k.opn h) λm0 ex _ F N cl=>?_;exact cl _ _ _ F N
theorem Cx.Is.sub{c:Fm W0 cs}{sc:Scope}{k:Cx c sc}{m:Lo}{n n':Ns}{s:Shared}(h:k.Is m n s)(sub:∀p∈n',p∈n):k.Is m n' s:=by
 refine hH (k.opn h) λm0 ex _ F N cl=>?_;exact cl s.heap s.toks n' F (cm N λp hp=>(aC.mp hp).elim (λh=>zL h) λh=>zR (sub p h))
theorem Cx.Is.get{c:Fm W0 cs}{sc:Scope}{k:Cx c sc}{m:Lo}{n:Ns}{s:Shared}(h:k.Is m n s){p:Addr×Obj}(hp:p∈n):s.heap.get? p.1=some p.2:=by
 refine hH (k.opn h) λm0 ex _ F N cl=>?_;exact(N _ (zR hp)).1
noncomputable def Fm.cx(c:Fm W0 cs):Cx c cs where
 env:=c.env
 E:=c.E
 Is:=c.Is
 hsc:=rfl
 exA:=[]
 opn:=λ{m}{n}{s} h=>(se m [] rfl h.at.1 h.at.2 (λh' tk n' F N=>h.to F N))
 load:=λh hv hx hd hq=>nameX_L h.at.1 hv hq c.hk hx hd
variable {sc:Scope}{k:Cx c sc}
theorem am{x pos}(hv:m x=some v)(e:autoParam (sc.names.lookup x=some .local) zAa)(hd:autoParam ((x==("__debug__" : Str))=false) zAd):Ev k m n (.Name x pos) (.val v):=
 ⟨λ_ _ hi hq=>k.load hi hv e hd (hq _ _ rfl hi)⟩
theorem ai{x pos}(hv:m x=some (.int i t))(e:autoParam (sc.names.lookup x=some .local) zAa)(hd:autoParam ((x==("__debug__" : Str))=false) zAd):Ev k m n (.Name x pos) (.int i):=
 ⟨λ_ _ hi hq=>k.load hi hv e hd (hq _ _ ⟨t,rfl⟩ hi)⟩
theorem bf{i:Int}{kk:Nat}{pos:Pos} : Ev k m n (.Constant (.int i) kk pos) (.int i):=⟨λ_ _ hi hq=>n8 (hq _ _ ⟨_,rfl⟩ hi.toks)⟩
noncomputable def PR(op:MD)(f:Int→Int→Int):Prop:=∀(W0:World) (A:Around) (E:VP) (s:Shared) (Q:VP) (a b:Int) (t u:Tok),(∀t' tk,Q (.int (f a b) t') {s with toks:=tk})→ay (aq P0 W0) A (CK op (.int a t) (.int b u)) Q E s
theorem Lc:PR .Add (· + ·):=λ_ _ _ _ _ _ _ _ _ h=>add_int (h _ _)
theorem La:PR .Sub (· - ·):=λ_ _ _ _ _ _ _ _ _ h=>sub_int (h _ _)
theorem Af{op:MD}{f:Int→Int→Int}{l r:PE}{pos}{a b:Int}(o:PR op f)(hl:Ev k m n l (.int a))(hr:Ev k m n r (.int b)):Ev k m n (.BinOp l op r pos) (.int (f a b)):=
 ⟨λ_ s hi hq=>dX (hl.run _ s hi λv s1 hv h1=>hr.run _ s1 h1 λv2 s2 B h2=>by
  refine cp hv λt z=>?_
  try clear hv
  subst z;refine cp B λu e=>?_
  try clear B
  subst e
  exact o _ _ _ _ _ _ _ _ _ λG tk=>hq _ _ ⟨G,rfl⟩ h2.toks)⟩
theorem ec{pos}(hl:Ev k m n l (.int a))(hr:Ev k m n r (.int b)):Ev k m n (.BinOp l .Add r pos) (.int (a+b)):=Af Lc hl hr
theorem jl{pos}(hl:Ev k m n l (.int a))(hr:Ev k m n r (.int b)):Ev k m n (.BinOp l .Sub r pos) (.int (a-b)):=Af La hl hr
theorem fk{e z:PE}{pos}{l:Addr}{va:List Value}{xs:List Int}{ep:Nat}{j:Int}(hv:Ev k m n e (.val (.ref l)))(hk:Ev k m n z (.int j))(hm:(l,listOf va.toArray ep)∈n)(hi:au va xs)(h0:0≤j)(h1:j<xs.length)(hf:j<2 ^ 63)
  (hs:autoParam (∀u,j4 z false (.ref l) (.int j u)=tQ [.ref l,.int j u] (pP (.ref l) (.int j u))) zAg) (O:autoParam (∀r,eU e (.ref l) r=ck ()) zAe):
  Ev k m n (.Subscript e z pos) (.int (xs.getD j.toNat 0)):=
 ⟨λ_ s U hq=>og (hv.run _ s U λv s1 H J=>hk.run _ s1 J λv2 s2 G h2=>by
  cases H;refine cp G λu B=>?_
  try clear G
  subst B
  exact item_list_ints (cZ _ (h2.get hm) rfl ⟨ep,rfl⟩) hi h0 h1 hf (λt=>hq _ _ ⟨t,rfl⟩ h2) (hs u) O)⟩
noncomputable def Pw(op:CmpOp)(f:Int→Int→Bool):Prop:=∀(W0:World) (A:Around) (E:VP) (s:Shared) (Q:VP) (a b:Int) (t u:Tok),Q (.bool (f a b)) s→ay (aq P0 W0) A (fi op (.int a t) (.int b u)) Q E s
theorem lc:Pw .Lt (λa b=>decide (a<b)):=λ_ _ _ _ _ _ _ _ _ h=>lt_int h
theorem qk:Pw .Gt (λa b=>decide (b<a)):=λ_ _ _ _ _ _ _ _ _ h=>gt_int h
theorem FF:Pw .GtE (λa b=>decide (b≤a)):=λ_ _ _ _ _ _ _ _ _ h=>ge_int h
theorem wp:Pw .Eq (λa b=>decide (a=b)):=λ_ _ _ _ _ _ _ _ _ h=>eq_int h
theorem eD{pos wh}(o:Pw op f)(hl:Ev k m n l (.int a))(hr:Ev k m n r (.int b))(hm:autoParam (eN op r=false) zAc):Tw k m n (.Compare l [op] [r] pos) wh (f a b):=
 ⟨λ_ s hi hq=>bX (hl.run _ s hi λv s1 hv h1=>hr.run _ s1 h1 λv2 s2 B h2=>by
  refine cp hv λt z=>?_
  try clear hv
  subst z;refine cp B λu e=>?_
  try clear B
  subst e
  exact o _ _ _ _ _ _ _ _ _ (aY (hq _ h2))) hm⟩
theorem qt{pos wh}(h:Tw k m n x (eval x k.env) b):Tw k m n (.UnaryOp .Not x pos) wh (!b):=⟨λ_ s hi hq=>isTrue_not (h.run _ s hi λs' h'=>hq s' h')⟩
theorem iU{pos wh} : Tw k m n (.BoolOp .And [] pos) wh true:=⟨λ_ s hi hq=>isTrue_and_nil (hq s hi)⟩
theorem fS{pos wh}(h:Tw k m n x (eval x k.env) b)(hr:b=true→Tw k m n (.BoolOp .And rest pos) wh d):Tw k m n (.BoolOp .And (x::rest) pos) wh (b&&d):=⟨λ_ s hi hq=>vJ (h.run _ s hi λs' h'=>by
 cases b with
 | false=>exact hq _ h'
 | true=>exact(hr rfl).run _ _ h' hq)⟩
theorem ke(h:Ev k m n e (.int i))(he:autoParam (isTrue e k.env (eval e k.env)=(do let v ← eval e k.env;f8 e.pos;gm [v] (truthy v))) zAa):Tw k m n e (eval e k.env) (i != 0):=
 ⟨λ_ s hi hq=>xo (h.run _ s hi λv s1 hv h1=>by refine cp hv λt u=>?_;try clear hv;subst u;exact truthy_int (hq _ h1)) he⟩
theorem b9(h:R .next m n):cK c m n [] R:=⟨λ_ s hi hq=>eY (hq _ _ _ _ h hi)⟩
theorem bK{st:Stmt}{rest:List Stmt}(h:Ex c m n st (md c rest R)):cK c m n (st::rest) R:=⟨λQ s hi hq=>fh (h.run _ s hi λf m' n' s' hr e=>by
 cases f with
 | next=>exact cK.run hr Q s' e hq
 | ret v=>exact hq _ _ _ _ hr e
 | brk=>exact hq _ _ _ _ hr e
 | cont=>exact hq _ _ _ _ hr e)⟩
theorem bQ(h:cK c m n rest R):cK c m n [] (md c rest R):=b9 h
theorem cL(h:cK c m n' sts R)(sub:∀p∈n',p∈n):cK c m n sts R:=⟨λQ s hi hq=>h.run Q s (hi.sub sub) hq⟩
theorem wQ(h:cK c m n sts R)(hi:c.Is m n s)(hq:∀f m' n' s',R f m' n'→c.Fin f m' n' s'→Q f s'):ay (aq P0 W0) c.A (kz sts c.env) Q c.E s:=h.run Q s hi hq
theorem dm(hi:c.Is m n s)(hq:∀s',c.Is (ci m x v) n s'→Q () s')(e:c.env.kindOf x=some .local):ay (aq P0 W0) c.A (storeName c.env x v) Q E s:=
 storeX_L hi.at.1 hi.at.2 (λh' F N=>hq _ (hi.to F N)) c.hk e
theorem tB{x:Str}{u pos:Pos}{e:PE}{rest:List Stmt}{v:Value}(he:Ev c.cx m n e (.val v))(h:cK c (ci m x v) n rest R)
  (hs:autoParam (f0 e (some (.Name x u)) pos.line c.env=ck false) zAa) (z:autoParam (c.env.kindOf x=some .local) zAa):cK c m n (.Assign [.Name x u] e pos::rest) R:=
 bK ⟨λ_ s hi hq=>gO (he.run _ s hi λB s1 hv h1=>by cases hv;exact dm h1 (λs2 h2=>hq .next _ _ _ h h2) z) hs⟩
theorem ft{x:Str}{u pos:Pos}{e:PE}{rest:List Stmt}{i:Int}(he:Ev c.cx m n e (.int i))(h:∀t,cK c (ci m x (.int i t)) n rest R)
  (hs:autoParam (f0 e (some (.Name x u)) pos.line c.env=ck false) zAa) (B:autoParam (c.env.kindOf x=some .local) zAa):cK c m n (.Assign [.Name x u] e pos::rest) R:=
 bK ⟨λ_ s hi hq=>gO (he.run _ s hi λG s1 hv h1=>by refine cp hv λt z=>?_;try clear hv;subst z;exact dm h1 (λs2 h2=>hq .next _ _ _ (h t) h2) B) hs⟩
theorem dz{test:PE}{body e rest:List Stmt}{pos:Pos}{b:Bool}(ht:Tw c.cx m n test (eval test c.env) b)(h1:b=true→cK c m n body (md c rest R))(h2:b=false→cK c m n e (md c rest R)):cK c m n (.If test body e pos::rest) R:=
 bK ⟨λQ s hi hq=>Mo (ht.run _ s hi λs' h'=>by
  cases b with
  | true=>exact(h1 rfl).run Q s' h' hq
  | false=>exact(h2 rfl).run Q s' h' hq)⟩
theorem pG{e:PE}{pos:Pos}{rest:List Stmt}{a:Bv}(he:Ev c.cx m n e a)(h:∀v,a.den v→R (.ret v) m n):cK c m n (.Return (some e) pos::rest) R:=
 bK ⟨λQ s hi hq=>iO (he.run _ s hi λv s' hv h'=>hq (.ret v) _ _ _ (h v hv) h'.lib)⟩
theorem Fb(h:R .cont m n):cK c m n (.Continue pos::rest) R:=bK ⟨λQ s hi hq=>wpAny_Continue (hq .cont _ _ _ h hi)⟩
theorem H4(h:R .brk m n):cK c m n (.Break pos::rest) R:=bK ⟨λQ s hi hq=>wpAny_Break (hq .brk _ _ _ h hi)⟩
noncomputable def WR(R:Re)(J:Nat→Lo→Ns→Prop)(k:Nat)(f:ve)(m:Lo)(n:Ns):Prop:=match f with
 | .ret v=>R (.ret v) m n
 | .brk=>R .next m n
 | _=>∃j,j<k∧J j m n
theorem jC{test:PE}{body rest:List Stmt}{pos:Pos}(J:Nat→Lo→Ns→Prop){U:Nat}(hJ:J U m n)
  (turn:∀k u e,J k u e→∃b,Tw c.cx u e test (eval test c.env) b∧(b=true→cK c u e body (WR (md c rest R) J k))∧(b=false→cK c u e rest R)):cK c m n (.While test body [] pos::rest) R:=
 bK ⟨λQ s hi hq=>by
  obtain ⟨h,tk,rfl,F,N⟩:=hi;refine GV (env:=c.env) F N (λ_ _=>J) (λ_ _ u e=>cK c u e rest R) ⟨U,hJ⟩ ?_ ?_ c.hE
  .intro k u e B z H G j
   refine fJ (turn k u e j) λb ht h1 h2=>?_;refine ht.run _ _ ⟨B,z,rfl,H,G⟩ λs' h'=>?_
   cases b with
   | true=>
    rw[if_pos rfl];refine(h1 rfl).run _ s' h' λf m' n' s2 hr O=>?_
    cases f with
    | ret v=>exact hq _ _ _ _ hr O
    | brk=>exact hq .next _ _ _ hr O
    | next=>refine fK hr λj hj x=>?_;try clear hr;obtain ⟨h2,tk2,rfl,F2,Y⟩:=O;exact(c9 j hj ⟨h2,tk2,m',n',rfl,F2,Y,x⟩)
    | cont=>refine fK hr λj hj x=>?_;try clear hr;obtain ⟨h2,tk2,rfl,F2,Y⟩:=O;exact(c9 j hj ⟨h2,tk2,m',n',rfl,F2,Y,x⟩)
   | false=>
    rw[if_neg (by decide)];obtain ⟨aa,tk2,rfl,F2,Y⟩:=h';exact(EW aa tk2 u e rfl F2 Y (h2 rfl))
  .intro u e B z H G d
   exact hq .next _ _ _ d ⟨B,z,rfl,H,G⟩⟩
end
section
variable {cs:Scope}{c:Fm W0 cs}{m:Lo}{n:Ns}{R:Re}
theorem uH
  (B:qU A₀ base outer h₀) (F:Fr h₀ L s.heap m) (X:(hd.heap_1 W0.params).In h₀) (N:ba h₀ L s.heap n) (T:Top gp gl mean mg mb h₀) (hk:cs.kind=.function)
  (hE:lG (aq P0 W0) (ic dp un gd cn cs L a ccd cl outer) (yU cn cs L a ccd cl) E) (R:Re)
  (h:∀c:Fm W0 cs,c.dp=dp→c.un=un→cK c m n body R)
  (hq:∀f m' n' h' tk,R f m' n'→Fr h₀ L h' m'→ba h₀ L h' n'→Q f {s with heap:=h',toks:=tk}):
  ay (aq P0 W0) (ic dp un gd cn cs L a ccd cl outer) (kz body (yU cn cs L a ccd cl)) Q E s:=
 wQ (c:=⟨gp,gl,mean,mg,mb,dp,un,gd,cn,L,a,ccd,cl,outer,A₀,base,h₀,s,E,λs'=>s'.gens=s.gens∧s'.drawn=s.drawn,B,X,T,hk,hE,λ_ _=>⟨rfl,rfl⟩⟩) (h _ rfl rfl) ⟨s.heap,s.toks,rfl,F,N⟩ λf m' n' s' r i=>by
  have G:∃h tk,s' = {s with heap:=h,toks:=tk}∧Fr h₀ L h m'∧ba h₀ L h n':=by
   cases f with
   | ret v=>
    refine xU i λe1 u F N=>?_
    try clear i
    refine b7 u λe2 e3=>?_
    try clear u
    cases s';dsimp only at e1 e2 e3;subst e1 e2 e3;exact(ir _ _ rfl F N)
   | next=>obtain ⟨h,tk,e,F,N⟩:=i;exact(ir h tk e F N)
   | brk=>obtain ⟨h,tk,e,F,N⟩:=i;exact(ir h tk e F N)
   | cont=>obtain ⟨h,tk,e,F,N⟩:=i;exact(ir h tk e F N)
  refine gJ G λh' tk z F N=>?_
  try clear G
  subst z;exact hq f m' n' h' tk r F N
theorem is_tup{s:Shared}{D:Addr}{ep:Nat}{vs:List Value}(h:c.Is m n s)(hm:(D,({cls:=.type "tuple",data:=.seq vs.toArray ep} : Obj))∈n):IsTup s.heap D vs.toArray:=(cZ _ ((h.at.2 _ hm).1) rfl ⟨ep,rfl⟩)
theorem yo{sc:Scope}{k:Cx c sc}{e1 e2 e3:PE}{pos:Pos}{a1 a2 a3:Bv}(h1:Ev k m n e1 a1)(h2:Ev k m n e2 a2)(h3:Ev k m n e3 a3)
  (G:∀r,SE k.env e1 r) (B:∀r,SE k.env e2 r) (z:∀r,SE k.env e3 r)
  {Q:List Value→Shared→Prop}{s:Shared} (hi:k.Is m n s) (hq:∀v1 v2 e s',a1.den v1→a2.den v2→a3.den e→k.Is m n s'→Q [v1,v2,e] s'):ay (aq P0 W0) c.A (spliced (ff pos (bV [e1,e2,e3] k.env))) Q k.E s:=
 aI (h1.run _ s hi λv1 s1 J i1=>aI (h2.run _ s1 i1 λv2 s2 d2 i2=>aI (h3.run _ s2 i2 λe u H i3=>bJ (hq v1 v2 e u J d2 H i3)) (z _)) (B _)) (G _)
theorem pE(h1:Ev c.cx m n e1 (.int i1))(h2:Ev c.cx m n e2 (.int i2))(h3:Ev c.cx m n e3 (.int i3))
  (h:∀t1 t2 t3,cK c (ci (ci (ci m O (.int i3 t3)) U (.int i2 t2)) Y (.int i1 t1)) n rest R)
  (hs:autoParam (lV [.Tuple B k z] (.Tuple [e1,e2,e3] kk e) pos.line c.env=ck false) zAa)
  (hw:autoParam (fU [.Tuple B k z] (.Tuple [e1,e2,e3] kk e) c.env=ck (some [Y,U,O])) zAa)
  (q1:autoParam (∀r,SE c.env e1 r) zAb) (q2:autoParam (∀r,SE c.env e2 r) zAb) (q3:autoParam (∀r,SE c.env e3 r) zAb)
  (k1:autoParam (c.env.kindOf Y=some .local) zAa) (k2:autoParam (c.env.kindOf U=some .local) zAa) (k3:autoParam (c.env.kindOf O=some .local) zAa):
  cK c m n (.Assign [.Tuple B k z] (.Tuple [e1,e2,e3] kk e) pos::rest) R:=
 bK ⟨λQ s hi hq=>sX (names:=[Y,U,O]) (vM (yo (k:=c.cx) h1 h2 h3 q1 q2 q3 hi λv1 v2 v3 s1 d1 d2 d3 u=>by
  refine cp d1 λt1 J=>?_
  try clear d1
  subst J;refine cp d2 λt2 H=>?_
  try clear d2
  subst H;refine cp d3 λt3 G=>?_
  try clear d3
  subst G;refine iC u.at.1 u.at.2 (λD h' F' N' hl=>?_) (by decide:(3:Nat)≤dY);have ab:=u.to (tk:=s1.toks) F' N';refine Gp F' N' (is_tup ab (zH)) rfl rfl λh2 F2 N2=>?_;have aa:=u.to (tk:=s1.toks) F2 (cm N2 λp hp=>zT hp);refine be (qT (dm aa (λs4 i4=>?_) k3));refine be (qT (dm i4 (λs5 i5=>?_) k2));refine be (qT (dm i5 (λs6 i6=>?_) k1))
  exact fz (hq .next _ _ _ (h t1 t2 t3) i6))) hs hw⟩
noncomputable def FR(R:Re)(I:Addr)(o:Obj)(J:Nat→Lo→Ns→Prop)(i:Nat)(f:ve)(m:Lo)(n:Ns):Prop:=match f with
 | .ret v=>R (.ret v) m n
 | .brk=>R .next m n
 | _=>(I,o)∈n∧∃n',(∀p∈n',p∈n∧p.1≠I)∧J i m n'
theorem zY(hi:c.Fin f m n s)(z:∃h tk,s₁ = {c.s with heap:=h,toks:=tk})(hq:∀f m' n' s',R f m' n'→c.Fin f m' n' s'→Q f s')(h:FR R I o J i f m n):
  mj c.h₀ c.L s₁ [(I,o)] (λm' n'=>IY [] n'∧J i m' n') Q f s:=by
 refine ut z λH G B=>?_
 try clear z
 subst B
 have go:c.Is m n s→((I,o)∈n∧∃n',(∀p∈n',p∈n∧p.1≠I)∧J i m n')→IX c.h₀ c.L {c.s with heap:=H,toks:=G} [(I,o)] (λm' n'=>IY [] n'∧J i m' n') s:=by
  intro hi u;refine b7 u λO e=>?_;clear u;refine fK e λn' hs j=>?_
  try clear e
  obtain ⟨h',tk,rfl,F,N⟩:=hi;exact xG F N ⟨trivial,j⟩ O (λp hp=>(hs p hp).1) (λp hp=>(hs p hp).2)
 cases f with
 | ret v=>exact hq _ _ _ _ h hi
 | brk=>exact hq .next _ _ _ h hi
 | next=>exact go hi h
 | cont=>exact go hi h
structure IS{c:Fm W0 cs}{sc:Scope}(k:Cx c sc)(m:Lo)(n:Ns)(e:PE)(a b:Int):Prop where
 run:∀(Q:VP) s,k.Is m n s→(∀r t u v s',k.Is m n s'→PySem.IsRange s'.heap r a b 1 t u v→Q (.ref r) s')→ay (aq P0 W0) c.A (eval e k.env) Q k.E s
theorem Cb(he:IS c.cx m n iter a b)(hk:(b-a).toNat=k)(G:dL a b 1=true)(J:Nat→Lo→Ns→Prop)(hJ:J 0 m n)
  (turn:∀i t B e I o,i<k→(∀p∈n,p.1<I)→J i B e→cK c (ci B x (.int (a+(i:Int)) t)) ((I,o)::e) body (FR (md c rest R) I o J (i+1)))
  (done:∀B e,J k B e→cK c B e rest R) (Y:autoParam (c.env.kindOf x=some .local) zAa) (hs:autoParam (∀z,bW iter c.env z=ck z) zAb):
  cK c m n (.For (.Name x px) iter body [] pos::rest) R:=
 bK ⟨λQ s hi hq=>by
  refine qS (env:=c.env) hi.at.1 (he.run _ s hi λr t u v s' h' hr=>?_) hs c.hE;subst hk;obtain ⟨h1,O,rfl,F1,N1⟩:=h';refine kg (env:=c.env) rfl hr G (pX a b) F1 N1 λI hI=>?_;refine qv (env:=c.env) J hJ (λi t B e o h tk H j _ F N=>?_) (λB e h tk j F N=>hq .next _ _ _ (done B e j) ⟨h,tk,rfl,F,N⟩);refine assign_Name (dm (c:=c) ⟨h,tk,rfl,F,N⟩ (λs2 h2=>?_) Y)
  exact(turn i t B e I o H hI j).run _ s2 h2 λf m' n' s' r U=>zY U (ro h tk rfl) hq r⟩
theorem ry(hf:Ev k m n f (.val (.ref q)))(he:Ev k m n e (.int j))(hq:(q,cf "set.__contains__" (.ref d))∈n)(hd:(d,dt led)∈n)
  (h1:autoParam (CC k.env f [e] pos) zAa) (h2:autoParam (SE k.env e []) zAa):Ev k m n (.Call f [e] [] pos) (.val (.bool false)):=
 ⟨λQ s hi hQ=>gq (hf.run _ s hi λv s1 B i1=>by
  cases B;refine hH (k.opn i1) λm0 ex _ O N0 _=>?_;refine pK N0 (zR hq) ?_ h2;refine aI (he.run _ s1 i1 λv2 s2 d2 i2=>bJ ?_) h2;refine cp d2 λt u=>?_
  try clear d2
  subst u;refine⟨i2.get hq,?_⟩;refine hH (k.opn i2) λH z _ J G _=>?_
  exact Jr G (zR hq) (zR hd) (hQ _ _ rfl i2.toks)) h1⟩
theorem nr(h:Ev k m n e (.val (.bool b)))(he:autoParam (isTrue e k.env (eval e k.env)=(do let v ← eval e k.env;f8 e.pos;gm [v] (truthy v))) zAa):Tw k m n e (eval e k.env) b:=
 ⟨λ_ s hi hq=>xo (h.run _ s hi λv s1 hv h1=>by cases hv;exact aY (hq _ h1)) he⟩
theorem yh(hm:m x=some (.int i t))(hv:Ev c.cx m n e (.int j))(h:∀J,cK c (ci m x (.int (i+j) J)) n rest R)(G:autoParam (c.env.kindOf x=some .local) zAa):
  cK c m n (.AugAssign (.Name x B) .Add e pos::rest) R:=
 bK ⟨λQ s hi hq=>wpAny_AugAssign_Name (sM c.hk G hi.at.1.ns hm (hv.run _ s hi λv s1 H i1=>by
  refine cp H λu z=>?_
  try clear H
  subst z
  exact iadd_int (dm i1.toks (λs2 i2=>hq .next _ _ _ (h _) i2) G)))⟩
theorem mQ:∀{ks:List (Str×Value)},Gj m ks→zS ks m=m
 | [],_=>rfl
 | p::r,h=>by
  funext z
  refine(?_:(if z=p.1 then some p.2 else zS r m z)=m z)
  by_cases e:z=p.1
  .rw[if_pos e,e];exact h.1.symm
  .rw[if_neg e,mQ h.2]
end
end
section
open W PyProof Rows Spec PySem.Calls Rows.LCg
section
variable {cs:Scope}{c:Fm W0 cs}{sc:Scope}{k:Cx c sc}{m:Lo}{n:Ns}{s:Shared}
theorem Cx.Is.but(h:k.Is m ((a,o)::n) s)(hk:∀b u,b∉[a]→s.heap.get? b=some u→h'.get? b=some u)(ho:h'.get? a=some o')(off:∀p∈n,p.1≠a)(nU:a∉k.exA):k.Is m ((a,o')::n) {s with heap:=h',toks:=tk}:=by
 refine hH (k.opn h) λm0 ex B F N cl=>?_;have z:=N (a,o) (zR (zH));refine cl _ _ _ (fr_but F hk (Ne.symm z.2.1) z.2.2) λp hp=>?_
 rcases aC.mp hp with hp|hp
 .have hne:p.1≠a:=λe=>nU (by rw[← B,← e];exact fX hp)
  have y:=N p (zL hp);exact⟨hk _ _ (by simpa using hne) y.1,y.2⟩
 .rcases ak.mp hp with rfl|hp
  .exact⟨ho,z.2⟩
  .have y:=N p (zR (zT hp))
   exact⟨hk _ _ (by simpa using off p hp) y.1,y.2⟩
theorem Cx.Is.drop(h:k.Is m ((a,o)::n) s)(hk:∀b u,b∉[a]→s.heap.get? b=some u→h'.get? b=some u)(off:∀p∈n,p.1≠a)(nU:a∉k.exA):k.Is m n {s with heap:=h',toks:=tk}:=by
 refine hH (k.opn h) λm0 ex B F N cl=>?_;have z:=N (a,o) (zR (zH));refine cl _ _ _ (fr_but F hk (Ne.symm z.2.1) z.2.2) λp hp=>?_;have hne:p.1≠a:=(aC.mp hp).elim (λhp e=>nU (by rw[← B,← e];exact fX hp)) (off p);have y:=N p ((aC.mp hp).elim (λh=>zL h) λh=>zR (zT h));exact⟨hk _ _ (by simpa using hne) y.1,y.2⟩
theorem Cx.Is.grow(h:k.Is m n s)(hk:∀b z,s.heap.get? b=some z→h'.get? b=some z)(hn:∀p∈new,h'.get? p.1=some p.2∧@LE.le Nat _ s.heap.objs.size p.1):k.Is m (new++n) {s with heap:=h',toks:=tk}:=by
 refine hH (k.opn h) λm0 ex G F N cl=>?_;refine cl _ _ _ (F.keeps hk) λp hp=>?_
 have u:∀p∈ex++n,h'.get? p.1=some p.2∧p.1≠c.L∧c.h₀.get? p.1=none:=λp hp=>⟨hk _ _ (N p hp).1,(N p hp).2⟩
 rcases aC.mp hp with hp|hp
 .exact u p (zL hp)
 .rcases aC.mp hp with hp|hp
  .refine b7 (hn p hp) λa1 a2=>?_
   have B:@aP Nat _ c.L s.heap.objs.size:=F.ns.lt;refine(eR a1 (λe=>?_) ?_)
   .have:@Eq Nat p.1 c.L:=e
    exact wP B (Db (Eq.symm this) a2)
   .cases e:c.h₀.get? p.1 with
    | none=>rfl
    | some z=>
     have:@aP Nat _ p.1 s.heap.objs.size:=bM (F.keep _ _ e);exact(qz (eQ [p.fst,s.heap.objs.size] 1 Y0 (.k (-1)) 1 (.a Z0 Y1) Z1 1 Z1 Z0 rfl (d9 this) (d9 a2))).elim
  .exact u p (zR hp)
theorem Cx.Is.lt(h:k.Is m n s):(∀p∈n,@aP Nat _ p.1 s.heap.objs.size)∧∀a∈k.exA,@aP Nat _ a s.heap.objs.size:=by
 refine hH (k.opn h) λm0 ex u F N cl=>?_;refine⟨λp hp=>bM (N p (zR hp)).1,λa ha=>?_⟩;rw[← u] at ha;refine fK (eg.mp ha) λp hp e=>?_;subst e;exact bM (N p (zL hp)).1
noncomputable def Cx.comp(k:Cx c sc)(mo:Lo)(scope:Scope)(cl:List (Str×Addr))(C:Addr)(E':VP)(hk:scope.kind=.function):Cx c (rG scope k.env) where
 env:=fj scope cl C k.env
 E:=E'
 Is:=λm n s=>∃oC,NsObj oC m∧k.Is mo ((C,oC)::n) s
 hsc:=rfl
 exA:=k.exA++[C]
 opn:=λ{m n s} h=>by
  refine fK h λoC ho hi=>?_
  try clear h
  refine hH (k.opn hi) λm0 ex hA F N cl=>?_;refine(se m0 (ex++[(C,oC)]) (by rw[aX,hA];rfl) F (by rw[jM];exact N) (λh' tk n' F' N'=>(c9 oC ho (cl h' tk _ F' (by rw[jM] at N';exact N')))))
 load:=λ{m n s x pos v Q} h hv hx hd hq=>by
  refine fK h λoC ho hi=>?_
  try clear h
  exact CI (sM (by simpa [fj,rG] using hk) hx (ho.ns (hi.get (zH))) hv hq) hd
end
noncomputable abbrev BF(env:Env):PE→Bool→M7 (ForInStep Bool):=λct r=>if r=true then do let ok ← isTrue ct env (eval ct env);ck (nP ok) else ck (nP r)
section
variable {cs:Scope}{c:Fm W0 cs}{sc:Scope}
structure JA(k:Cx c sc)(m:Lo)(n:Ns)(e:PE)(P:Value→Ns→Shared→Prop):Prop where
 run:∀(Q:VP) s,k.Is m n s→(∀v n' s',P v n' s'→k.Is m n' s'→Q v s')→ay (aq P0 W0) c.A (eval e k.env) Q k.E s
structure IM(k:Cx c sc)(xv:Value)(s1:Shared)(nn:Nat)(It:Nat→Value→Prop)(kp:Ns):Prop where
 run:∀(Q2:VP),(∀(I:Addr) (oI:Obj) (h2:Heap) (tk2:Nat) (fp:List Addr) (St:Nat→Heap→Prop),y9 P0 W0 c.A I fp [I] nn It St→(∀i h,St i h→∃o,h.get? I=some o)→(∀b o,s1.heap.get? b=some o→h2.get? b=some o)→@Eq Nat I s1.heap.objs.size→@Eq Nat h2.objs.size (I+1)→h2.get? I=some oI→St 0 h2→(∀b∈fp,b=I∨∃o,(b,o)∈kp)→Q2 (.ref I) {s1 with heap:=h2,toks:=tk2})→
  ay (aq P0 W0) c.A (rH xv) Q2 k.E s1
noncomputable def Off3(C I D:Addr)(n:Ns):Prop:=∀p∈n,p.1≠C∧p.1≠I∧p.1≠D
variable {k:Cx c sc}{m:Lo}{n:Ns}
inductive Rb(J:Nat→List Value→Ns→Prop)(C I D:Addr)(oI:Obj)(out:List Value)(i:Nat)(v:Value)(n':Ns):Prop
 | mk (n2:Ns) (h1:∀p∈(I,oI)::(D,bz out)::n2,p∈n') (h2:Off3 C I D n2) (h3:J i (out++[v]) n2)
structure ww(k:Cx c sc)(m:Lo)(n:Ns)(elt:PE)(x:Str)(tests:List PE)(scope:Scope)(cl:List (Str×Addr))(hkind:scope.kind=.function)(nn:Nat)(It:Nat→Value→Prop)(kp:Ns)(J:Nat→List Value→Ns→Prop)(P:Value→Ns→Prop):Prop where
 hJ:J 0 [] n
 hkp:∀i out n1,J i out n1→(∀p∈kp,p∈n1)∧out.length≤i
 turn:∀i v out n1 (C I D:Addr) (oI:Obj) (E':VP) (mC:Lo),i<nn→It i v→J i out n1→mC x=some v→Off3 C I D n1→C≠I→C≠D→I≠D→(∀p∈n,@aP Nat _ p.1 I)→(∀a∈k.exA,a≠C∧a≠I∧a≠D)→
   ∃b,(∀Q s,(k.comp m scope cl C E' hkind).Is mC ((I,oI)::(D,bz out)::n1) s→(∀s',(k.comp m scope cl C E' hkind).Is mC ((I,oI)::(D,bz out)::n1) s'→Q b s')→ay (aq P0 W0) c.A (GQ tests true (BF (fj scope cl C k.env))) Q E' s)∧
    (b=true→Er (k.comp m scope cl C E' hkind) mC ((I,oI)::(D,bz out)::n1) elt (Rb J C I D oI out (i+1)))∧(b=false→J (i+1) out n1)
 done:∀out n1 D,J nn out n1→(∀p∈n,@aP Nat _ p.1 D)→(∀p∈n1,p.1≠D)→P (.ref D) ((D,bz out)::n1)
 hsz:nn≤dY
inductive Q4(q:Cx c sc)(I:Addr)(nn:Nat)(St:Nat→Heap→Prop)(Y:Nat→Lo→Ns→Prop)(r:Nat)(s:Shared):Prop
 | mk (j:Nat) (oI:Obj) (m:Lo) (n:Ns) (h1:nn+1-j=r) (h2:j≤nn) (h3:Y j m n) (h4:q.Is m ((I,oI)::n) s) (h5:St j s.heap)
theorem Sx{j nn:Nat}(h:j<nn):nn+1-(j+1)<nn+1-j:=GO (aW h) (aJ j)
theorem Jo{cd:sR}{x:Str}{px:Pos}{I:Addr}{fp:List Addr}{nn:Nat}{It:Nat→Value→Prop}{St:Nat→Heap→Prop}{kp:Ns}{R:Result→Shared→Prop}{T:(Shared→Prop)→Shared→Prop}{oI:Obj}{s:Shared}(W:y9 P0 W0 c.A I fp [I] nn It St)(hex:∀i h,St i h→∃o,h.get? I=some o)(aa:∀b∈fp,b=I∨∃o,(b,o)∈kp)(hI:I∉k.exA)(Y:Nat→Lo→Ns→Prop)
  (O:∀j m n,Y j m n→(∀p∈kp,p∈n)∧∀p∈n,p.1≠I)
  (hl:∀V:Nat→Shared→Prop,(∀r s,V r s→ay (aq P0 W0) c.A (ky (.ref I)) (λy s₁=>match y with|none=>R (.ok .next) s₁|some v=>ay (aq P0 W0) c.A (de (.Name x px) k.env v) (λ_ s₂=>T (λs₅=>∃q,q<r∧V q s₅) s₂) k.E s₁) k.E s)→∀r,V r s→dH (aq P0 W0) c.A cd R s)
  (turn:∀j v oI m n s Z,j<nn→It j v→Y j m n→k.Is m ((I,oI)::n) s→(∀m' n' s',Y (j+1) m' n'→k.Is m' ((I,oI)::n') s'→Z s')→ay (aq P0 W0) c.A (de (.Name x px) k.env v) (λ_ s₂=>T Z s₂) k.E s)
  (done:∀m n s,Y nn m n→k.Is m n s→R (.ok .next) s) (h0:Y 0 m n) (hi:k.Is m ((I,oI)::n) s) (hs:St 0 s.heap):dH (aq P0 W0) c.A cd R s:=
 hl (Q4 k I nn St Y) (λr s h=>by
  obtain ⟨j,oI,m,n,e,hj,y,hi,st⟩:=h
  by_cases u:j<nn
  .refine W.item j _ _ _ u st λv h4 B hv H z=>?_
   obtain ⟨J,G⟩:=hex _ _ H
   refine turn j v J m n _ _ u hv y (hi.but (tk:=B) z G (O _ _ _ y).2 hI) λm' n' s' y' U=>⟨_,e▸Sx u,j+1,J,m',n',rfl,u,y',U,W.frame _ _ _ H λb hb o e=>?_⟩
   rcases aa b hb with h|⟨o',ho⟩
   .rw[h] at e ⊢
    exact(U.get (zH)).trans (G.symm.trans e)
   .exact(U.get (zT ((O _ _ _ y').1 _ ho))).trans (((hi.but (tk:=B) z G (O _ _ _ y).2 hI).get (zT ((O _ _ _ y).1 _ ho))).symm.trans e)
  .cases iw hj (I8.mp u)
   exact W.done _ _ _ st λh4 B z=>done _ _ _ y (hi.drop z (O _ _ _ y).2 hI)) (nn+1) ⟨0,oI,m,n,rfl,c7 _,h0,hi,hs⟩
theorem MS(h:a<b):a≠b+2:=λe=>c8 a (aO h (e▸eA (oY 1)))
theorem PO(h:a<b):a≠b+1:=λe=>c8 a (aO h (e▸aJ b))
theorem Sy(h:a<b):a≠b+3:=λe=>c8 a (aO h (e▸eA (oY 2)))
structure Ml(k:Cx c sc)(scope:Scope)(cl:List (Str×Addr))(cl':List (Str×Addr))(own:Ns)(z:Addr):Prop where
 run:∀(G:Env→Addr→Shared→Prop) (s:Shared),@Eq Nat s.heap.objs.size (z+2)→(∀oC h tk,NsObj oC (λ_=>none)→h.get? (z+2)=some oC→(∀b o,s.heap.get? b=some o→h.get? b=some o)→(∀p∈own,h.get? p.1=some p.2∧z≤p.1)→G (fj scope cl' (z+2) k.env) (z+2) {s with heap:=h,toks:=tk})→
  ay (aq P0 W0) c.A (newFunctionEnv scope k.env.globals cl [] k.env.qual none .none (some k.env)) (λe s'=>G {e with scope:=rG scope k.env} e.locals s') k.E s
noncomputable def SI(k:Cx c sc)(m:Lo)(n:Ns)(e:PE)(scope:Scope)(cl':Addr→List (Str×Addr))(own:Addr→Ns)(hkind:scope.kind=.function)(nn:Nat)(It:Nat→Value→Prop)(kp:Ns)(CP:Addr→Addr→Result→Shared→Prop):Prop:=
 ∀(I:Addr) (oI:Obj) (fp:List Addr) (St:Nat→Heap→Prop) (s:Shared),y9 P0 W0 c.A I fp [I] nn It St→(∀i h,St i h→∃o,h.get? I=some o)→(∀b∈fp,b=I∨∃o,(b,o)∈kp)→(∀p∈n,@aP Nat _ p.1 I)→(∀a∈k.exA,@aP Nat _ a I)→
  (k.comp m scope (cl' I) (I+2) k.E hkind).Is (λ_=>none) (own I++(I,oI)::(I+1,bz [])::n) s→St 0 s.heap→dH (aq P0 W0) c.A (.compLoop e 0 (.ref I) (.ref (I+1)) (fj scope (cl' I) (I+2) k.env)) (CP (I+1) (I+2)) s
theorem O0(H:∀y∈scope.names,y.2≠.cell)(hkind:scope.kind=.function):Ml k scope cl cl [] z:=
 ⟨λG s e h=>wpAny_newFunctionEnv H (λ_ h=>nomatch h) (λJ B u=>by
  obtain ⟨oC,O,hC⟩:=ns_obj B;have z:=h oC J s.toks;rw[← e] at z
  exact z hC O (λb o e=>u.extBut b o (aB (bM e)) (aG _ e)) (λ_ h=>nomatch h)) hkind⟩
theorem Ak(hi:k.Is m n s)(hkind:scope.kind=.function)(he:JA k m n iter PS)(U:∀z,Ml k scope cl (cl' z) (own z) z)
  (h:∀v n1 s1,PS v n1 s1→k.Is m n1 s1→∃nn It kp,IM k v s1 nn It kp∧SI k m n1 (.ListComp elt (⟨target,iter,tests,0⟩::gs) scope pos) scope cl' own hkind nn It kp λD C=>sQ (aq P0 W0) c.A k.E use Q (.ref D) C)
  (J:fy scope k.env=ck cl) (B:∀y∈scope.names,y.2=.local→scope.names.lookup y.1=some .local) (hs:∀z,bW iter k.env z=ck z):
  ay (aq P0 W0) c.A (Gm (.ListComp elt (⟨target,iter,tests,0⟩::gs) scope pos) scope k.env ar (newList []) false (eval iter k.env) use) Q k.E s:=by
 refine wpAny_comprehension_free (use:=use) rfl hs J hkind B (he.run _ s hi λxv n1 s1 ap i1=>?_);obtain ⟨nn,It,kp,ab,go⟩:=h xv n1 s1 ap i1;refine ab.run _ λI oI h2 tk2 fp St W hex aa eI H hI aj ah=>?_;refine pN ?_;have lt:=i1.lt;rw[← eI] at lt;have O:(h2.push {cls:=.type "list",dict:=none,data:=.seq ([]:List Value).toArray}).objs.size=I+2:=(gk h2 _).trans (congrArg (· + 1) H);have Y:(h2.push {cls:=.type "list",dict:=none,data:=.seq ([]:List Value).toArray}).get? (I+1)=_:=H▸a9 h2 rfl;have u:∀b o,h2.get? b=some o→(h2.push {cls:=.type "list",dict:=none,data:=.seq ([]:List Value).toArray}).get? b=some o:=λb o e=>aG _ e;rw[H];generalize h2.push _=H3 at O Y u ⊢;refine(U I).run (λe C s'=>dH (aq P0 W0) c.A (.compStart _ 0 (.ref I) (.ref (I+1)) e) (sQ (aq P0 W0) c.A k.E use Q (.ref (I+1)) C) s') _ O λoC h tk hC hg up G=>?_;have st:St 0 h:=W.frame _ _ _ aj λb _ o e=>up _ _ (u _ _ e);have le:s1.heap.objs.size≤I:=fu eI.symm
 have main:=go I oI fp St {s1 with heap:=h,toks:=tk} W hex ah lt.1 lt.2 ⟨oC,hC,by
  have z:=i1.grow (tk:=tk) (new:=((I+2,oC)::own I)++[(I,oI),(I+1,bz [])]) (λb ob e=>up _ _ (u _ _ (aa _ _ e))) (FA (FC ⟨hg,aw le (bx I 2)⟩ λp hp=>⟨(G p hp).1,aw le (G p hp).2⟩) (FC ⟨up _ _ (u _ _ hI),le⟩ (FC ⟨up _ _ Y,aw le (bx I 1)⟩ FN)));rw[jM] at z
  exact z⟩ st
 exact codeAny_compStart_list main (W.self 0 _ _ _ st main)
theorem K8(hi:k.Is m ((D,bz out)::n) s)(hsz:out.length≤dY)(off:∀p∈n,p.1≠D)(nU:D∉k.exA)(h:∀s',k.Is m ((D,bz (out++[u]))::n) s'→Z s'):ay (aq P0 W0) c.A (call (.builtin "list.append") [.ref D,u]) (λ_=>Z) E s:=
 append_at (hsz:=by rw[aV];exact hsz) (hi.get (zH)) λh8 z B=>h _ (hi.but (tk:=s.toks) (λb G hb e=>z.extBut _ _ (λq=>hb (q▸zH)) e) (B.trans (congrArg some (lst_snoc out _))) off nU)
theorem zU(hi:(k.comp m scope cl C E' hkind).Is mC n s)(J:scope.names.lookup x=some .local)(off:∀p∈n,p.1≠C)(nU:C∉k.exA)(h:∀s',(k.comp m scope cl C E' hkind).Is (ci mC x v) n s'→Z s'):ay (aq P0 W0) c.A (de (.Name x px) (fj scope cl C k.env) v) (λ_=>Z) E s:=by
 obtain ⟨oC,hC,i⟩:=hi;refine xa (JB (lookup_relabel_local J) (hC.ns (i.get (zH))) (λh5 G B=>?_) (by refine(?_:(scope.kind == .class||(scope.kind == .module&&_))=false);rw[hkind];rfl));obtain ⟨z,H,u⟩:=ns_obj G;exact h _ ⟨z,u,i.but (λb O hb e=>B.extBut _ _ (λq=>hb (q▸zH)) e) H off nU⟩
noncomputable abbrev TL(k:Cx c sc)(elt:PE)(tests:List PE)(D:Addr):(Shared→Prop)→Shared→Prop:=λZ s=>ay (aq P0 W0) c.A (GQ tests true (BF k.env)) (λok s₃=>if ok=true then ay (aq P0 W0) c.A (eval elt k.env) (λx s₄=>ay (aq P0 W0) c.A (call (.builtin "list.append") [.ref D,x]) (λ_=>Z) k.E s₄) k.E s₃ else Z s₃) k.E s
inductive LY(D:Addr)(Y:Nat→Lo→List Value→Ns→Prop)(j:Nat)(m:Lo):Ns→Prop
 | mk (out:List Value) (n:Ns) (h:Y j m out n):LY D Y j m ((D,bz out)::n)
theorem Al{cd:sR}{x:Str}{px:Pos}{I D:Addr}{fp:List Addr}{nn:Nat}{It:Nat→Value→Prop}{St:Nat→Heap→Prop}{kp:Ns}{R:Result→Shared→Prop}{oI:Obj}{s:Shared}{elt:PE}{tests:List PE}{ys:List Value}(W:y9 P0 W0 c.A I fp [I] nn It St)(hex:∀i h,St i h→∃o,h.get? I=some o)(H:∀b∈fp,b=I∨∃o,(b,o)∈kp)(hI:I∉k.exA)(hD:D∉k.exA)(e:I≠D)(Y:Nat→Lo→List Value→Ns→Prop)(U:Nat→Value→Lo→List Value→Ns→Prop)
  (B:∀j m out n,Y j m out n→(∀p∈kp,p∈n)∧(j<nn→out.length≤dY)∧(∀p∈n,p.1≠I)∧∀p∈n,p.1≠D)
  (hl:∀V:Nat→Shared→Prop,(∀r s,V r s→ay (aq P0 W0) c.A (ky (.ref I)) (λy s₁=>match y with|none=>R (.ok .next) s₁|some v=>ay (aq P0 W0) c.A (de (.Name x px) k.env v) (λ_ s₂=>TL k elt tests D (λs₅=>∃q,q<r∧V q s₅) s₂) k.E s₁) k.E s)→∀r,V r s→dH (aq P0 W0) c.A cd R s)
  (G:∀j v out oI m n s Z,Y j m out n→k.Is m ((I,oI)::(D,bz out)::n) s→(∀m' n' s',U j v m' out n'→k.Is m' ((I,oI)::(D,bz out)::n') s'→Z s')→ay (aq P0 W0) c.A (de (.Name x px) k.env v) (λ_=>Z) k.E s)
  (turn:∀j v out oI m n,j<nn→It j v→U j v m out n→∃b,(∀Q s,k.Is m ((I,oI)::(D,bz out)::n) s→(∀s',k.Is m ((I,oI)::(D,bz out)::n) s'→Q b s')→ay (aq P0 W0) c.A (GQ tests true (BF k.env)) Q k.E s)∧(b=true→∀Q s,k.Is m ((I,oI)::(D,bz out)::n) s→(∀u n2 n' s',(∀p∈(D,bz out)::(I,oI)::n2,p∈n')→Y (j+1) m (out++[u]) n2→k.Is m n' s'→Q u s')→ay (aq P0 W0) c.A (eval elt k.env) Q k.E s)∧(b=false→Y (j+1) m out n))
  (done:∀m out n s,Y nn m out n→k.Is m ((D,bz out)::n) s→R (.ok .next) s) (h0:Y 0 m ys n) (hi:k.Is m ((I,oI)::(D,bz ys)::n) s) (hs:St 0 s.heap):dH (aq P0 W0) c.A cd R s:=
 Jo W hex H hI (LY D Y) (λj m n' h=>by
  obtain ⟨out,n,y⟩:=h
  exact⟨λp hp=>zT ((B _ _ _ _ y).1 p hp),FC (Ne.symm e) (B _ _ _ _ y).2.2.1⟩) hl (λj v oI m n' s Z z hv h i hz=>by
  obtain ⟨out,n,y⟩:=h;refine G j v out oI m n s _ y i λm' n' s5 y' i5=>?_;obtain ⟨b,ht,h1,h0⟩:=turn j v out oI m' n' z hv y';refine ht _ _ i5 λs6 O=>?_
  cases b with
  | true=>
   rw[if_pos rfl];exact h1 rfl _ s6 O λu n2 n7 s7 sub J i7=>K8 (i7.sub sub) ((B _ _ _ _ y).2.1 z) (FC e (B _ _ _ _ J).2.2.2) hD λs8 i8=>hz _ _ _ (.mk _ _ J) (i8.sub (iz [1,0] 2 rfl))
  | false=>exact hz _ _ _ (.mk _ _ (h0 rfl)) O) (λm n' s h i=>by
  obtain ⟨out,n,y⟩:=h
  exact done m out n s y i) (.mk _ _ h0) hi hs
theorem xW{ex:List Addr}{z:Addr}{n:Nat}(h:∀a∈ex,@aP Nat _ a z):z+n∉ex:=λq=>c8 z (aK (bx z n) (h _ q))
theorem Kw(h:∀a∈ex,@aP Nat _ a z):z∉ex++[z+2]:=λq=>(aC.mp q).elim (λq=>c8 z (h _ q)) λq=>aB (eA (oY 1)) (aA.mp q)
theorem Kx{ex:List Addr}{z:Addr}(h:∀a∈ex,@aP Nat _ a z):z+1∉ex++[z+2]:=λq=>(aC.mp q).elim (λq=>xW (n:=1) h q) λq=>aB (aJ (z+1)) (aA.mp q)
structure CY(C I D:Addr)(J:Nat→List Value→Ns→Prop)(A:Prop)(j:Nat)(out:List Value)(n:Ns):Prop where
 a:A
 off:Off3 C I D n
 j:J j out n
theorem Qc(h:∀p∈n,@aP Nat _ p.1 z):Off3 (z+2) z (z+1) n:=λp hp=>⟨MS (h p hp),aB (h p hp),PO (h p hp)⟩
theorem nU{z:Addr}{ex:List Addr}(h:∀a∈ex,@aP Nat _ a z):∀a∈ex,a≠z+2∧a≠z∧a≠z+1:=λa hp=>⟨MS (h a hp),aB (h a hp),PO (h a hp)⟩
theorem NU:z+2≠z:=aF (eA (oY 1))
theorem Jg:z+2≠z+1:=aF (aJ _)
theorem MO:z≠z+1:=aB (aJ _)
theorem Iw{cd:sR}{R:Result→Shared→Prop}{elt:PE}{x:Str}{px:Pos}{tests:List PE}{scope:Scope}{cl:List (Str×Addr)}{EE:VP}{hkind:scope.kind=.function}{nn:Nat}{It:Nat→Value→Prop}{kp:Ns}{J:Nat→List Value→Ns→Prop}{P:Value→Ns→Prop}{I:Addr}{fp:List Addr}{St:Nat→Heap→Prop}{oI:Obj}{s:Shared}(h:ww k m n elt x tests scope cl hkind nn It kp J P)(hx:scope.names.lookup x=some .local)(W:y9 P0 W0 c.A I fp [I] nn It St)(hex:∀i h,St i h→∃o,h.get? I=some o)(O:∀b∈fp,b=I∨∃o,(b,o)∈kp)(lt:∀p∈n,@aP Nat _ p.1 I)(z:∀a∈k.exA,@aP Nat _ a I)
  (hl:∀V:Nat→Shared→Prop,(∀r s,V r s→ay (aq P0 W0) c.A (ky (.ref I)) (λy s₁=>match y with|none=>R (.ok .next) s₁|some v=>ay (aq P0 W0) c.A (de (.Name x px) (k.comp m scope cl (I+2) EE hkind).env v) (λ_ s₂=>TL (k.comp m scope cl (I+2) EE hkind) elt tests (I+1) (λs₅=>∃q,q<r∧V q s₅) s₂) (k.comp m scope cl (I+2) EE hkind).E s₁) (k.comp m scope cl (I+2) EE hkind).E s)→∀r,V r s→dH (aq P0 W0) c.A cd R s)
  (fin:∀out n s mC,J nn out n→Off3 (I+2) I (I+1) n→(k.comp m scope cl (I+2) EE hkind).Is mC ((I+1,bz out)::n) s→R (.ok .next) s)
  (hi:(k.comp m scope cl (I+2) EE hkind).Is (λ_=>none) ((I,oI)::(I+1,bz [])::n) s) (hs:St 0 s.heap):dH (aq P0 W0) c.A cd R s:=
 Al W hex O (Kw z) (Kx z) MO (λj _ out n=>CY (I+2) I (I+1) J True j out n) (λj v m out n=>CY (I+2) I (I+1) J (m x=some v) j out n)
  (λj m out n y=>⟨(h.hkp _ _ _ y.j).1,λG=>aw (h.hkp _ _ _ y.j).2 (aw (aL G) h.hsz),λp hp=>(y.off p hp).2.1,λp hp=>(y.off p hp).2.2⟩)
  hl
  (λj v out oI m n s Z y i hz=>zU i hx (FC (Ne.symm NU) (FC (Ne.symm Jg) λp hp=>(y.off p hp).1)) (xW z) λs5 i5=>hz _ _ s5 ⟨if_pos rfl,y.off,y.j⟩ i5)
  (λj v out oI m n G hv y=>by
   obtain ⟨b,ht,h1,h0⟩:=h.turn j v out n _ I _ oI _ m G hv y.j y.a y.off NU Jg MO lt (nU z)
   exact⟨b,ht,λe Q s i hq=>(h1 e).run Q s i λu n7 Y hP i7=>by
    obtain ⟨n2,H,B,U⟩:=hP
    exact hq u n2 n7 Y (λp hp=>H p (iz [1,0] 2 rfl p hp)) ⟨trivial,B,U⟩ i7,λe=>⟨trivial,y.off,h0 e⟩⟩)
  (λmC out n s y i=>fin out n s mC y.j y.off i) ⟨trivial,Qc lt,h.hJ⟩ hi hs
theorem yA{elt iter:PE}{x:Str}{px:Pos}{tests:List PE}{scope:Scope}{pos O:Pos}{cl:List (Str×Addr)}{P:Value→Ns→Prop}{PS:Value→Ns→Shared→Prop}{use:Option (Value→M7 Unit)}{Q:VP}{s:Shared}(hi:k.Is m n s)(hkind:scope.kind=.function)(he:JA k m n iter PS)
  (h:∀v n1 s1,PS v n1 s1→k.Is m n1 s1→∃nn It kp J,IM k v s1 nn It kp∧ww k m n1 elt x tests scope cl hkind nn It kp J P)
  (fin:∀D n' C oC mC s4,P (.ref D) n'→NsObj oC mC→k.Is m ((C,oC)::n') s4→(∀p∈n',p.1≠C)→C∉k.exA→sQ (aq P0 W0) c.A k.E use Q (.ref D) C (.ok .next) s4)
  (B:fy scope k.env=ck cl) (G:∀y∈scope.names,y.2≠.cell) (u:∀y∈scope.names,y.2=.local→scope.names.lookup y.1=some .local) (hx:scope.names.lookup x=some .local) (hs:∀z,bW iter k.env z=ck z):
  ay (aq P0 W0) c.A (Gm (.ListComp elt [⟨.Name x px,iter,tests,0⟩] scope pos) scope k.env O (newList []) false (eval iter k.env) use) Q k.E s:=
 Ak (cl':=λ_=>cl) (own:=λ_=>[]) hi hkind he (λz=>O0 G hkind) (λv n1 s1 hp i1=>by
  obtain ⟨nn,It,kp,J,py,H⟩:=h v n1 s1 hp i1
  exact⟨nn,It,kp,py,λI oI fp St s W hex Y lt U hi st=>Iw (EE:=jI (aq P0 W0) c.A (fj scope cl (I+2) k.env) λe s'=>sQ (aq P0 W0) c.A k.E use Q (.ref (I+1)) (I+2) (.error e) s') H hx W hex Y lt U (λV hV r=>IV V hV r) (λout n s mC j off i=>by
   obtain ⟨oC,hC,i⟩:=i
   exact fin _ _ _ oC mC _ (H.done out n _ j (λp hp=>aW (lt p hp)) λp hp=>(off p hp).2.2) hC i (FC (Ne.symm Jg) λp hp=>(off p hp).1) (xW U)) hi st⟩) B u hs
theorem nC{elt iter:PE}{x:Str}{px:Pos}{tests:List PE}{scope:Scope}{pos:Pos}{cl:List (Str×Addr)}{P:Value→Ns→Prop}{PS:Value→Ns→Shared→Prop}(hkind:scope.kind=.function)(he:JA k m n iter PS)
  (h:∀v n1 s1,PS v n1 s1→k.Is m n1 s1→∃nn It kp J,IM k v s1 nn It kp∧ww k m n1 elt x tests scope cl hkind nn It kp J P)
  (B:autoParam (fy scope k.env=ck cl) zAa) (G:autoParam (∀y∈scope.names,y.2≠.cell) zAd) (u:autoParam (∀y∈scope.names,y.2=.local→scope.names.lookup y.1=some .local) zAd) (Y:autoParam (scope.names.lookup x=some .local) zAa) (hs:autoParam (∀z,bW iter k.env z=ck z) zAb):
  Er k m n (.ListComp elt [⟨.Name x px,iter,tests,0⟩] scope pos) P:=by
 refine⟨λQ s hi hq=>?_⟩;rw[Gl];refine yA hi hkind he h (λD n' C oC mC U hp ho O off nU=>?_) B G u Y hs;exact(c9 mC (ho.ns (O.get (zH))) (λh5 H=>hq _ _ _ hp (O.drop (tk:=U.toks) (λb ob hb e=>H.extBut _ _ (by simpa using hb:b≠C) e) off nU)))
theorem ru{elt iter:PE}{x y:Str}{px py B:Pos}{tests:List PE}{scope:Scope}{pos:Pos}{cl:List (Str×Addr)}{P:Value→Ns→Prop}{PS:Value→Ns→Shared→Prop}{R:Re}{rest:List Stmt}(hkind:scope.kind=.function)(he:JA c.cx m n iter PS)
  (h:∀v n1 s1,PS v n1 s1→c.cx.Is m n1 s1→∃nn It kp J,IM c.cx v s1 nn It kp∧ww c.cx m n1 elt x tests scope cl hkind nn It kp J P) (hr:∀v n',P v n'→cK c (ci m y v) n' rest R)
  (O:autoParam (f0 (.ListComp elt [⟨.Name x px,iter,tests,0⟩] scope pos) (some (.Name y py)) B.line c.env=ck true) zAa)
  (G:autoParam (fy scope c.env=ck cl) zAa) (H:autoParam (∀y∈scope.names,y.2≠.cell) zAd) (u:autoParam (∀y∈scope.names,y.2=.local→scope.names.lookup y.1=some .local) zAd) (hx:autoParam (scope.names.lookup x=some .local) zAa) (hy:autoParam (c.env.kindOf y=some .local) zAa) (hs:autoParam (∀z,bW iter c.env z=ck z) zAb):
  cK c m n (.Assign [.Name y py] (.ListComp elt [⟨.Name x px,iter,tests,0⟩] scope pos) B::rest) R:=by
 refine bK ⟨λQ s hi hq=>?_⟩;rw[exec_Assign_Name_used _ _ _ _ O];refine af (gW (af ?_));refine af (cg (yA (k:=c.cx) (Q:=λ_ s'=>Q .next s') hi hkind he h (λD n' C oC mC s4 hp ho Y off nU=>?_) G H u hx hs) (λ_ s' hq=>ag (ag hq)) λ_ _ e=>e);have z:=Y.at.2 (C,oC) (zH);have aa:=z.1;refine assign_Name (dm (c:=c) Y (λs5 i5=>?_) hy);exact(c9 mC (ho.ns (i5.at.2 (C,oC) (zH)).1) (λh6 U=>hq .next _ _ _ (hr _ _ hp) (Cx.Is.drop (k:=c.cx) (tk:=s5.toks) i5 (λb ob hb e=>U.extBut _ _ (by simpa using hb:b≠C) e) off nU)))
end
section
variable {cs:Scope}{c:Fm W0 cs}{sc:Scope}{k:Cx c sc}{m:Lo}{n:Ns}
theorem jA{r:Addr}{nn:Nat}{t u v:Tok}{s1:Shared}(hr:PySem.IsRange s1.heap r 0 (nn:Int) 1 t u v)(B:dL 0 (nn:Int) 1=true):IM k (.ref r) s1 nn (λi v=>∃t,v=.int (i:Int) t) []:=by
 refine⟨λQ2 h=>?_⟩;refine wpAny_pyIter_range hr B ?_
 have rs:lI 0 (nn:Int) 1=(nn:Int):=by rw[pX];exact nA (cS [↑(((nn:Int)-0).toNat),nn] 1 Z0 Z1 1 Z0 (.s Z1 Y0) rfl (iZ (cS [nn] 1 Y0 (.s Z0 Y0) 1 Y0 Z0 rfl j0))) (cS [nn,↑(((nn:Int)-0).toNat)] 1 Z0 Z1 1 (.s Z0 Y0) Z1 rfl tq)
 have W:=range_walks (prog:=P0) (w:=W0) (A:=c.A) (I:=s1.heap.objs.size) rfl 0 nn;rw[rs];refine h s1.heap.objs.size _ _ _ [s1.heap.objs.size] _ {W with item:=λi s Q E hi st hQ=>W.item i s Q E hi st λv h' tk hP=>hQ v h' tk (by refine cp hP λt z=>?_;try clear hP;subst z;exact⟨t,by rw[fO]⟩)} (λi h st=>⟨_,st⟩) (λb o e=>aG _ e) rfl (gk ..) (a9 _ rfl) ?_ (λb hb=>.inl (by simpa using hb));simpa using a9 s1.heap rfl
theorem uj{l:Addr}{vs:List Value}{ep:Nat}{s1:Shared}(hi:k.Is m n s1)(hl:(l,listOf vs.toArray ep)∈n):IM k (.ref l) s1 vs.length (λi v=>vs[i]?=some v) [(l,listOf vs.toArray ep)]:=by
 refine⟨λQ2 h=>?_⟩;have G:=hi.get hl
 have z:s1.heap.IsList l vs.toArray:=(cZ _ G rfl ⟨ep,rfl⟩)
 have B:@aP Nat _ l s1.heap.objs.size:=bM G;refine kx z ?_;have W:=sr (prog:=P0) (w:=W0) (A:=c.A) rfl s1.heap.objs.size l (λe=>by have:@Eq Nat l s1.heap.objs.size:=e;exact QM B this) vs.toArray
 have e1:vs.toArray.size=vs.length:=by simp
 rw[e1] at W;refine h s1.heap.objs.size _ _ _ [s1.heap.objs.size,l] _ {W with item:=λi s Q E hi st hQ=>W.item i s Q E hi st λv h' tk hP=>hQ v h' tk (by simpa using hP)} (λi h st=>?_) (λb o e=>aG _ e) rfl (gk ..) (a9 _ rfl) ⟨?_,?_⟩ (λb hb=>?_)
 .refine b7 st λu _=>?_
  try clear st
  refine fK u λo ho _=>?_
  try clear u
  exact⟨o,ho⟩
 .exact(cZ _ (a9 _ rfl) rfl rfl)
 .exact(cZ _ (aG _ G) rfl ⟨ep,rfl⟩)
 .simp only[ak,bT,or_false] at hb
  rcases hb with rfl|rfl
  .exact .inl rfl
  .exact .inr ⟨_,zH⟩
theorem jb(h:IS k m n e a b):JA k m n e (λv n1 s1=>n1=n∧∃r t u z,v=.ref r∧PySem.IsRange s1.heap r a b 1 t u z):=
 ⟨λQ s hi hq=>h.run Q s hi λr t u v s' B hr=>hq _ _ _ ⟨rfl,r,t,u,v,rfl,hr⟩ B⟩
theorem sj{e:PE}{P:Value→Ns→Prop}(h:Er k m n e P):JA k m n e (λv n1 _=>P v n1):=⟨λQ s hi hq=>h.run Q s hi λv n' s' hp u=>hq _ _ _ hp u⟩
theorem iL(h:Ev k m n e a):Er k m n e (λv n1=>a.den v∧n1=n):=⟨λQ s hi hq=>h.run Q s hi λv s' hv u=>hq _ _ _ ⟨hv,rfl⟩ u⟩
theorem fx{e:PE}{P P':Value→Ns→Prop}(h:Er k m n e P)(hp:∀v n',P v n'→P' v n'):Er k m n e P':=⟨λQ s hi hq=>h.run Q s hi λv n' s' p u=>hq _ _ _ (hp v n' p) u⟩
theorem Ag{e:PE}{n':Ns}{P:Value→Ns→Prop}(h:Er k m n' e P)(sub:∀p∈n',p∈n):Er k m n e P:=⟨λQ s hi hq=>h.run Q s (hi.sub sub) hq⟩
theorem dG{R:Re}{x:Str}{u pos:Pos}{e:PE}{rest:List Stmt}{P:Value→Ns→Prop}(he:Er c.cx m n e P)(h:∀v n',P v n'→cK c (ci m x v) n' rest R)
  (hs:autoParam (f0 e (some (.Name x u)) pos.line c.env=ck false) zAa) (z:autoParam (c.env.kindOf x=some .local) zAa):cK c m n (.Assign [.Name x u] e pos::rest) R:=
 bK ⟨λ_ s hi hq=>gO (he.run _ s hi λv n' s1 hv h1=>dm h1 (λs2 h2=>hq .next _ _ _ (h v n' hv) h2) z) hs⟩
theorem H7{R e:Re}{st:Stmt}(h:Ex c m n st R)(hr:∀f m' n',R f m' n'→e f m' n'):Ex c m n st e:=⟨λQ s hi hq=>h.run Q s hi λf m' n' s' r u=>hq _ _ _ _ (hr _ _ _ r) u⟩
theorem kZ(h:cK c m n sts R)(hr:∀f m' n',R f m' n'→u f m' n'):cK c m n sts u:=⟨λQ s hi hq=>h.run Q s hi λf m' n' s' r e=>hq _ _ _ _ (hr _ _ _ r) e⟩
theorem pg(h:Q true s):ay (aq P0 W0) c.A (GQ [] true (BF env)) Q E' s:=ag h
theorem wE(h:Tw k m n ct (eval ct k.env) b)(Q:Bool→Shared→Prop)(s:Shared)(hi:k.Is m n s)(hq:∀s',k.Is m n s'→Q b s'):ay (aq P0 W0) c.A (GQ [ct] true (BF k.env)) Q k.E s:=wpAny_tests_one (h.run _ s hi hq)
end
noncomputable abbrev ql:Obj:={cls:=.type "cell",data:=.cell none}
theorem zI(z:∀a,fQ a scope.names cl=(x,a)::cl)(e:∀h,GG h scope.names=h.push ql)
  (h:Q (newEnv scope s.heap.objs.size globals ((x,s.heap.objs.size+1)::cl) qual none .none (some env) builtinsNs) {s with heap:=(s.heap.push {cls:=.type "dict",data:=.dict #[]}).push ql}):
  ay M A (newFunctionEnv scope globals cl [] qual none .none (some env)) Q E s:=by
 refine af (Mn ?_);refine af (wpAny_layCells _ (λname kind B=>by cases u:kind==NameKind.cell<;>simp [u]) _ _ _ _ ?_);rw[z,e];refine af ?_;rw[List.forIn_nil];refine ag (ag ?_);rw[gk];exact h
section
variable {cs:Scope}{c:Fm W0 cs}{sc:Scope}{k:Cx c sc}{m:Lo}{n:Ns}
noncomputable def IP(C K I D:Addr)(n:Ns):Prop:=∀p∈n,p.1≠C∧p.1≠K∧p.1≠I∧p.1≠D
inductive Px(J:Nat→List Value→Ns→Prop)(C K I D:Addr)(oK oI:Obj)(out:List Value)(i:Nat)(v:Value)(n':Ns):Prop
 | mk (n2:Ns) (h1:∀p∈(K,oK)::(I,oI)::(D,bz out)::n2,p∈n') (h2:IP C K I D n2) (h3:J i (out++[v]) n2)
structure Au(k:Cx c sc)(m:Lo)(n:Ns)(elt:PE)(x:Str)(tests:List PE)(scope:Scope)(cl:List (Str×Addr))(hkind:scope.kind=.function)(nn:Nat)(It:Nat→Value→Prop)(kp:Ns)(J:Nat→List Value→Ns→Prop)(P:Value→Ns→Prop):Prop where
 hJ:J 0 [] n
 hkp:∀i out n1,J i out n1→(∀p∈kp,p∈n1)∧out.length≤i
 turn:∀i v out n1 (C K I D:Addr) (oK oI:Obj) (E':VP) (mC:Lo),i<nn→It i v→J i out n1→oK.data=.cell (some v)→IP C K I D n1→C≠I→C≠D→I≠D→K≠C→K≠I→K≠D→(∀p∈n,@aP Nat _ p.1 I)→(∀a∈k.exA,a≠C∧a≠I∧a≠D)→
   ∃b,(∀Q s,(k.comp m scope ((x,K)::cl) C E' hkind).Is mC ((K,oK)::(I,oI)::(D,bz out)::n1) s→(∀s',(k.comp m scope ((x,K)::cl) C E' hkind).Is mC ((K,oK)::(I,oI)::(D,bz out)::n1) s'→Q b s')→ay (aq P0 W0) c.A (GQ tests true (BF (fj scope ((x,K)::cl) C k.env))) Q E' s)∧
    (b=true→Er (k.comp m scope ((x,K)::cl) C E' hkind) mC ((K,oK)::(I,oI)::(D,bz out)::n1) elt (Px J C K I D oK oI out (i+1)))∧(b=false→J (i+1) out n1)
 done:∀out n1 D,J nn out n1→(∀p∈n,@aP Nat _ p.1 D)→(∀p∈n1,p.1≠D)→P (.ref D) ((D,bz out)::n1)
 hsz:nn≤dY
theorem OZ(B:∀a,fQ a scope.names cl=(x,a)::cl)(u:∀h,GG h scope.names=h.push ql):Ml k scope cl ((x,z+3)::cl) [(z+3,ql)] z:=
 ⟨λG s e h=>zI B u (by
  have sz:(s.heap.push {cls:=.type "dict",data:=.dict #[]}).objs.size=z+3:=(gk ..).trans (congrArg (· + 1) e);have h0:=a9 s.heap (o:={cls:=.type "dict",data:=.dict #[]}) rfl;have h1:=a9 (s.heap.push {cls:=.type "dict",data:=.dict #[]}) (o:=ql) rfl;rw[sz] at h1
  have hC:NsObj {cls:=.type "dict",dict:=none,data:=.dict #[]} (λ_=>none):=by
   obtain ⟨o,es,ep,e,hd,r⟩:=Heap.Ns.new s.heap (.type "dict");cases (a9 s.heap (o:={cls:=.type "dict",data:=.dict #[]}) rfl).symm.trans e;exact⟨es,ep,hd,r⟩
  refine(?_:G (fj scope ((x,s.heap.objs.size+1)::cl) s.heap.objs.size k.env) s.heap.objs.size _);rw[e] at h0 ⊢
  exact h _ _ s.toks hC (aG _ h0) (λb o e=>aG _ (aG _ e)) (FC ⟨h1,bx z 3⟩ FN))⟩
theorem HO{scope:Scope}{cl:List (Str×Addr)}{C K:Addr}{E' E:VP}{hkind:scope.kind=.function}{x:Str}{px:Pos}{v:Value}{O:Option Value}{oK:Obj}{mC:Lo}{s:Shared}{Z:Shared→Prop}(hi:(k.comp m scope ((x,K)::cl) C E' hkind).Is mC ((K,oK)::n) s)(hd:oK.data=.cell O)(U:(rG scope k.env).names.lookup x=some .cell)(off:∀p∈n,p.1≠K)(nU:K∉k.exA++[C])(h:∀u s',u.data=.cell (some v)→(k.comp m scope ((x,K)::cl) C E' hkind).Is mC ((K,u)::n) s'→Z s'):ay (aq P0 W0) c.A (de (.Name x px) (fj scope ((x,K)::cl) C k.env) v) (λ_=>Z) E s:=
 xa (wpAny_storeName_cell (c:=K) (by simpa [fj,rG] using hkind) U (by refine(?_:List.lookup x ((x,K)::cl)=some K);simp [List.lookup_cons]) ⟨oK,hi.get (zH),hd⟩ (λh5 H G=>by
  obtain ⟨B,J,z⟩:=H
  exact h B _ z (hi.but (tk:=s.toks) (λb Y hb e=>G.extBut _ _ (λq=>hb (q▸zH)) e) J off nU)))
theorem Qs(h:∀a∈ex,@aP Nat _ a z):z+3∉ex++[z+2]:=λq=>(aC.mp q).elim (λq=>xW (n:=3) h q) λq=>aF (aJ (z+2)) (aA.mp q)
inductive YC(C K I D:Addr)(J:Nat→List Value→Ns→Prop)(A:Obj→Prop)(j:Nat)(out:List Value):Ns→Prop
 | mk (oK:Obj) (n:Ns) (a:A oK) (off:IP C K I D n) (h:J j out n):YC C K I D J A j out ((K,oK)::n)
theorem n3{z n:Nat}(h:n≤2):z+3≠z+n:=aF (Nat.add_lt_add_left (JF h) z)
theorem FE{cd:sR}{R:Result→Shared→Prop}{elt:PE}{x:Str}{px:Pos}{tests:List PE}{scope:Scope}{cl:List (Str×Addr)}{EE:VP}{hkind:scope.kind=.function}{nn:Nat}{It:Nat→Value→Prop}{kp:Ns}{J:Nat→List Value→Ns→Prop}{P:Value→Ns→Prop}{I:Addr}{fp:List Addr}{St:Nat→Heap→Prop}{oI:Obj}{s:Shared}(h:Au k m n elt x tests scope cl hkind nn It kp J P)(hx:(rG scope k.env).names.lookup x=some .cell)(W:y9 P0 W0 c.A I fp [I] nn It St)(hex:∀i h,St i h→∃o,h.get? I=some o)(O:∀b∈fp,b=I∨∃o,(b,o)∈kp)(lt:∀p∈n,@aP Nat _ p.1 I)(z:∀a∈k.exA,@aP Nat _ a I)
  (hl:∀V:Nat→Shared→Prop,(∀r s,V r s→ay (aq P0 W0) c.A (ky (.ref I)) (λy s₁=>match y with|none=>R (.ok .next) s₁|some v=>ay (aq P0 W0) c.A (de (.Name x px) (k.comp m scope ((x,I+3)::cl) (I+2) EE hkind).env v) (λ_ s₂=>TL (k.comp m scope ((x,I+3)::cl) (I+2) EE hkind) elt tests (I+1) (λs₅=>∃q,q<r∧V q s₅) s₂) (k.comp m scope ((x,I+3)::cl) (I+2) EE hkind).E s₁) (k.comp m scope ((x,I+3)::cl) (I+2) EE hkind).E s)→∀r,V r s→dH (aq P0 W0) c.A cd R s)
  (fin:∀out n s mC oK,J nn out n→IP (I+2) (I+3) I (I+1) n→(k.comp m scope ((x,I+3)::cl) (I+2) EE hkind).Is mC ((I+1,bz out)::(I+3,oK)::n) s→R (.ok .next) s)
  (hi:(k.comp m scope ((x,I+3)::cl) (I+2) EE hkind).Is (λ_=>none) ((I+3,ql)::(I,oI)::(I+1,bz [])::n) s) (hs:St 0 s.heap):dH (aq P0 W0) c.A cd R s:=
 Al W hex O (Kw z) (Kx z) MO (λj _ out n=>YC (I+2) (I+3) I (I+1) J (λo=>∃v,o.data=.cell v) j out n) (λj v _ out n=>YC (I+2) (I+3) I (I+1) J (λo=>o.data=.cell (some v)) j out n)
  (λj m out n y=>by
   obtain ⟨oK,n,_,off,j1⟩:=y
   exact⟨λp hp=>zT ((h.hkp _ _ _ j1).1 p hp),λG=>aw (h.hkp _ _ _ j1).2 (aw (aL G) h.hsz),FC (n3 (n:=0) (by decide)) λp hp=>(off p hp).2.2.1,FC (n3 (n:=1) (by decide)) λp hp=>(off p hp).2.2.2⟩)
  hl
  (λj v out oI m n s Z y i hz=>by
   obtain ⟨oK,n,⟨vK,hd⟩,off,j1⟩:=y
   exact HO (i.sub (iz [2,0,1] 3 rfl)) hd hx (FC (Ne.symm (n3 (n:=0) (by decide))) (FC (Ne.symm (n3 (n:=1) (by decide))) λp hp=>(off p hp).2.1)) (Qs z) λoK s5 hd i5=>hz _ _ s5 ⟨oK,n,hd,off,j1⟩ (i5.sub (iz [1,2,0] 3 rfl)))
  (λj v out oI m n G hv y=>by
   obtain ⟨oK,n,hd,off,j1⟩:=y;obtain ⟨b,ht,h1,h0⟩:=h.turn j v out n _ _ I _ oK oI _ m G hv j1 hd off NU Jg MO (n3 (n:=2) (by decide)) (n3 (n:=0) (by decide)) (n3 (n:=1) (by decide)) lt (nU z)
   exact⟨b,λQ s i hq=>ht Q s (i.sub (iz [2,0,1] 3 rfl)) λs' i'=>hq s' (i'.sub (iz [1,2,0] 3 rfl)),λe Q s i hq=>(h1 e).run Q s (i.sub (iz [2,0,1] 3 rfl)) λu n7 Y hP i7=>by
    obtain ⟨n2,H,B,U⟩:=hP
    exact hq u _ n7 Y (λp hp=>H p (iz [2,1,0] 3 rfl p hp)) ⟨oK,n2,⟨_,hd⟩,B,U⟩ i7,λe=>⟨oK,n,⟨_,hd⟩,off,h0 e⟩⟩)
  (λmC out n s y i=>by
   obtain ⟨oK,n,_,off,j1⟩:=y
   exact fin out n s mC oK j1 off i) ⟨ql,n,⟨none,rfl⟩,λp hp=>⟨MS (lt p hp),Sy (lt p hp),aB (lt p hp),PO (lt p hp)⟩,h.hJ⟩ (hi.sub (iz [1,2,0] 3 rfl)) hs
theorem Cs{elt iter:PE}{x:Str}{px:Pos}{tests:List PE}{scope:Scope}{pos G:Pos}{cl:List (Str×Addr)}{P:Value→Ns→Prop}{PS:Value→Ns→Shared→Prop}{use:Option (Value→M7 Unit)}{Q:VP}{s:Shared}(hi:k.Is m n s)(hkind:scope.kind=.function)(he:JA k m n iter PS)
  (h:∀v n1 s1,PS v n1 s1→k.Is m n1 s1→∃nn It kp J,IM k v s1 nn It kp∧Au k m n1 elt x tests scope cl hkind nn It kp J P)
  (fin:∀D n' C oC mC s4,P (.ref D) n'→NsObj oC mC→k.Is m ((C,oC)::n') s4→(∀p∈n',p.1≠C)→C∉k.exA→sQ (aq P0 W0) c.A k.E use Q (.ref D) C (.ok .next) s4)
  (B:fy scope k.env=ck cl) (aa:∀a,fQ a scope.names cl=(x,a)::cl) (U:∀h,GG h scope.names=h.push ql) (u:∀y∈scope.names,y.2=.local→scope.names.lookup y.1=some .local) (hx:(rG scope k.env).names.lookup x=some .cell) (hs:∀z,bW iter k.env z=ck z):
  ay (aq P0 W0) c.A (Gm (.ListComp elt [⟨.Name x px,iter,tests,0⟩] scope pos) scope k.env G (newList []) false (eval iter k.env) use) Q k.E s:=
 Ak (cl':=λz=>(x,z+3)::cl) (own:=λz=>[(z+3,ql)]) hi hkind he (λz=>OZ aa U) (λv n1 s1 hp i1=>by
  obtain ⟨nn,It,kp,J,py,H⟩:=h v n1 s1 hp i1
  exact⟨nn,It,kp,py,λI oI fp St s W hex Y lt O hi st=>FE (EE:=jI (aq P0 W0) c.A (fj scope ((x,I+3)::cl) (I+2) k.env) λe s'=>sQ (aq P0 W0) c.A k.E use Q (.ref (I+1)) (I+2) (.error e) s') H hx W hex Y lt O (λV hV r=>IV V hV r) (λout n s mC oK j off i=>by
   obtain ⟨oC,hC,i⟩:=i
   exact fin _ _ _ oC mC _ (H.done out n _ j (λp hp=>aW (lt p hp)) λp hp=>(off p hp).2.2.2) hC (i.sub (iz [0,1] 3 rfl)) (FC (Ne.symm Jg) λp hp=>(off p hp).1) (xW O)) hi st⟩) B u hs
theorem yp{elt iter:PE}{x:Str}{px:Pos}{tests:List PE}{scope:Scope}{pos:Pos}{cl:List (Str×Addr)}{P:Value→Ns→Prop}{PS:Value→Ns→Shared→Prop}(hkind:scope.kind=.function)(he:JA k m n iter PS)
  (h:∀v n1 s1,PS v n1 s1→k.Is m n1 s1→∃nn It kp J,IM k v s1 nn It kp∧Au k m n1 elt x tests scope cl hkind nn It kp J P)
  (B:autoParam (fy scope k.env=ck cl) zAa) (O:autoParam (∀a,fQ a scope.names cl=(x,a)::cl) zAb) (H:autoParam (∀h,GG h scope.names=h.push ql) zAb) (u:autoParam (∀y∈scope.names,y.2=.local→scope.names.lookup y.1=some .local) zAd) (hx:autoParam ((rG scope k.env).names.lookup x=some .cell) zAa) (hs:autoParam (∀z,bW iter k.env z=ck z) zAb):
  Er k m n (.ListComp elt [⟨.Name x px,iter,tests,0⟩] scope pos) P:=by
 refine⟨λQ s hi hq=>?_⟩;rw[Gl];refine Cs hi hkind he h (λD n' C oC mC Y hp ho U off nU=>?_) B O H u hx hs;exact(c9 mC (ho.ns (U.get (zH))) (λh5 G=>hq _ _ _ hp (U.drop (tk:=Y.toks) (λb ob hb e=>G.extBut _ _ (by simpa using hb:b≠C) e) off nU)))
theorem pF{R:Re}{x:Str}{u pos:Pos}{e:PE}{rest:List Stmt}{P:Value→Ns→Prop}{a:Addr}(he:Er c.cx m n e P)(hc:c.cl.lookup x=some a)
  (h:∀v n',P v n'→∃o g v0,xh a o n' g∧o.data=.cell v0∧∀o':Obj,o'.data=.cell (some v)→cK c m (g o') rest R)
  (hs:autoParam (f0 e (some (.Name x u)) pos.line c.env=ck false) zAa) (B:autoParam (c.env.kindOf x=some .cell) zAa):cK c m n (.Assign [.Name x u] e pos::rest) R:=
 bK ⟨λ_ s hi hq=>gO (he.run _ s hi λv n' s1 hv h1=>by
  refine zG (h v n' hv) λo g v0 U hd hn=>?_;refine storeX_C h1.at.1 h1.at.2 hc U hd (λh' o' F N z=>?_) c.hk B
  exact hq .next _ _ _ (hn o' z) (Fm.Is.to h1 F N)) hs⟩
theorem eH(hc:k.env.cells.lookup x=some a)(hm:(a,o)∈n)(hd:o.data=.cell (some v))(hk:autoParam (k.env.scope.kind=.function) zAa)(e:autoParam (k.env.kindOf x=some .cell) zAa)(hb:autoParam ((x==("__debug__" : Str))=false) zAd):Ev k m n (.Name x pos) (.val v):=
 ⟨λ_ _ hi hq=>CI (wpAny_loadName_cell hk e hc (c9 o (hi.get hm) hd) (hq _ _ rfl hi)) hb⟩
end
section
variable {cs:Scope}{c:Fm W0 cs}{sc:Scope}{k:Cx c sc}{m:Lo}{n:Ns}
theorem qE{pos}(hl:Ev k m n l (.int a))(hr:Ev k m n r (.int b))(h0:0≤b):Ev k m n (.BinOp l .RShift r pos) (.int (a.fdiv (2 ^ b.toNat))):=
 ⟨λ_ s hi hq=>dX (hl.run _ s hi λv s1 hv h1=>hr.run _ s1 h1 λv2 s2 B h2=>by
  refine cp hv λt z=>?_
  try clear hv
  subst z;refine cp B λu e=>?_
  try clear B
  subst e
  exact rshift_int h0 (hq _ _ ⟨_,rfl⟩ h2.toks))⟩
theorem Lb:PR .BitAnd gc:=λ_ _ _ _ _ _ _ _ _ h=>and_int (h _ _)
theorem qG{pos}(hl:Ev k m n l (.int a))(hr:Ev k m n r (.int b)):Ev k m n (.BinOp l .BitAnd r pos) (.int (gc a b)):=Af Lb hl hr
theorem qj(h:Ev k m n e (.val (.int i t))):Ev k m n e (.int i):=⟨λQ s hi hq=>h.run Q s hi λv s' hv u=>hq v s' ⟨t,hv⟩ u⟩
theorem Fn{f e:PE}{pos:Pos}{P P':Value→Ns→Prop}(hf:Ev k m n f (.val (.builtin "len")))(he:Er k m n e P)(hP:∀v n',P v n'→∃(l:Addr) (vs:List Value) (ep:Nat),v=.ref l∧(l,listOf vs.toArray ep)∈n'∧vs.length≤1000∧∀t,P' (.int (vs.length:Nat) t) n')
  (h1:autoParam (CC k.env f [e] pos) zAa) (h2:autoParam (SE k.env e []) zAa):Er k m n (.Call f [e] [] pos) P':=
 ⟨λQ s hi hQ=>gq (hf.run _ s hi λv s1 B i1=>by
  cases B;refine callWith_builtin1 (aI (he.run _ s1 i1 λv2 n' s2 z i2=>bJ ?_) h2) h2;refine Ht (hP _ _ z) λl vs ep u hm hs hp=>?_;subst u;refine call_len_list (cZ _ (i2.get hm) rfl ⟨ep,rfl⟩) (by rw[aV];exact cS [vs.length] 1 (.a Z0 Y1) (.k (2 ^ 63)) 1 Z0 (.k 1000) rfl (d9 hs)) ?_;rw[aV]
  exact hQ _ _ _ (hp (s2.toks+1)) (i2.toks (tk:=s2.toks+1+1))) h1⟩
end
end
section
noncomputable def e0:PE:=.Name PySem.Str.empty ⟨0,0,0,0⟩
noncomputable def rX:PySem.Scope:=⟨.function,[],false,false,[]⟩
universe u
noncomputable def C7:PySem.Stmt:=.Pass ⟨0,0,0,0⟩
noncomputable def sB(s:PySem.Stmt):List Stmt:=@PySem.Stmt.casesOn (λ_=>List Stmt) s (λ_ _ x _ _ _ _ _ _ _=>x) (λ_ _ _ _ _ _ _ _ _ _=>[]) (λ_ _ _ x _ _ _ _ _ _ _=>x) (λ_ _=>[]) (λ_ _=>[]) (λ_ _ _=>[]) (λ_ _ _ _ _ _ _=>[]) (λ_ _ _ _=>[]) (λ_ _ _ _ _=>[]) (λ_ _ x _ _=>x) (λ_ _ _ _ _=>[]) (λ_ x _ _=>x) (λ_ x _ _=>x) (λ_ _ _=>[]) (λ_ _ _=>[]) (λ_ _ _=>[]) (λ_ _ _=>[]) (λ_ _ _ _ _=>[]) (λ_ _ _ _ _=>[]) (λ_ _ _=>[]) (λ_ _=>[]) (λ_ _ _ _=>[]) (λ_ _=>[]) (λ_ _=>[]) (λ_ _=>[]) (λ_=>[]) (λ_=>[]) (λ_=>[])
noncomputable def sO(s:PySem.Stmt):List Stmt:=@PySem.Stmt.casesOn (λ_=>List Stmt) s (λ_ _ _ _ _ _ _ _ _ _=>[]) (λ_ _ _ _ _ _ _ _ _ _=>[]) (λ_ _ _ _ _ _ _ _ _ _ _=>[]) (λ_ _=>[]) (λ_ _=>[]) (λ_ _ _=>[]) (λ_ _ _ _ _ _ _=>[]) (λ_ _ _ _=>[]) (λ_ _ _ _ _=>[]) (λ_ _ _ _ _=>[]) (λ_ _ _ _ _=>[]) (λ_ _ _ _=>[]) (λ_ _ x _=>x) (λ_ _ _=>[]) (λ_ _ _=>[]) (λ_ _ _=>[]) (λ_ _ _=>[]) (λ_ _ _ _ _=>[]) (λ_ _ _ _ _=>[]) (λ_ _ _=>[]) (λ_ _=>[]) (λ_ _ _ _=>[]) (λ_ _=>[]) (λ_ _=>[]) (λ_ _=>[]) (λ_=>[]) (λ_=>[]) (λ_=>[])
noncomputable def sE(s:PySem.Stmt):PE:=@PySem.Stmt.casesOn (λ_=>PE) s (λ_ _ _ _ _ _ _ _ _ _=>e0) (λ_ _ _ _ _ _ _ _ _ _=>e0) (λ_ _ _ _ _ _ _ _ _ _ _=>e0) (λx _=>x.getD e0) (λ_ _=>e0) (λ_ x _=>x) (λ_ _ _ _ _ _ _=>e0) (λ_ _ _ _=>e0) (λ_ _ _ _ _=>e0) (λ_ x _ _ _=>x) (λ_ _ _ _ _=>e0) (λ_ _ _ _=>e0) (λx _ _ _=>x) (λ_ _ _=>e0) (λ_ _ _=>e0) (λ_ _ _=>e0) (λ_ _ _=>e0) (λ_ _ _ _ _=>e0) (λ_ _ _ _ _=>e0) (λ_ _ _=>e0) (λ_ _=>e0) (λ_ _ _ _=>e0) (λ_ _=>e0) (λ_ _=>e0) (λ_ _=>e0) (λ_=>e0) (λ_=>e0) (λ_=>e0)
noncomputable def sS(s:PySem.Stmt):Scope:=@PySem.Stmt.casesOn (λ_=>Scope) s (λ_ _ _ _ _ _ x _ _ _=>x) (λ_ _ _ _ _ _ _ _ _ _=>rX) (λ_ _ _ _ _ _ _ _ _ _ _=>rX) (λ_ _=>rX) (λ_ _=>rX) (λ_ _ _=>rX) (λ_ _ _ _ _ _ _=>rX) (λ_ _ _ _=>rX) (λ_ _ _ _ _=>rX) (λ_ _ _ _ _=>rX) (λ_ _ _ _ _=>rX) (λ_ _ _ _=>rX) (λ_ _ _ _=>rX) (λ_ _ _=>rX) (λ_ _ _=>rX) (λ_ _ _=>rX) (λ_ _ _=>rX) (λ_ _ _ _ _=>rX) (λ_ _ _ _ _=>rX) (λ_ _ _=>rX) (λ_ _=>rX) (λ_ _ _ _=>rX) (λ_ _=>rX) (λ_ _=>rX) (λ_ _=>rX) (λ_=>rX) (λ_=>rX) (λ_=>rX)
noncomputable def eC(s:PE):List PE:=@PySem.Expr.casesOn (λ_=>List PE) s (λ_ _ _=>[]) (λ_ _ _=>[]) (λ_ _ _ _=>[]) (λ_ _ _=>[]) (λ_ _ _ _=>[]) (λ_ _ _ _=>[]) (λ_ _ _=>[]) (λ_ _ _=>[]) (λ_ x _ _=>x.map (·.iter)) (λ_ _ _ _=>[]) (λ_ _ _ _ _=>[]) (λ_ _ _ _=>[]) (λ_ _=>[]) (λ_ _=>[]) (λ_ _=>[]) (λx _ y _=>x::y) (λ_ y x _=>x.map (·.value)++y) (λ_ _ _ _=>[]) (λ_ _=>[]) (λ_ _ _=>[]) (λ_ _ _=>[]) (λx y _=>[x,y]) (λ_ _=>[]) (λ_ _=>[]) (λ_ _=>[]) (λ_ _ _=>[]) (λx _ _ _=>[x.getD e0])
noncomputable def ch(e:PE)(i:Nat):PE:=((eC e)[i]?).getD e0
noncomputable def eL{α:Sort u}(e:PE)(d:α)(f:j8→PE→Scope→Pos→α):α:=@PySem.Expr.casesOn (λ_=>α) e (λ_ _ _=>d) (λ_ _ _=>d) (λ_ _ _ _=>d) (λ_ _ _=>d) f (λ_ _ _ _=>d) (λ_ _ _=>d) (λ_ _ _=>d) (λ_ _ _ _=>d) (λ_ _ _ _=>d) (λ_ _ _ _ _=>d) (λ_ _ _ _=>d) (λ_ _=>d) (λ_ _=>d) (λ_ _=>d) (λ_ _ _ _=>d) (λ_ _ _ _=>d) (λ_ _ _ _=>d) (λ_ _=>d) (λ_ _ _=>d) (λ_ _ _=>d) (λ_ _ _=>d) (λ_ _=>d) (λ_ _=>d) (λ_ _=>d) (λ_ _ _=>d) (λ_ _ _ _=>d)
end
section
open W PyProof Rows
noncomputable def vh(l:List Stmt)(k:Nat):List Stmt:=sB ((l[k]?).getD C7)
noncomputable def tw(l:List Stmt)(k:Nat):Scope:=sS ((l[k]?).getD C7)
noncomputable def HM:List Stmt:=vh P0.main.body 26
noncomputable def lawS:Scope:=tw P0.main.body 26
noncomputable def bp(i:Nat):Stmt:=(HM[i]?).getD C7
noncomputable def bL(L:Addr)(o1 o2 o3 o4 o5:Obj)(ps qs:Array Value):Ns:=[(L+1+1+1+1+1,o5),(L+1+1+1+1,o4),(L+1+1+1,o3),(L+1+1,o2),(L+1,o1),(364,bS ps),(256,bS qs)]
structure LawC(c:Fm W0 lawS):Prop where
 cl:c.cl=fQ (c.L+1) lawS.names []
 hd:c.dp+100<aH
 hu:c.un+1000<cT
 lo:@aP Nat instLTNat 366 c.L
noncomputable def b8(L:Addr)(n:Ns):Prop:=∀p∈n,p.1∉[L+1,L+1+1,L+1+1+1,L+1+1+1+1,L+1+1+1+1+1,364,256]
theorem b8.all(h:b8 L n):(∀p∈n,p.1≠L+1)∧(∀p∈n,p.1≠L+1+1)∧(∀p∈n,p.1≠L+1+1+1)∧(∀p∈n,p.1≠L+1+1+1+1)∧(∀p∈n,p.1≠L+1+1+1+1+1)∧(∀p∈n,p.1≠364)∧(∀p∈n,p.1≠256):=by
 refine(Lh ?_ ?_ ?_ ?_ ?_ ?_ ?_)<;>(intro p hp e;exact h p hp (by rw[e];simp))
theorem b8.add(h:b8 L n)(l:∀p∈bL L o1 o2 o3 o4 o5 ps qs++n,p.1<D):b8 L ((D,o)::n):=by
 intro p hp
 rcases ak.mp hp with rfl|hp
 .intro hm
  have k:∀q∈bL L o1 o2 o3 o4 o5 ps qs,q.1<D:=λq hq=>l q (zL hq);simp only[bL,ak,bT,or_false,forall_eq_or_imp,forall_eq] at k hm;refine BX k λk1 k2 k3 k4 k5 k6 k7=>?_
  try clear k
  rcases hm with e|e|e|e|e|e|e<;>exact absurd e (aF (by assumption))
 .exact h p hp
end
section
noncomputable def bt(c t:Int):Bool:=(c.toNat/2 ^ t.toNat) % 2==1
noncomputable def th(c:Int):List Int:=[0,1,2,3].filter (bt c)
noncomputable def nv(vs:List Int)(t:Int):Int:=vs.getD t.toNat 0
noncomputable def gu(l:List Int):Int:=l.foldl (· + ·) 0
noncomputable def fM(vs:List Int)(c:Int):Int:=gu ((th c).map (nv vs))
noncomputable def qJ(vs:List Int):Nat→Int×Int
 | 0=>(0,0)
 | i+1=>if fM vs i*(gu vs+5*(qJ vs i).2) > (qJ vs i).1*(gu vs+5*((th i).length:Int)) then (fM vs i,((th i).length:Int)) else qJ vs i
noncomputable def fP(f:Int→Bool)(xs:List Int):Nat→Nat→Nat→Nat
 | 0,lo,_=>lo
 | n+1,lo,hi=>if pZ lo hi then (if f (xs.getD ((lo+hi)/2) 0) then fP f xs n ((lo+hi)/2+1) hi else fP f xs n lo ((lo+hi)/2)) else lo
noncomputable def uG(xs:List Int)(i:Nat)(x:Int):List Int:=xs.take i++x::xs.drop i
noncomputable def eh(vs:List Int):Nat→List Int
 | 0=>[]
 | k+1=>uG (eh vs k) (fP (λj=>decide (nv vs j<nv vs k)) (eh vs k) k 0 k) k
noncomputable def dF(vs:List Int):List Int:=(eh vs 4).drop (fP (λj=>!decide (2<nv vs j)) (eh vs 4) 4 0 4)
noncomputable def dc(vs:List Int):Int:=(qJ vs 16).1
noncomputable def sizeOf(vs:List Int):Int:=(qJ vs 16).2
noncomputable def dn(vs:List Int):Int:=gu vs+5*sizeOf vs
noncomputable def jj(vs:List Int):Nat:=fP (λj=>decide (nv vs j*dn vs<5*dc vs)) (eh vs 4) 4 0 4
noncomputable def gr(vs:List Int):Nat:=fP (λj=>!decide (5*dc vs<nv vs j*dn vs)) (eh vs 4) 4 0 4
noncomputable def uD(vs:List Int)(c:Int):List Int:=((eh vs 4).drop (gr vs)++dF vs).filter (λt=>!bt c t)
noncomputable def pD(vs:List Int)(c:Int):List Int:=((eh vs 4).take (jj vs)).filter (bt c)
noncomputable def pW(vs:List Int)(c:Int):Bool:=(uD vs c).isEmpty&&(pD vs c).isEmpty
noncomputable def jm(vs ts:List Int):Int:=gu ([0,1,2,3].map λt=>if t∈ts then 5-nv vs t else nv vs t)
noncomputable def DE(l:List Int):List Int:=[0,1,2,3].filter (λt=>t∈l)
noncomputable def uk(p q:Int×Int):Bool:=decide (p.1<q.1)||(decide (p.1=q.1)&&decide (p.2<q.2))
noncomputable def xP(vs:List Int):List (Int×Int):=[0,1,2,3].map λt=>(nv vs t,-t)
noncomputable def zV:List (Int×Int)→Bool
 | p::q::r=>uk p q&&zV (q::r)
 | _=>true
noncomputable def PN(vs:List Int):Bool:=
 decide (gu vs=0)||(decide (0<dc vs)&&decide (0≤sizeOf vs)&&decide (sizeOf vs≤4)&&decide (2*dc vs≤dn vs) &&
  ((aU 16).all λc=>(pW vs c==decide (dc vs*(gu vs+5*((th c).length:Int))=fM vs c*dn vs))&&decide (fM vs c*dn vs≤dc vs*(gu vs+5*((th c).length:Int))) &&
   (decide (th c=DE (dF vs))||decide (jm vs (dF vs)<jm vs (th c)))) &&
  (decide (gu vs<4)||decide (dn vs<2*gu vs*dc vs)) &&
  zV ((eh vs 4).map λt=>(nv vs t,-t))&&decide (DE (eh vs 4)=[0,1,2,3])&&decide ((eh vs 4).length=4))
end
section
open W PyProof.Rows
noncomputable def fZ(W0:World)(kl:Addr)(newsK:Ns)(KV:Int→Value→Prop):Prop:=
 ∀(gp:Program) (gl:List Sr) (mean:ExcName→Option Value) (mg mb:Lo) (dp un:Nat) (gd:Option (List sR)) (cn:Sr) (cs:Scope) (a:Addr) (ccd:Value) (cl:List (Sr×Addr)) (outer:List Env) (A₀:Around) (base h₀:Heap) (L:Addr) (m:Lo)
  (news:Ns) (s:Shared) (Q E:VP) (t:Int) (tok:Tok),qU A₀ base outer h₀→Fr h₀ L s.heap m→(hd.heap_1 W0.params).In h₀→ba h₀ L s.heap news→Top gp gl mean mg mb h₀→cs.kind=.function→
  dp+3<aH→un+40<cT→(∀p∈newsK,p∈news)→0≤t→t<4→
  (∀(v:Value) (h':Heap) (tk':Nat),KV t v→Fr h₀ L h' m→ba h₀ L h' news→Q v {s with heap:=h',toks:=tk'})→
  ay (aq cF.row.prog W0) (ic dp un gd cn cs L a ccd cl outer) (call (.ref kl) [.int t tok]) Q E s
noncomputable def yK(KV:Int→Value→Prop)(xv:Value)(f:Int→Bool):Prop:=∀(prog:Program) (W0:World) (A:Around) (Q E:VP) (s:Shared) (t:Int) (v:Value),0≤t→t<4→KV t v→Q (.bool (f t)) s→ay (aq prog W0) A (fi .Lt v xv) Q E s
noncomputable def CG(KV:Int→Value→Prop)(xv:Value)(f:Int→Bool):Prop:=∀(prog:Program) (W0:World) (A:Around) (Q E:VP) (s:Shared) (t:Int) (v:Value),0≤t→t<4→KV t v→Q (.bool !(f t)) s→ay (aq prog W0) A (fi .Lt xv v) Q E s
structure BJ(f:Int→Bool)(xs:List Int)(r:Nat)(lo hi:Int):Prop where
 a:0≤lo
 b:lo≤hi
 c:hi≤xs.length
 d:∃k:Nat,hi-lo≤k∧fP f xs k lo.toNat hi.toNat=r
variable {f:Int→Bool}{xs:List Int}{r:Nat}{lo hi:Int}
theorem yH:BJ f xs (fP f xs xs.length 0 xs.length) 0 xs.length:=⟨bZ _,cb _,bZ _,xs.length,by exact Sl (bZ ↑(eE xs)) (bZ 0),rfl⟩
theorem qK(B:BJ f xs r lo hi)(h:lo<hi):lo≤(lo+hi).fdiv 2∧(lo+hi).fdiv 2<hi∧0≤(lo+hi).fdiv 2∧(lo+hi).fdiv 2<xs.length:=by
 have:=B.a;have:=B.c;rw[iM _ (by decide)];exact⟨eQ [lo,(lo+hi)/2,hi] 2 Z0 Z1 1 (.a Z0 Y1) Z2 1 (.a Z0 Z2) (.a (.m 2 Z1) Y1) rfl h OX,⟨eQ [(lo+hi)/2,hi,lo] 2 (.a Z0 Y1) Z1 1 (.a Z2 Y1) Z1 1 (.m 2 Z0) (.a Z2 Z1) rfl h PM,⟨g5 [(lo+hi)/2,lo,hi] 2 Y0 Z0 2 Y0 Z1 1 (.a Z1 Y1) Z2 1 (.a Z1 Z2) (.a (.m 2 Z0) Y1) rfl (‹0≤lo›) h OX,g5 [(lo+hi)/2,xs.length,hi,lo] 2 (.a Z0 Y1) Z1 2 Z2 Z1 1 (.a Z3 Y1) Z2 1 (.m 2 Z0) (.a Z3 Z2) rfl this h PM⟩⟩⟩
theorem Bs(B:BJ f xs r lo hi)(h:lo<hi):∃k:Nat,hi-lo≤(k:Int)+1∧(if f (xs.getD ((lo+hi).fdiv 2).toNat 0) then fP f xs k (((lo+hi).fdiv 2)+1).toNat hi.toNat else fP f xs k lo.toNat ((lo+hi).fdiv 2).toNat)=r:=by
 refine fK B.d λk hk e=>?_;have ha:=B.a
 cases k with
 | zero=>exact(qz (eQ [hi,lo] 1 Y0 (.k (-1)) 1 (.s Z0 Z1) Y0 1 (.a Z1 Y1) Z0 rfl hk h)).elim
 | succ k=>
  refine(c9 k (cS [hi,lo,k] 1 (.s Z0 Z1) (.a Z2 Y1) 1 (.s Z0 Z1) (.a Z2 Y1) rfl hk) ?_);unfold fP at e;rw[if_pos (jz.mpr (Se (eF ha h) h))] at e
  have e1:(lo.toNat+hi.toNat)/2=((lo+hi).fdiv 2).toNat:=by rw[iM _ (by decide)];exact vn (Jj [↑((lo.toNat+hi.toNat)/2),↑(((lo+hi)/2).toNat),lo.toNat,hi.toNat,(lo+hi)/2,lo,hi] 2 Z0 Z1 1 (.m 2 Z0) (.a Z2 Z3) 2 Z4 Z1 1 (.a Z5 Z6) (.a (.m 2 Z4) Y1) 1 Z2 Z5 1 Z3 Z6 rfl Rv tq OX (iZ (cS [lo] 1 Y0 Z0 1 Y0 Z0 rfl ha)) (iZ (eQ [hi,lo] 1 Y0 Z0 1 Y0 Z1 1 (.a Z1 Y1) Z0 rfl ha h))) (Jj [↑(((lo+hi)/2).toNat),↑((lo.toNat+hi.toNat)/2),lo.toNat,hi.toNat,lo,hi,(lo+hi)/2] 2 Z0 Z1 1 (.a Z2 Z3) (.a (.m 2 Z1) Y1) 1 Z4 Z2 1 Z5 Z3 1 (.m 2 Z6) (.a Z4 Z5) 2 Z0 Z6 rfl Sv tq tq PM (iZ (g5 [(lo+hi)/2,lo,hi] 2 Y0 Z0 2 Y0 Z1 1 (.a Z1 Y1) Z2 1 (.a Z1 Z2) (.a (.m 2 Z0) Y1) rfl ha h OX)))
  have e2:((lo+hi).fdiv 2).toNat+1=(((lo+hi).fdiv 2)+1).toNat:=by have:=(qK B h).2.2.1;exact vn (eQ [↑(((lo+hi).fdiv 2).toNat),↑(((lo+hi).fdiv 2+1).toNat),(lo+hi).fdiv 2] 1 (.a Z0 Y1) Z1 1 (.a Z2 Y1) Z1 1 Z0 Z2 rfl tq (iZ (cS [(lo+hi).fdiv 2] 1 Y0 Z0 1 Y0 Z0 rfl this))) (eQ [↑(((lo+hi).fdiv 2+1).toNat),↑(((lo+hi).fdiv 2).toNat),(lo+hi).fdiv 2] 1 Z0 (.a Z1 Y1) 1 Z2 Z1 1 Z0 (.a Z2 Y1) rfl tq (iZ (cS [(lo+hi).fdiv 2] 1 Y0 (.a Z0 Y1) 1 Y0 Z0 rfl this)))
  rw[e1,e2] at e;exact e
theorem FT(B:BJ f xs r lo hi)(h:lo<hi)(hf:f (xs.getD ((lo+hi).fdiv 2).toNat 0)=true):BJ f xs r ((lo+hi).fdiv 2+1) hi:=by
 have m:=qK B h;refine fK (Bs B h) λk hk e=>?_;rw[if_pos hf] at e;exact⟨by exact iV (Qz m.right.right.left),by exact Sm m.right.left,B.c,k,by exact g5 [hi,(lo+hi).fdiv 2,k,lo] 2 (.s Z0 (.a Z1 Y1)) Z2 1 (.s Z0 Z3) (.a Z2 Y1) 1 (.a Z3 Z0) (.a (.m 2 Z1) Y1) 1 Y0 Z2 rfl hk Sw j0,e⟩
theorem Jt(B:BJ f xs r lo hi)(h:lo<hi)(hf:f (xs.getD ((lo+hi).fdiv 2).toNat 0)=false):BJ f xs r lo ((lo+hi).fdiv 2):=by
 have m:=qK B h;refine fK (Bs B h) λk hk e=>?_;rw[if_neg (by rw[hf];decide)] at e;exact⟨B.a,by exact m.left,by exact iV m.right.right.right,k,by exact eQ [(lo+hi).fdiv 2,lo,k,hi] 1 (.s Z0 Z1) Z2 1 (.s Z3 Z1) (.a Z2 Y1) 1 (.a Z0 Y1) Z3 rfl hk m.2.1,e⟩
theorem FV(B:BJ f xs r lo hi)(h:lo<hi):(hi-((lo+hi).fdiv 2+1)).toNat<(hi-lo).toNat:=by have:=qK B h;exact ltN (g5 [↑((hi-((lo+hi).fdiv 2+1)).toNat),↑((hi-lo).toNat),lo,(lo+hi).fdiv 2,hi] 1 (.a Z0 Y1) Z1 1 Z2 Z3 1 (.s Z4 Z2) Z1 1 Z0 (.s Z4 (.a Z3 Y1)) rfl this.1 tq (iZ (cS [hi,(lo+hi).fdiv 2] 1 Y0 (.s Z0 (.a Z1 Y1)) 1 (.a Z1 Y1) Z0 rfl this.2.1)))
theorem FU(B:BJ f xs r lo hi)(h:lo<hi):((lo+hi).fdiv 2-lo).toNat<(hi-lo).toNat:=by have:=qK B h;exact Rm this.left this.right.left
theorem we{i:Int}(h0:0≤i)(h1:i<xs.length):xs.getD i.toNat 0∈xs:=by
 have h:i.toNat<xs.length:=Sf h0 h1;rw[az,ao h];exact bG h
theorem FX(B:BJ f xs r lo hi)(h:¬lo<hi):lo=(r:Int):=by
 refine fK B.d λk hk e=>?_;have ha:=B.a;have hb:=B.b
 have:fP f xs k lo.toNat hi.toNat=lo.toNat:=by
  cases k with
  | zero=>rfl
  | succ k=>
   unfold fP;rw[if_neg (by rw[jz];exact λhh=>(qz (y5 [lo.toNat,hi.toNat,hi,lo] 1 Y0 (.k (-1)) 1 (.a Z0 Y1) Z1 1 Z2 Z3 1 Z3 Z0 1 Z1 Z2 rfl (d9 hh) (PC h) tq (iZ (eQ [hi,lo] 1 Y0 Z0 1 Z1 Z0 1 Y0 Z1 rfl hb ha)))))]
 rw[this] at e;exact nA (eQ [lo,r,lo.toNat] 1 Z0 Z1 1 Z2 Z1 1 Z0 Z2 rfl (vX e) tq) (eQ [r,lo,lo.toNat] 1 Z0 Z1 1 Z0 Z2 1 Z2 Z1 rfl (l9 e) (iZ (cS [lo] 1 Y0 Z0 1 Y0 Z0 rfl ha)))
end
section
open W PyProof.Rows
variable {f:Int→Bool}{xs:List Int}
theorem rB:∀(k lo hi:Nat),lo≤hi→fP f xs k lo hi≤hi
 | 0,lo,hi,h=>h
 | k+1,lo,hi,h=>by
  unfold fP
  by_cases e:pZ lo hi=true
  .rw[if_pos e]
   have e2:=jz.mp e
   split
   .exact rB k _ _ (jX (NY e2))
   .exact aw (rB k _ _ (Oa e2)) (aL (NY e2))
  .rw[if_neg e];exact h
theorem wb(h:au va xs):∀k,au (va.take k) (xs.take k):=by
 induction h with
 | nil=>intro k;simp;exact .nil
 | cons x t _ e=>intro k;cases k with
  | zero=>exact .nil
  | succ k=>exact .cons x t (e k)
theorem wc(h:au va xs):∀k,au (va.drop k) (xs.drop k):=by
 induction h with
 | nil=>intro k;simp;exact .nil
 | cons x t h e=>intro k;cases k with
  | zero=>exact .cons x t h
  | succ k=>exact e k
theorem ya(h:au va xs):va.length=xs.length:=by
 induction h with
 | nil=>rfl
 | cons x t h e=>simp [e]
theorem ES(h:au va xs)(hb:b≤xs.length):au (kl_ins va (b:Int) (.int x tx)) (uG xs b x):=by
 unfold kl_ins uG;rw[if_neg (by exact λhh=>(qz (eQ [b] 1 Y0 (.k (-1)) 1 (.a Z0 Y1) Y0 1 Y0 Z0 rfl hh j0))),bC,ya h,qq hb];exact(wb h b).append (.cons x tx (wc h b))
theorem E3{b:Nat}(h:b≤4):Builtin.List.listFitsIndex (b:Int)=true:=by
 have:b=0∨b=1∨b=2∨b=3∨b=4:=by lia
 rcases this with rfl|rfl|rfl|rfl|rfl<;>rfl
end
section
open W PyProof Rows Spec PySem.Calls
section
variable {cs:Scope}{c:Fm W0 cs}{sc:Scope}{k:Cx c sc}{m:Lo}{n:Ns}
theorem pH(hc:k.env.cells.lookup x=some a)(hm:(a,o)∈n)(hd:o.data=.cell (some v))(hk:autoParam (k.env.scope.kind=.function) zAa)(e:autoParam (k.env.kindOf x=some .free) zAa)(hb:autoParam ((x==("__debug__" : Str))=false) zAd)(hn:autoParam ((x==("__classdict__" : Str))=false) zAd):Ev k m n (.Name x pos) (.val v):=
 ⟨λ_ _ hi hq=>CI (wpAny_loadName_free hk e hc (c9 o (hi.get hm) hd) (hq _ _ rfl hi) hn) hb⟩
theorem uM{e z:PE}{pos}{l:Addr}{va:List Value}{ep:Nat}{j:Int}{x:Value}(hv:Ev k m n e (.val (.ref l)))(hk:Ev k m n z (.int j))(hm:(l,listOf va.toArray ep)∈n)(O:va[j.toNat]?=some x)(h0:0≤j)(hf:j<2 ^ 63)
  (hs:autoParam (∀u,j4 z false (.ref l) (.int j u)=tQ [.ref l,.int j u] (pP (.ref l) (.int j u))) zAg) (U:autoParam (∀r,eU e (.ref l) r=ck ()) zAe):
  Ev k m n (.Subscript e z pos) (.val x):=
 ⟨λ_ s Y hq=>og (hv.run _ s Y λv s1 H J=>hk.run _ s1 J λv2 s2 G h2=>by
  cases H;refine cp G λu B=>?_
  try clear G
  subst B
  exact item_list (cZ _ (h2.get hm) rfl ⟨ep,rfl⟩) h0 hf (by simpa using O) (hq _ _ rfl h2) (hs u) U)⟩
theorem uN{e z:PE}{pos}{l:Addr}{va:List Value}{ep:Nat}{j:Int}{x:UInt64}(hv:Ev k m n e (.val (.ref l)))(hk:Ev k m n z (.int j))(hm:(l,listOf va.toArray ep)∈n)(B:∃t,va[j.toNat]?=some (.float x t))(h0:0≤j)(hf:j<2 ^ 63)
  (hs:autoParam (∀u,j4 z false (.ref l) (.int j u)=tQ [.ref l,.int j u] (pP (.ref l) (.int j u))) zAg) (J:autoParam (∀r,eU e (.ref l) r=ck ()) zAe):
  Ev k m n (.Subscript e z pos) (.flt x):=by
 obtain ⟨t,B⟩:=B;exact⟨λQ s hi hq=>(uM (pos:=pos) hv hk hm B h0 hf hs J).run Q s hi λv s' G H=>hq v s' ⟨t,G⟩ H⟩
theorem kh{pos}(hl:Ev k m n l (.int a))(hr:Ev k m n r (.int b))(hm:IntMulOk a b):Ev k m n (.BinOp l .Mult r pos) (.int (a*b)):=
 ⟨λ_ s hi hq=>dX (hl.run _ s hi λv s1 hv h1=>hr.run _ s1 h1 λv2 s2 B h2=>by
  refine cp hv λt z=>?_
  try clear hv
  subst z;refine cp B λu e=>?_
  try clear B
  subst e
  exact mul_int (hq _ _ ⟨_,rfl⟩ h2.toks) hm)⟩
theorem yi{pos}(hl:Ev k m n l (.int a))(hr:Ev k m n r (.flt x))(hm:a.natAbs<2 ^ 1023):Ev k m n (.BinOp l .Mult r pos) (.flt (fW (bE a) x)):=
 ⟨λ_ s hi hq=>dX (hl.run _ s hi λv s1 hv h1=>hr.run _ s1 h1 λv2 s2 B h2=>by
  refine cp hv λt z=>?_
  try clear hv
  subst z;refine cp B λu e=>?_
  try clear B
  subst e
  exact mul_if_fits hm (hq _ _ ⟨_,rfl⟩ h2.toks))⟩
theorem fL(h:a.natAbs<2 ^ 20):IntMulOk a b:=by mul_fits
end
noncomputable def jq(qual:Str)(oc:Obj):Prop:=∃vs t,oc.data=.fields vs∧vs[1]?=some (.str qual t)
theorem E1{cs:Scope}(m:Lo){n:Ns}{gp:Program}{gl:List Str}{mean:ExcName→Option Value}{mg mb:Lo}{dp un:Nat}{gd:Option (List sR)}{cn:Str}{L a:Addr}{ccd:Value}{cl:List (Str×Addr)}{outer:List Env}{A₀:Around}{base h₀:Heap}{s:Shared}{E:VP}{e:PE}{KV:Value→Prop}{Q:VP}
  (B:qU A₀ base outer h₀) (F:Fr h₀ L s.heap m) (X:(hd.heap_1 W0.params).In h₀) (N:ba h₀ L s.heap n) (T:Top gp gl mean mg mb h₀) (hk:cs.kind=.function)
  (h:∀c:Fm W0 cs,c.cl=cl→∃al,Ev c.cx m n e al∧∀v,al.den v→KV v) (hq:∀(al:Bv) v h' tk,KV v→Fr h₀ L h' m→ba h₀ L h' n→Q v {s with heap:=h',toks:=tk}):
  ay (aq P0 W0) (ic dp un gd cn cs L a ccd cl outer) (eval e (yU cn cs L a ccd cl)) Q E s:=by
 refine wpAny_noRaise ?_;refine fK (h ⟨gp,gl,mean,mg,mb,dp,un,gd,cn,L,a,ccd,cl,outer,A₀,base,h₀,s,_,λ_=>True,B,X,T,hk,.never,λ_ _=>trivial⟩ rfl) λal he hd=>?_;refine he.run Q s ⟨s.heap,s.toks,rfl,F,N⟩ λv s' d i=>?_;obtain ⟨h',tk,rfl,z,u⟩:=i;exact hq al v h' tk (hd v d) z u
theorem nw{kl c':Addr}{oc:Obj}{qual:Str}{params:j8}{body:PE}{scope:Scope}{clos:List (Str×Addr)}{pm G:Value}{newsK:Ns}{KV:Int→Value→Prop}
  (m1:(kl,nF "<lambda>" qual params body scope clos pm c' G)∈newsK) (m2:(c',oc)∈newsK) (hc:jq qual oc)
  (h:∀(c:Fm W0 scope) (m:Lo) (n:Ns) (t:Int) (tok:Tok),c.cl=clos→m (ae "k")=some (.int t tok)→(∀p∈newsK,p∈n)→0≤t→t<4→∃al,Ev c.cx m n body al∧∀v,al.den v→KV t v)
  (hb:autoParam (∀t tok,bindArgs (kla_fn "<lambda>" qual params body scope clos pm (.ref c') G) ⟨[.int t tok],[]⟩=ck [(ae "k",.int t tok)]) zAh)
  (u:autoParam (scope.names.lookup (ae "k")=some .local) zAa) (O:autoParam (scope.isCoroutine=false) zAa) (z:autoParam (scope.isGenerator=false) zAa) (hk:autoParam (scope.kind=.function) zAa) (e:autoParam (∀x∈scope.names,x.2≠.cell) zAd):fZ W0 kl newsK KV:=by
 intro gp gl mean mg mb dp un gd cn cs a ccd cl outer A₀ base h₀ L m news s Q E t tok B F X N T H J hu hm h0 Y hret;refine pU hc λvs tq hc1 hc2=>?_
 try clear hc
 refine ev ?_;refine kla_code B F X N T rfl rfl H (hm _ m1) (codeRec_news N (hm _ m2) hc1 hc2) ?_ (hb t tok) ?_ ?_ O z hk e
 .refine(?_:dp<aH)
  exact C9 J
 .intro y hy
  rw[aA.mp hy];exact u
 intro g' L' h' aa F' N' B' X' T';refine E1 (λy=>([(ae "k",fn t tok)]:List (Str×Value)).reverse.lookup y) B' F' X' N' T' hk (λc U=>h c _ news t tok U (by rfl) hm h0 Y) ?_;intro al v h2 tk2 hv F2 N2;exact tS F2 N2 λF3 N3=>hret _ _ _ hv F3 N3
section
variable {cs:Scope}{c:Fm W0 cs}{m:Lo}{n:Ns}{R:Re}
noncomputable abbrev ri(c:Fm W0 cs):Str:=c.env.qual++"<lambda>"
theorem uP{params:j8}{body:PE}{scope:Scope}{pos:Pos}{clos:List (Str×Addr)}{cd P:Addr}{ps:Array Value}{g:Obj→Ns}(z:fy scope c.env=ck clos)(B:c.ccd=.ref cd)(C:IZ c.h₀ cd P)(U:xh P (bS ps) n g)(ht:dZ ps.toList)(u:nM pos ps.toList=none)(hd:autoParam (CJ params c.env=([],[])) zAa):
  Er c.cx m n (.Lambda params body scope pos) (λv n'=>∃f c' oc G e,v=.ref f∧n'=(f,nF "<lambda>" (ri c) params body scope clos G c' e)::(c',oc)::g (bS (ps++#[jf pos.line,jf pos.col,.ref c']))∧jq (ri c) oc∧(∀q∈n,q.1<c')∧c'<f):=
 ⟨λQ s hi hq=>by
  obtain ⟨h,tk,rfl,F,N⟩:=hi
  exact kla_eval hd (kla_nest F N c.T C B U ht u z λf c' oc vs t e h' tk Y O J d2 H l2=>hq _ _ _ (EV f c' oc _ e rfl rfl ⟨vs,t,J,d2⟩ H l2) ⟨_,_,rfl,Y,O⟩)⟩
theorem Ah{params:j8}{body:PE}{scope:Scope}{pos:Pos}{clos:List (Str×Addr)}{cd P c':Addr}{ps:Array Value}(u:fy scope c.env=ck clos)(z:c.ccd=.ref cd)(C:IZ c.h₀ cd P)(hm:(P,bS ps)∈n)(ht:dZ ps.toList)(hf:nM pos ps.toList=some (.ref c'))(hd:autoParam (CJ params c.env=([],[])) zAa):
  Er c.cx m n (.Lambda params body scope pos) (λv n'=>∃f B e,v=.ref f∧n'=(f,nF "<lambda>" (ri c) params body scope clos B c' e)::n∧(∀q∈n,q.1<f)):=
 ⟨λQ s hi hq=>by
  obtain ⟨h,tk,rfl,F,N⟩:=hi
  exact kla_eval hd (kla_hit F N c.T C z hm ht hf u λf e h' tk J H G=>hq _ _ _ (nW f _ e rfl rfl G) ⟨_,_,rfl,J,H⟩)⟩
theorem uJ(he:IS c.cx m n iter a b)(hk:(b-a).toNat=k)(G:dL a b 1=true)(J:Addr→Nat→Lo→Ns→Prop)(hJ:∀I,(∀p∈n,p.1<I)→J I 0 m n)
  (turn:∀i t B e I o,i<k→(∀p∈n,p.1<I)→J I i B e→cK c (ci B x (.int (a+(i:Int)) t)) ((I,o)::e) body (FR (md c rest R) I o (J I) (i+1)))
  (done:∀I B e,(∀p∈n,p.1<I)→J I k B e→cK c B e rest R) (hx:autoParam (c.env.kindOf x=some .local) zAa) (hs:autoParam (∀z,bW iter c.env z=ck z) zAb):
  cK c m n (.For (.Name x px) iter body [] pos::rest) R:=
 bK ⟨λQ s hi hq=>by
  refine qS (env:=c.env) hi.at.1 (he.run _ s hi λr t u v s' h' hr=>?_) hs c.hE;subst hk;obtain ⟨h1,U,rfl,F1,N1⟩:=h';refine kg (env:=c.env) rfl hr G (pX a b) F1 N1 λI O=>?_;refine qv (env:=c.env) (J I) (hJ I O) (λi t B e o h tk H j _ F N=>?_) (λB e h tk j F N=>hq .next _ _ _ (done I B e O j) ⟨h,tk,rfl,F,N⟩);refine assign_Name (dm (c:=c) ⟨h,tk,rfl,F,N⟩ (λs2 h2=>?_) hx)
  exact(turn i t B e I o H O j).run _ s2 h2 λf m' n' s' r Y=>zY Y (ro h tk rfl) hq r⟩
theorem qD(hc:c.cl.lookup x=some ca)(he:IS c.cx m n iter a b)(hk:(b-a).toNat=k)(G:dL a b 1=true)(J:Addr→Nat→Lo→Ns→Prop)(hJ:∀I,(∀p∈n,p.1<I)→J I 0 m n)
  (turn:∀i t B e I o,i<k→(∀p∈n,p.1<I)→J I i B e→∃oc g v0,xh ca oc ((I,o)::e) g∧oc.data=.cell v0∧∀o':Obj,o'.data=.cell (some (.int (a+(i:Int)) t))→cK c B (g o') body (FR (md c rest R) I o (J I) (i+1)))
  (done:∀I B e,(∀p∈n,p.1<I)→J I k B e→cK c B e rest R) (hx:autoParam (c.env.kindOf x=some .cell) zAa) (hs:autoParam (∀z,bW iter c.env z=ck z) zAb):
  cK c m n (.For (.Name x px) iter body [] pos::rest) R:=
 bK ⟨λQ s hi hq=>by
  refine qS (env:=c.env) hi.at.1 (he.run _ s hi λr t u v s' h' hr=>?_) hs c.hE;subst hk;obtain ⟨h1,aa,rfl,F1,N1⟩:=h';refine kg (env:=c.env) rfl hr G (pX a b) F1 N1 λI Y=>?_;refine qv (env:=c.env) (J I) (hJ I Y) (λi t B e o h tk H j _ F N=>?_) (λB e h tk j F N=>hq .next _ _ _ (done I B e Y j) ⟨h,tk,rfl,F,N⟩);refine zG (turn i t B e I o H Y j) λoc g v0 U hd hn=>?_;refine assign_Name (storeX_C F N hc U hd (λh' o' F' N' O=>?_) c.hk hx)
  exact(hn o' O).run _ _ ⟨h',tk,rfl,F',N'⟩ λf m' n' s' r i'=>zY i' (ro h tk rfl) hq r⟩
end
section
variable {cs:Scope}{c:Fm W0 cs}{sc:Scope}{k:Cx c sc}{m:Lo}{n:Ns}{R:Re}
theorem oU{f e:PE}{id:String}{pos:Pos}{P P':Value→Ns→Prop}(hf:Ev k m n f (.val (.builtin id)))(he:Er k m n e P)
  (hc:∀v n',P v n'→∀(Q:VP) s,k.Is m n' s→(∀v2 n2 s2,P' v2 n2→k.Is m n2 s2→Q v2 s2)→ay (aq P0 W0) c.A (call (.builtin id) [v]) Q k.E s)
  (h1:autoParam (CC k.env f [e] pos) zAa) (h2:autoParam (SE k.env e []) zAa):Er k m n (.Call f [e] [] pos) P':=
 ⟨λQ s hi hQ=>gq (hf.run _ s hi λv s1 z i1=>by
  cases z
  exact callWith_builtin1 (aI (he.run _ s1 i1 λv2 n' s2 u i2=>bJ (hc v2 n' u Q s2 i2 hQ)) h2) h2) h1⟩
theorem yE(hm:(l,listOf vs.toArray ep)∈n)(u:au vs xs)(hi:k.Is m n s)(hq:∀t s2,k.Is m n s2→Q (.int xs.sum t) s2):ay (aq P0 W0) c.A (call (.builtin "sum") [.ref l]) Q k.E s:=by
 have z:=hi.get hm;refine hH (k.opn hi) λm0 ex H F N cl=>?_;exact LSm.sum_ints F N rfl (cZ _ z rfl ⟨ep,rfl⟩) u λh' tk e G B=>hq e _ (cl h' tk n G B)
theorem Ly(hf:Ev k m n f (.val (.builtin "sum")))(he:Ev k m n e (.val (.ref l)))(hm:(l,listOf vs.toArray ep)∈n)(z:au vs xs)
  (h1:autoParam (CC k.env f [e] pos) zAa) (h2:autoParam (SE k.env e []) zAa):Ev k m n (.Call f [e] [] pos) (.int xs.sum):=
 ⟨λQ s hi hQ=>gq (hf.run _ s hi λv s1 B i1=>by
  cases B
  exact callWith_builtin1 (aI (he.run _ s1 i1 λv2 s2 u i2=>bJ (by cases u;exact yE hm z i2 λt G i3=>hQ _ _ ⟨t,rfl⟩ i3)) h2) h2) h1⟩
theorem qF{f e:PE}{pos:Pos}{l:Addr}{vs:List Value}{ep:Nat}(hf:Ev k m n f (.val (.builtin "len")))(he:Ev k m n e (.val (.ref l)))(hm:(l,listOf vs.toArray ep)∈n)(z:vs.length≤1000)
  (h1:autoParam (CC k.env f [e] pos) zAa) (h2:autoParam (SE k.env e []) zAa):Ev k m n (.Call f [e] [] pos) (.int (vs.length:Nat)):=
 ⟨λQ s hi hQ=>gq (hf.run _ s hi λv s1 B i1=>by
  cases B
  exact callWith_builtin1 (aI (he.run _ s1 i1 λv2 s2 u i2=>bJ (by
   cases u;refine call_len_list (cZ _ (i2.get hm) rfl ⟨ep,rfl⟩) (by rw[aV];exact cS [vs.length] 1 (.a Z0 Y1) (.k (2 ^ 63)) 1 Z0 (.k 1000) rfl (d9 z)) ?_;rw[aV]
   exact hQ _ _ ⟨_,rfl⟩ i2.toks)) h2) h2) h1⟩
theorem Fi{f e:PE}{pos:Pos}{P P':Value→Ns→Prop}(hf:Ev k m n f (.val (.builtin "sum")))(he:Er k m n e P)(hP:∀v n',P v n'→∃(l:Addr) (vs:List Value) (xs:List Int) (ep:Nat),v=.ref l∧(l,listOf vs.toArray ep)∈n'∧au vs xs∧∀t,P' (.int xs.sum t) n')
  (h1:autoParam (CC k.env f [e] pos) zAa) (h2:autoParam (SE k.env e []) zAa):Er k m n (.Call f [e] [] pos) P':=
 oU hf he (λv n' p Q s hi hq=>by
  refine Hs (hP v n' p) λl vs xs ep u hm z hp=>?_;subst u
  exact yE hm z hi λt s2 i2=>hq _ _ _ (hp t) i2) h1 h2
theorem uO(h1:Ev k m n e1 a1)(h2:Ev k m n e2 a2)
  (u:∀r,SE k.env e1 r) (e:∀r,SE k.env e2 r)
  (hi:k.Is m n s) (hq:∀v1 v2 s',a1.den v1→a2.den v2→k.Is m n s'→Q [v1,v2] s'):ay (aq P0 W0) c.A (spliced (ff pos (bV [e1,e2] k.env))) Q k.E s:=
 aI (h1.run _ s hi λv1 s1 z i1=>aI (h2.run _ s1 i1 λv2 s2 d2 i2=>bJ (hq v1 v2 s2 z d2 i2)) (e _)) (u _)
theorem sh{e1 e2:PE}{k kk:Nat}{z:List PE}{u e pos:Pos}{rest:List Stmt}{i1 i2:Int}{O J:Str}(h1:Ev c.cx m n e1 (.int i1))(h2:Ev c.cx m n e2 (.int i2))
  (h:∀t1 t2,cK c (ci (ci m J (.int i2 t2)) O (.int i1 t1)) n rest R)
  (hs:autoParam (lV [.Tuple z k u] (.Tuple [e1,e2] kk e) pos.line c.env=ck false) zAa)
  (hw:autoParam (fU [.Tuple z k u] (.Tuple [e1,e2] kk e) c.env=ck (some [O,J])) zAa)
  (q1:autoParam (∀r,SE c.env e1 r) zAb) (q2:autoParam (∀r,SE c.env e2 r) zAb)
  (k1:autoParam (c.env.kindOf O=some .local) zAa) (k2:autoParam (c.env.kindOf J=some .local) zAa):
  cK c m n (.Assign [.Tuple z k u] (.Tuple [e1,e2] kk e) pos::rest) R:=
 bK ⟨λQ s hi hq=>sX (names:=[O,J]) (vM (uO (k:=c.cx) h1 h2 q1 q2 hi λv1 v2 s1 d1 d2 B=>by
  refine cp d1 λt1 H=>?_
  try clear d1
  subst H;refine cp d2 λt2 G=>?_
  try clear d2
  subst G;refine iC B.at.1 B.at.2 (λD h' F' N' hl=>?_) (by decide:(2:Nat)≤dY);have Y:=B.to (tk:=s1.toks) F' N';refine Gp F' N' (is_tup Y (zH)) rfl rfl λh2 F2 N2=>?_;have U:=B.to (tk:=s1.toks) F2 (cm N2 λp hp=>zT hp);refine be (qT (dm U (λs4 i4=>?_) k2));refine be (qT (dm i4 (λs5 i5=>?_) k1))
  exact fz (hq .next _ _ _ (h t1 t2) i5))) hs hw⟩
theorem zZ{B X T hk hE hP}(i:Fm.Fin (cs:=cs) ⟨gp,gl,mean,mg,mb,dp,un,gd,cn,L,a,ccd,cl,outer,A₀,base,h₀,s,E,λs'=>s'.gens=s.gens∧s'.drawn=s.drawn,B,X,T,hk,hE,hP⟩ f m' n' s'):∃h tk,s' = {s with heap:=h,toks:=tk}∧Fr h₀ L h m'∧ba h₀ L h n':=by
 cases f with
 | ret v=>
  refine xU i λe1 u F N=>?_
  try clear i
  refine b7 u λe2 e3=>?_
  try clear u
  cases s';dsimp only at e1 e2 e3;subst e1 e2 e3;exact(ir _ _ rfl F N)
 | next=>obtain ⟨h,tk,e,F,N⟩:=i;exact(ir h tk e F N)
 | brk=>obtain ⟨h,tk,e,F,N⟩:=i;exact(ir h tk e F N)
 | cont=>obtain ⟨h,tk,e,F,N⟩:=i;exact(ir h tk e F N)
theorem wj
  (B:qU A₀ base outer h₀) (F:Fr h₀ L s.heap m) (X:(hd.heap_1 W0.params).In h₀) (N:ba h₀ L s.heap n) (T:Top gp gl mean mg mb h₀) (hk:cs.kind=.function)
  (hE:lG (aq P0 W0) (ic dp un gd cn cs L a ccd cl outer) (yU cn cs L a ccd cl) E) (R:Re)
  (h:∀c:Fm W0 cs,c.dp=dp→c.un=un→c.cl=cl→c.L=L→c.ccd=ccd→c.h₀=h₀→cK c m n body R)
  (hq:∀f m' n' h' tk,R f m' n'→Fr h₀ L h' m'→ba h₀ L h' n'→Q f {s with heap:=h',toks:=tk}):
  ay (aq P0 W0) (ic dp un gd cn cs L a ccd cl outer) (kz body (yU cn cs L a ccd cl)) Q E s:=
 wQ (c:=⟨gp,gl,mean,mg,mb,dp,un,gd,cn,L,a,ccd,cl,outer,A₀,base,h₀,s,E,λs'=>s'.gens=s.gens∧s'.drawn=s.drawn,B,X,T,hk,hE,λ_ _=>⟨rfl,rfl⟩⟩) (h _ rfl rfl rfl rfl rfl rfl) ⟨s.heap,s.toks,rfl,F,N⟩ λf m' n' s' r i=>by
  refine gJ (zZ i) λh' tk e F N=>?_;subst e;exact hq f m' n' h' tk r F N
theorem B9
  (B:qU A₀ base outer h₀) (F:Fr h₀ L s.heap m) (X:(hd.heap_1 W0.params).In h₀) (N:ba h₀ L s.heap n) (T:Top gp gl mean mg mb h₀) (hk:cs.kind=.function)
  (hE:lG (aq P0 W0) (ic dp un gd cn cs L a ccd cl outer) (yU cn cs L a ccd cl) E) (P:Shared→Prop) (hP:∀h tk,P {s with heap:=h,toks:=tk}) (R:Re)
  (h:∀c:Fm W0 cs,c.dp=dp→c.un=un→c.cl=cl→c.L=L→c.ccd=ccd→c.h₀=h₀→c.P=P→cK c m n body R)
  (hq:∀v m' n' s',R (.ret v) m' n'→s'.os=s.os→P s'→Fr h₀ L s'.heap m'→ba h₀ L s'.heap n'→Q (.ret v) s') (hr:∀f m' n',R f m' n'→∃v,f=.ret v):
  ay (aq P0 W0) (ic dp un gd cn cs L a ccd cl outer) (kz body (yU cn cs L a ccd cl)) Q E s:=
 wQ (c:=⟨gp,gl,mean,mg,mb,dp,un,gd,cn,L,a,ccd,cl,outer,A₀,base,h₀,s,E,P,B,X,T,hk,hE,hP⟩) (h _ rfl rfl rfl rfl rfl rfl rfl) ⟨s.heap,s.toks,rfl,F,N⟩ λf m' n' s' r i=>by
  refine cp (hr _ _ _ r) λv e=>?_;subst e;refine xU i λe1 hp F N=>?_
  try clear i
  exact hq v m' n' s' r e1 hp F N
noncomputable def Fm.on(c:Fm W0 cs)(s2:Shared)(hP:∀h tk,c.P {s2 with heap:=h,toks:=tk}):Fm W0 cs:={c with s:=s2,hP:=hP}
theorem Ac(ho:s2.os=c.s.os)(hr:∀f m' n',R f m' n'→∃v,f=.ret v)(h:cK (c.on s2 hP) m n sts R)(F:Fr c.h₀ c.L s2.heap m)(N:ba c.h₀ c.L s2.heap n)(hq:∀f m' n' s',R f m' n'→c.Fin f m' n' s'→Q f s'):ay (aq P0 W0) c.A (kz sts c.env) Q c.E s2:=
 h.run Q s2 ⟨_,_,rfl,F,N⟩ λf m' n' s' r i=>by
  refine cp (hr _ _ _ r) λv e=>?_;subst e;refine xU i λe1 hp F N=>?_
  try clear i
  exact hq _ _ _ _ r (nB (e1.trans ho) hp F N)
end
end
section
open W PyProof Rows Spec PySem.Calls Rows.LCg
theorem sd(h:au va xs)(b:Nat):au (jE va.toArray.toList (some (b:Int)) none) (xs.drop b):=by
 unfold jE kms_lo kms_hi;dsimp only;rw[if_neg (λhh=>MR hh j0),bC,pT (by rw[eV];exact aR _)]
 by_cases hb:b≤va.length
 .rw[qq hb]
  exact wc h b
 .have e:Min.min b va.length=va.length:=vN (aL (cI hb))
  rw[e,JI,List.drop_eq_nil_of_le (by rw[← h.length];exact aL (cI hb))];exact .nil
theorem B5(h:au va xs)(b:Nat):au (jE va.toArray.toList none (some (b:Int))) (xs.take b):=by
 unfold jE kms_lo kms_hi;dsimp only;rw[if_neg (λhh=>MR hh j0),bC,Nc,Nat.sub_zero]
 by_cases hb:b≤va.length
 .rw[qq hb]
  exact wb h b
 .have e:Min.min b va.length=va.length:=vN (aL (cI hb))
  rw[e,cP,pT (by rw[← h.length];exact aL (cI hb))];exact h
section
variable {cs:Scope}{c:Fm W0 cs}{sc:Scope}{k:Cx c sc}{m:Lo}{n:Ns}{R:Re}
structure Ar(k:Cx c sc)(m:Lo)(n:Ns)(e:PE)(wh:M7 Value)(P:Bool→Ns→Prop):Prop where
 run:∀(Q:Bool→Shared→Prop) s,k.Is m n s→(∀b n' s',P b n'→k.Is m n' s'→Q b s')→ay (aq P0 W0) c.A (isTrue e k.env wh) Q k.E s
theorem tC{test:PE}{body e rest:List Stmt}{pos:Pos}{P:Bool→Ns→Prop}(ht:Ar c.cx m n test (eval test c.env) P)(h1:∀n',P true n'→cK c m n' body (md c rest R))(h2:∀n',P false n'→cK c m n' e (md c rest R)):cK c m n (.If test body e pos::rest) R:=
 bK ⟨λQ s hi hq=>Mo (ht.run _ s hi λb n' s' hp h'=>by
  cases b with
  | true=>exact(h1 n' hp).run Q s' h' hq
  | false=>exact(h2 n' hp).run Q s' h' hq)⟩
theorem qw(k:Cx c sc)(hi:k.Is m n s):∃m0 ex,Fr c.h₀ c.L s.heap m0∧ba c.h₀ c.L s.heap (ex++n)∧∀h' tk D o,Fr c.h₀ c.L h' m0→ba c.h₀ c.L h' ((D,o)::(ex++n))→k.Is m ((D,o)::n) {s with heap:=h',toks:=tk}:=by
 refine hH (k.opn hi) λm0 ex _ F N cl=>?_;refine(ir m0 ex F N (λh' tk D o u e=>cl h' tk _ u (cm e λp hp=>?_)));revert p;k_extra "zsu"
theorem oR{u:PE}{lo z:Option PE}{pos p:Pos}{l:Addr}{vs B:List Value}{ep:Nat}{lv uv:Option Int}(hv:Ev k m n u (.val (.ref l)))(hm:(l,listOf vs.toArray ep)∈n)(hz:vs.length≤1000)
  (hl:∀(Q:VP) s,k.Is m n s→(∀v s',IsPart v lv→k.Is m n s'→Q v s')→ay (aq P0 W0) c.A (Mr lo k.env) Q k.E s)
  (hu:∀(Q:VP) s,k.Is m n s→(∀v s',IsPart v uv→k.Is m n s'→Q v s')→ay (aq P0 W0) c.A (Mr z k.env) Q k.E s)
  (e:jE vs.toArray.toList lv uv=B)
  (hs:autoParam (∀(d:Addr),j4 (.Slice lo z none p) false (.ref l) (.ref d)=tQ [.ref d,.ref l] (pP (.ref l) (.ref d))) zAe) (ht:autoParam (∀r,eU u (.ref l) r=ck ()) zAe):
  Er k m n (.Subscript u (.Slice lo z none p) pos) (λv n'=>∃D,v=.ref D∧n'=(D,listOf B.toArray 0)::n∧∀q∈n,@aP Nat _ q.1 D):=
 ⟨λQ s hi hq=>og (hv.run _ s hi λo s1 ho i1=>by
  cases ho;refine y7 (hl _ s1 i1 λv1 s2 J i2=>hu _ s2 i2 λv2 G H i3=>?_);refine ag ?_;have U:=i3.get hm;refine gJ (qw k i3) λm0 ex F N cl=>?_
  exact Gn F N (cZ _ U rfl ⟨ep,rfl⟩) J H e (λD h' F' Y O=>hq _ _ _ (cZ D rfl rfl (λq hq=>O q (zR hq))) (cl h' G.toks D _ F' Y)) (hs _) ht (by rw[aV];exact aw hz (by decide)))⟩
theorem mJ(Q:VP)(s:Shared)(hi:k.Is m n s)(hq:∀v s',IsPart v none→k.Is m n s'→Q v s'):ay (aq P0 W0) c.A (Mr none k.env) Q k.E s:=ag (hq _ _ .none hi)
theorem oG(h:Ev k m n e (.int i))(Q:VP)(s:Shared)(hi:k.Is m n s)(hq:∀v s',IsPart v (some i)→k.Is m n s'→Q v s'):ay (aq P0 W0) c.A (Mr (some e) k.env) Q k.E s:=h.run Q s hi λv s' hv z=>by refine cp hv λt u=>?_;try clear hv;subst u;exact hq _ _ (.int i t) z
theorem wV{l r:PE}{pos:Pos}{P P2 P':Value→Ns→Prop}(hl:Er k m n l P)(hr:∀v n1,P v n1→Er k m n1 r (λv2 n2=>P2 v2 n2∧∀p∈n1,p∈n2))
  (h:∀v n1 v2 n2,P v n1→P2 v2 n2→(∀p∈n1,p∈n2)→∃(a b:Addr) (vs ws:List Value) (ea eb:Nat),v=.ref a∧v2=.ref b∧(a,listOf vs.toArray ea)∈n1∧(b,listOf ws.toArray eb)∈n2∧vs.length+ws.length≤1000∧∀D,(∀q∈n2,@aP Nat _ q.1 D)→P' (.ref D) ((D,listOf (vs++ws).toArray 0)::n2)):Er k m n (.BinOp l .Add r pos) P':=
 ⟨λQ s hi hq=>dX (hl.run _ s hi λv n1 s1 B i1=>(hr v n1 B).run _ s1 i1 λv2 n2 s2 z i2=>by
  refine Qh (h v n1 v2 n2 B z.1 z.2) λa b vs ws ea eb u e ha hb hz hp=>?_;subst u;subst e;have ga:=i2.get (z.2 _ ha);have G:=i2.get hb;refine gJ (qw k i2) λm0 ex F N cl=>?_;have lt:=i2.lt.1
  exact add_lists F N (cZ _ ga rfl ⟨ea,rfl⟩) (cZ _ G rfl ⟨eb,rfl⟩) (λh' J H=>hq _ _ _ (hp _ lt) (cl h' s2.toks _ _ J H)) (aw hz (by decide)))⟩
theorem Fj:Er k m n (.List [] pos) (λv n'=>∃D,v=.ref D∧n'=(D,listOf (([]:List Value)).toArray 0)::n∧∀q∈n,@aP Nat _ q.1 D):=
 ⟨λQ s hi hq=>List_ (bJ (by
  refine gJ (qw k hi) λm0 ex F N cl=>?_
  exact yT F N (λD h' z u e=>hq _ _ _ (cZ D rfl rfl (λq hq=>e q (zR hq))) (cl h' s.toks D _ z u)) (by decide)))⟩
theorem GX{l r:PE}{pos:Pos}{wh:M7 Value}{P P2:Value→Ns→Prop}{P':Bool→Ns→Prop}(hu:c.un+200<cT)(hl:Er k m n l P)(hr:∀v n1,P v n1→Er k m n1 r (λv2 n2=>P2 v2 n2∧∀p∈n1,p∈n2))
  (h:∀v n1 v2 n2,P v n1→P2 v2 n2→(∀p∈n1,p∈n2)→∃(a b:Addr) (vs ws:List Value) (xs ys:List Int) (ea eb:Nat),v=.ref a∧v2=.ref b∧(a,listOf vs.toArray ea)∈n1∧(b,listOf ws.toArray eb)∈n2∧au vs xs∧au ws ys∧P' (decide (xs=ys)) n2) (hm:autoParam (eN .Eq r=false) zAc):Ar k m n (.Compare l [.Eq] [r] pos) wh P':=
 ⟨λQ s hi hq=>bX (hl.run _ s hi λv n1 s1 B i1=>(hr v n1 B).run _ s1 i1 λv2 n2 s2 z i2=>by
  refine Qe (h v n1 v2 n2 B z.1 z.2) λa b vs ws xs ys ea eb u e ha hb H G hp=>?_;subst u;subst e
  exact eq_intsK (cZ _ (i2.get (z.2 _ ha)) rfl ⟨ea,rfl⟩) H (cZ _ (i2.get hb) rfl ⟨eb,rfl⟩) G (by refine(?_:c.un+64<cT);exact zJ hu (bR true)) (aY (hq _ _ _ hp i2))) hm⟩
structure tM(k:Cx c sc)(m:Lo)(n1:Ns)(v:Value)(s1:Shared)(xs:List Int)(nn:Nat)(It:Nat→Value→Prop)(kp:Ns):Prop where
 p:IM k v s1 nn It kp
 l:xs.length=nn
 z:nn≤1000
 it:∀j v,j<nn→It j v→∃t,v=.int (xs.getD j 0) t
 kp:∀p∈kp,p∈n1
theorem wO{x:Str}{px:Pos}{test:PE}{scope:Scope}{cl:List (Str×Addr)}(hkind:scope.kind=.function){n1:Ns}{v:Value}{s1:Shared}{xs:List Int}{nn:Nat}{It:Nat→Value→Prop}{kp:Ns}{g:Int→Bool}{P:Value→Ns→Prop}(S:tM k m n1 v s1 xs nn It kp)
  (ht:∀C E' mC n2 y t,y∈xs→mC x=some (.int y t)→(∀p∈n1,p∈n2)→Tw (k.comp m scope cl C E' hkind) mC n2 test (eval test (fj scope cl C k.env)) (g y))
  (hP:∀D zs,au zs (xs.filter g)→(∀p∈n1,@aP Nat _ p.1 D)→P (.ref D) ((D,bz zs)::n1))
  (hx:autoParam ((rG scope k.env).names.lookup x=some .local) zAa) (hd:autoParam ((x==("__debug__" : Str))=false) zAd):
  ww k m n1 (.Name x px) x [test] scope cl hkind nn It kp (λi out n3=>n3=n1∧au out ((xs.take i).filter g)) P where
 hJ:=⟨rfl,.nil⟩
 hkp:=λi out n3 h=>by
  obtain ⟨e,h⟩:=h;subst e;exact⟨S.kp,by rw[h.length];exact aw (bU ..) (by rw[eJ];exact jv ..)⟩
 turn:=λi v out n3 C I D oI E' mC hi hv hJ O J aj ap ah ar hex=>by
  refine b7 hJ λe Y=>?_
  try clear hJ
  subst e;refine cp (S.it i v hi hv) λt B=>?_;subst B
  have G:i<xs.length:=by rw[S.l];exact hi
  have hg:xs.getD i 0=xs[i]:=by rw[az,ao G];rfl
  have H:xs.take (i+1)=xs.take i++[xs.getD i 0]:=by rw[qW,ao G,hg];rfl
  have U:xs.getD i 0∈xs:=by rw[hg];exact bG G
  refine(cZ (g (xs.getD i 0)) (wE (ht C E' mC _ _ t U O λp hp=>zT (zT hp))) (λaa=>fx (iL (ai O hx hd)) λv5 n5 h5=>?_) (λab=>⟨rfl,?_⟩))
  .refine b7 h5 λu e5=>?_
   try clear h5
   refine cp u λt5 h5=>?_
   try clear u
   subst e5;subst h5;refine⟨n3,λp hp=>hp,J,rfl,?_⟩;rw[H,cH];refine Y.append ?_;rw[fC,if_pos aa];exact .cons _ _ .nil
  .rw[H,cH]
   rw[fC,if_neg (by rw[ab];decide)];exact(im out)▸Y.append .nil
 done:=λout n3 D hJ h1 h2=>by
  refine b7 hJ λe Y=>?_
  try clear hJ
  subst e;rw[← S.l,cP] at Y;exact hP D out Y h1
 hsz:=aw S.z (by decide)
theorem pC(hi:k.Is m n s1)(hl:(l,listOf vs.toArray ep)∈n)(u:au vs xs)(hz:xs.length≤1000):tM k m n (.ref l) s1 xs vs.length (λi v=>vs[i]?=some v) [(l,listOf vs.toArray ep)] where
 p:=uj hi hl
 l:=u.length.symm
 z:=by rw[u.length];exact hz
 it:=λj v hj hv=>by
  have e:j<xs.length:=by rw[← u.length];exact hj
  refine cp (u.get j xs[j] (ao e)) λtb hb=>?_;rw[hb] at hv;cases hv;exact⟨tb,by rw[az,ao e];rfl⟩
 kp:=λp hp=>by rw[aA.mp hp];exact hl
theorem qC{r:Addr}{nn:Nat}{t u v:Tok}{s1:Shared}(hr:PySem.IsRange s1.heap r 0 (nn:Int) 1 t u v)(B:dL 0 (nn:Int) 1=true)(hz:nn≤1000):tM k m n (.ref r) s1 ((aU nn).map λi:Nat=>(i:Int)) nn (λi v=>∃t,v=.int (i:Int) t) [] where
 p:=jA hr B
 l:=by rw[aE,db]
 z:=hz
 it:=λj v hj hv=>by
  refine cp hv λt e=>?_
  try clear hv
  subst e;exact⟨t,by rw[az,eO,lO hj];rfl⟩
 kp:=λ_ h=>nomatch h
end
end
section
open W PyProof Rows
noncomputable abbrev nY(W0:World)(o:Obj)(kvs:List (Int×Value)):Prop:=o.IsDictOf (gR P0 W0) kvs
section
variable {cs:Scope}{c:Fm W0 cs}{sc:Scope}{k:Cx c sc}{m:Lo}{n:Ns}{R:Re}{d q:Addr}{o:Obj}{kvs:List (Int×Value)}
theorem oS:Er k m n (.Dict [] [] pos) (λv n'=>∃d o,v=.ref d∧n'=(d,o)::n∧nY W0 o []∧(d==cN)=false∧∀q∈n,@aP Nat _ q.1 d):=
 ⟨λQ s hi hq=>by
  refine gJ (qw k hi) λm0 ex F N cl=>?_
  exact newDict_K F N c.T.nolimit λd h' o u e l lo _ _ hd _=>hq _ _ _ (QI d o rfl rfl hd lo (λq hq=>l q (zR hq))) (cl h' s.toks d o u e)⟩
theorem Iq(he:Ev k m n e (.val (.ref d)))(hm:(d,o)∈n)(hd:nY W0 o kvs)
  (ha:autoParam (eval (.Attribute e "get" pos) k.env=(do
   let o ← eval e k.env
   f8 pos.atName
   let r ← gm [o] (jJ o "get" true)
   eU e o r
   ck r)) zAc):Er k m n (.Attribute e "get" pos) (λv n'=>∃q,v=.ref q∧n'=(q,cf "dict.get" (.ref d))::n∧∀p∈n,@aP Nat _ p.1 q):=
 ⟨λQ s hi hq=>oh (he.run _ s hi λv s1 u i1=>by
  cases u;refine gJ (qw k i1) λm0 ex F N cl=>?_
  exact Pe F N (zR hm) hd λq h' B z l=>hq _ _ _ (cZ q rfl rfl (λp hp=>l p (zR hp))) (cl h' (s1.toks+1) q _ B z)) ha⟩
theorem Ih(hf:Ev k m n f (.val (.ref q)))(h1:Ev k m n e1 (.int j))(h2:Ev k m n e2 a2)(hq:(q,cf "dict.get" (.ref d))∈n)(hm:(d,o)∈n)(hd:nY W0 o kvs)(lo:(d==cN)=false)(u:cX kvs j=x)(ha:∀v,a2.den v→a.den (x.getD v))
  (c1:autoParam (CC k.env f [e1,e2] pos) zAa) (c2:autoParam (SE k.env e1 [e2]) zAa) (c3:autoParam (SE k.env e2 []) zAa):Ev k m n (.Call f [e1,e2] [] pos) a:=
 ⟨λQ s hi hQ=>gq (hf.run _ s hi λv s1 G i1=>by
  cases G;refine hH (k.opn i1) λm0 ex _ Y N0 _=>?_;refine pK N0 (zR hq) ?_ c2 (hplain:=by rw[show _=_ from c3];rfl);refine aI (h1.run _ s1 i1 λv1 s2 d2 i2=>aI (h2.run _ s2 i2 λv2 J B i3=>bJ ?_) c3) c2;refine cp d2 λt e=>?_
  try clear d2
  subst e;refine⟨i3.get hq,?_⟩;refine hH (k.opn i3) λO z _ U H _=>?_
  exact Jv H (zR hq) (zR hm) hd lo u (hQ _ _ (ha _ B) i3.toks)) c1⟩
theorem wS(he:Ev k m n e (.val (.ref d)))(h1:Ev k m n e1 (.int j))(h2:Ev k m n e2 a2)(hm:(d,o)∈n)(hd:nY W0 o kvs)(lo:(d==cN)=false)(G:cX kvs j=x)(ha:∀v,a2.den v→a.den (x.getD v))
  (c1:autoParam (eval (.Call (.Attribute e "get" u) [e1,e2] [] pos) k.env=(do
   let B ← eval e k.env
   f8 u.atName
   let (f,first) ← gm [B] (gL B "get" pl)
   iG pos f first (ff pos (bV [e1,e2] k.env)) [])) zAa) (c2:autoParam (SE k.env e1 [e2]) zAa) (c3:autoParam (SE k.env e2 []) zAa):Ev k m n (.Call (.Attribute e "get" u) [e1,e2] [] pos) a:=
 ⟨λQ s hi hQ=>ix (he.run _ s hi λv s1 O i1=>by
  cases O;refine hH (k.opn i1) λm0 ex _ F0 N0 _=>?_;refine Ob N0 (zR hm) hd ?_;refine lK ?_ c2 (hplain:=by rw[show _=_ from c3];rfl);refine aI (h1.run _ s1 i1 λv1 s2 d2 i2=>aI (h2.run _ s2 i2 λv2 Y J i3=>bJ ?_) c3) c2;refine cp d2 λt z=>?_
  try clear d2
  subst z;refine hH (k.opn i3) λm2 H _ F2 U _=>?_
  exact Jp U (zR hm) hd lo G (hQ _ _ (ha _ J) i3.toks)) c1⟩
end
section
variable {cs:Scope}{c:Fm W0 cs}{m:Lo}{n:Ns}{R:Re}
noncomputable def Ps(R:Re)(I:Addr)(o:Obj)(kp:Addr×Obj)(J:Nat→Lo→Ns→Prop)(i:Nat)(f:ve)(m:Lo)(n:Ns):Prop:=match f with
 | .ret v=>R (.ret v) m n
 | .brk=>R .next m n
 | _=>(I,o)∈n∧∃n',(∀p∈n',p∈n∧p.1≠I)∧kp∈n'∧J i m n'
theorem Bb(hi:c.Fin f m n s)(z:∃h tk,s₁ = {c.s with heap:=h,toks:=tk})(hq:∀f m' n' s',R f m' n'→c.Fin f m' n' s'→Q f s')(h:Ps R I o kp J i f m n):
  mj c.h₀ c.L s₁ [(I,o)] (λm' n'=>IY [kp] n'∧J i m' n') Q f s:=by
 refine ut z λH G B=>?_
 try clear z
 subst B
 have go:c.Is m n s→((I,o)∈n∧∃n',(∀p∈n',p∈n∧p.1≠I)∧kp∈n'∧J i m n')→IX c.h₀ c.L {c.s with heap:=H,toks:=G} [(I,o)] (λm' n'=>IY [kp] n'∧J i m' n') s:=by
  intro hi u;refine b7 u λO e=>?_;clear u;refine fJ e λn' hs hk j=>?_
  try clear e
  obtain ⟨h',tk,rfl,F,N⟩:=hi;exact xG F N ⟨⟨hk,trivial⟩,j⟩ O (λp hp=>(hs p hp).1) (λp hp=>(hs p hp).2)
 cases f with
 | ret v=>exact hq _ _ _ _ h hi
 | brk=>exact hq .next _ _ _ h hi
 | next=>exact go hi h
 | cont=>exact go hi h
theorem uK(he:Ev c.cx m n iter (.val (.ref l)))(hl:(l,listOf vs.toArray ep)∈n)(hi:au vs xs)(J:Nat→Lo→Ns→Prop)(hJ:J 0 m n)
  (turn:∀i G t u e I o,xs[i]?=some G→(∀p∈n,@aP Nat _ p.1 I)→J i u e→cK c (ci u x (.int G t)) ((I,o)::e) body (Ps (md c rest R) I o (l,listOf vs.toArray ep) J (i+1)))
  (done:∀u e,J xs.length u e→cK c u e rest R) (Y:autoParam (c.env.kindOf x=some .local) zAa) (hs:autoParam (∀z,bW iter c.env z=ck z) zAb):
  cK c m n (.For (.Name x px) iter body [] pos::rest) R:=
 bK ⟨λQ s B hq=>by
  refine qS (env:=c.env) B.at.1 (he.run _ s B λv s' hv h'=>?_) hs c.hE;cases hv;obtain ⟨h1,O,rfl,F1,N1⟩:=h';refine CO (env:=c.env) rfl F1 N1 hl rfl rfl λI hI=>?_;refine B6 (env:=c.env) hi J hJ (λi G t u e o h tk H j _ F N=>?_) (λu e h tk j F N=>hq .next _ _ _ (done u e j) ⟨h,tk,rfl,F,N⟩);refine assign_Name (dm (c:=c) ⟨h,tk,rfl,F,N⟩ (λs2 h2=>?_) Y)
  exact(turn i G t u e I o H hI j).run _ s2 h2 λf m' n' s' r U=>Bb U (ro h tk rfl) hq r⟩
theorem E6(he:Ev c.cx m n e (.int i))(hx:∀t,Ev c.cx (ci m x (.int i t)) n ed (.val (.ref d)))(hk:∀t,Ev c.cx (ci m x (.int i t)) n H (.int j))(U:xh d o n g)(hd:nY W0 o kvs)(hsz:kvs.length≤dY)
  (h:∀t o',nY W0 o' (yN kvs j (.int i t))→cK c (ci m x (.int i t)) (g o') rest R)
  (hw:autoParam (fU [.Name x z,.Subscript ed H u] e c.env=ck none) zAa) (h2:autoParam ((da [.Name x z,.Subscript ed H u] c.env).map (·.2)=[de (.Name x z) c.env,de (.Subscript ed H u) c.env]) zAa) (hl:autoParam (c.env.kindOf x=some .local) zAa):
  cK c m n (.Assign [.Name x z,.Subscript ed H u] e pos::rest) R:=
 bK ⟨λQ s hi hq=>qO (he.run _ s hi λv s1 hv i1=>by
  refine cp hv λt G=>?_
  try clear hv
  subst G;refine assign_Name (dm (c:=c) i1 (λs2 i2=>?_) hl);refine kas_sub ((hx t).run _ s2 i2 λv3 s3 d3 i3=>(hk t).run _ s3 i3 λv4 s4 Y J=>?_);cases d3;refine cp Y λt4 B=>?_
  try clear Y
  subst B
  exact kda_set (knd:=gR _ _) J.at.1 J.at.2 U hd (jW _ _ _ _) hsz λh' o' F' N' O=>hq .next _ _ _ (h t o' O) (J.to F' N')) h2 hw⟩
end
theorem QN(hf:Ev k m n f (.val (.type "range")))(h1:Ev k m n e1 (.int a))(h2:Ev k m n e2 (.int b))
  (c1:autoParam (CC k.env f [e1,e2] pos) zAa) (c2:autoParam (SE k.env e1 [e2]) zAa) (c3:autoParam (SE k.env e2 []) zAa):IS k m n (.Call f [e1,e2] [] pos) a b:=
 ⟨λQ s hi hQ=>gq (hf.run _ s hi λv s1 G i1=>by
  cases G;refine su ?_ c2 (hplain:=by rw[show _=_ from c3];rfl);refine aI (h1.run _ s1 i1 λv1 s2 d2 i2=>aI (h2.run _ s2 i2 λv2 U B i3=>bJ ?_) c3) c2;refine cp d2 λt1 z=>?_
  try clear d2
  subst z;refine cp B λt2 e=>?_
  try clear B
  subst e;refine hH (k.opn i3) λm0 ex _ F N cl=>?_
  exact range2_rows F N λh' tk t u v H O J _=>hQ _ _ _ _ _ (cl h' tk _ O J) H) c1⟩
noncomputable def O2:List Stmt:=vh P0.main.body 7
noncomputable def mB(k:Nat):List Stmt:=vh O2 k
noncomputable def mS(k:Nat):Scope:=tw O2 k
noncomputable def oL(k i:Nat):Stmt:=((mB k)[i]?).getD C7
structure IQ(m:Lo)(la lb lj q nl:Addr)(alo ahi blo bhi:Int)(u1 u2 u3 u4:Tok):Prop where
 a:m "a"=some (.ref la)
 b:m "b"=some (.ref lb)
 j:m "b2j"=some (.ref lj)
 q:m "isbjunk"=some (.ref q)
 n:m "nothing"=some (.ref nl)
 al:m "alo"=some (.int alo u1)
 ah:m "ahi"=some (.int ahi u2)
 bl:m "blo"=some (.int blo u3)
 bh:m "bhi"=some (.int bhi u4)
structure Mj(m:Lo)(bi bj bs:Int)(t1 t2 t3:Tok):Prop where
 i:m "besti"=some (.int bi t1)
 j:m "bestj"=some (.int bj t2)
 s:m "bestsize"=some (.int bs t3)
section
variable {c:Fm W0 (mS 6)}{m:Lo}{n:Ns}{R:Re}{xs ys:List Int}{va:List Value}{ep1:Nat}{la lb lj q nl:Addr}{oj:Obj}{kvj:List (Int×Value)}{alo ahi blo bhi:Int}{u1 u2 u3 u4:Tok}{rest:List Stmt}{N0:Ns}
inductive Pr(c:Fm W0 (mS 6))(xs ys:List Int)(la lb lj q nl:Addr)(alo ahi blo bhi:Int)(u1 u2 u3 u4:Tok)(N0:Ns)(i:Nat)(m:Lo)(n:Ns):Prop
 | mk (bi bj bs:Int) (t1 t2 t3:Tok) (dj:Addr) (oJ:Obj) (kvJ:List (Int×Value)) (z0:IQ m la lb lj q nl alo ahi blo bhi u1 u2 u3 u4) (z1:Mj m bi bj bs t1 t2 t3) (z2:m "j2len"=some (.ref dj)) (z3:n=(dj,oJ)::N0) (z4:nY W0 oJ kvJ) (z5:(dj==cN)=false) (z6:BI xs ys alo blo bhi i bi bj bs) (z7:JL xs ys alo blo bhi i kvJ)
theorem IQ.up(h:IQ m la lb lj q nl alo ahi blo bhi u1 u2 u3 u4)(e:x∉[("a" : Str),"b","b2j","isbjunk","nothing","alo","ahi","blo","bhi"]):IQ (ci m x v) la lb lj q nl alo ahi blo bhi u1 u2 u3 u4:=by
 simp only[ak,bT,or_false,not_or] at e;refine Qp e λh1 h2 h3 h4 h5 h6 h7 h8 h9=>?_
 try clear e
 exact⟨(if_neg (Ne.symm h1)).trans h.a,(if_neg (Ne.symm h2)).trans h.b,(if_neg (Ne.symm h3)).trans h.j,(if_neg (Ne.symm h4)).trans h.q,(if_neg (Ne.symm h5)).trans h.n,(if_neg (Ne.symm h6)).trans h.al,(if_neg (Ne.symm h7)).trans h.ah,(if_neg (Ne.symm h8)).trans h.bl,(if_neg (Ne.symm h9)).trans h.bh⟩
theorem Mj.up{t2:Tok}{t3:Tok}(h:Mj m bi bj bs t1 t2 t3)(e:x∉[("besti" : Str),"bestj","bestsize"]):Mj (ci m x v) bi bj bs t1 t2 t3:=by
 simp only[ak,bT,or_false,not_or] at e;refine kq e λh1 h2 h3=>?_
 try clear e
 exact⟨(if_neg (Ne.symm h1)).trans h.i,(if_neg (Ne.symm h2)).trans h.j,(if_neg (Ne.symm h3)).trans h.s⟩
theorem bc(h:m y=r)(e:autoParam (y≠x) zAd):ci m x v y=r:=(if_neg e).trans h
theorem cW:ci m x v x=some v:=if_pos rfl
inductive PT(c:Fm W0 (mS 6))(xs ys:List Int)(la lb lj q nl:Addr)(alo ahi blo bhi:Int)(u1 u2 u3 u4:Tok)(N0:Ns)(I nd:Addr)(o:Obj)(i:Nat)(m:Lo)(n:Ns):Prop
 | mk (bi bj bs:Int) (t1 t2 t3:Tok) (on:Obj) (kvn:List (Int×Value)) (z0:IQ m la lb lj q nl alo ahi blo bhi u1 u2 u3 u4) (z1:Mj m bi bj bs t1 t2 t3) (z2:m "newj2len"=some (.ref nd)) (z3:(nd,on)∈n) (z4:(I,o)∈n) (z5:(∀p∈N0,p∈n)) (z6:nY W0 on kvn) (z7:BI xs ys alo blo bhi (i+1) bi bj bs) (z8:JL xs ys alo blo bhi (i+1) kvn)
theorem H0(hE:∀m n,IQ m la lb lj q nl alo ahi blo bhi u1 u2 u3 u4→IS c.cx m n (sE (oL 6 7)) alo ahi)(hJ:Pr c xs ys la lb lj q nl alo ahi blo bhi u1 u2 u3 u4 N0 0 m n)
  (d3:(la,listOf va.toArray ep1)∈N0) (ei:au va xs) (d2:(lj,oj)∈N0) (d8:nY W0 oj kvj) (d1:(lj==cN)=false) (d0:(nl,listOf ([]:List Value).toArray 0)∈N0) (dQ:yM ys kvj N0) (c4:ys.Nodup) (c1:xs.length≤32) (q1:0≤alo) (q2:alo≤ahi) (q3:ahi≤xs.length) (q4:0≤blo)
  (br:∀m n,Pr c xs ys la lb lj q nl alo ahi blo bhi u1 u2 u3 u4 N0 (ahi-alo).toNat m n→cK c m n rest R):cK c m n (oL 6 7::rest) R:=by
 have ed:IQ m la lb lj q nl alo ahi blo bhi u1 u2 u3 u4:=by obtain ⟨_,_,_,_,_,_,_,_,_,h,_⟩:=hJ;exact h
 refine Cb (a:=alo) (b:=ahi) (k:=(ahi-alo).toNat) (hE m n ed) rfl (Hl q1 q2 (eQ [ahi,xs.length] 1 Z0 (.k 32) 1 Z0 Z1 1 Z1 (.k 32) rfl q3 (d9 c1))) (Pr c xs ys la lb lj q nl alo ahi blo bhi u1 u2 u3 u4 N0) hJ ?_ br;rintro i t m1 n1 I oI hi hI ⟨bi,bj,bs,t1,t2,t3,dj,oJ,kvJ,hK,hB,as,rfl,dM,dd,G,aD⟩;have cd:=hK.up (x:="i") (v:=.int (alo+(i:Int)) t) (by decide);have cy:=hB.up (x:="i") (v:=.int (alo+(i:Int)) t) (by decide);have U:=bc (x:="i") (v:=.int (alo+(i:Int)) t) as (by decide);have ca:ci m1 "i" (.int (alo+(i:Int)) t) "i"=some (.int (alo+(i:Int)) t):=cW;generalize ci m1 "i" (.int (alo+(i:Int)) t)=m2 at cd cy U ca ⊢;clear hK hB as;refine dG (Iq (am U) (zT (zH)) dM) ?_;intro v n2 a7;refine fJ a7 λH c0 cU lq=>?_;clear a7;subst c0;subst cU;refine dG oS ?_;intro v n2 a6;refine NM a6 λnd on cQ cM aQ c6 ln=>?_;clear a6;subst cQ;subst cM
 obtain ⟨v,c3⟩:∃v,v=xs.getD (alo+i).toNat 0:=⟨_,rfl⟩
 have hv:xs[(alo+i).toNat]?=some v:=by rw[c3];exact kY (ltN (y5 [↑((alo+(i:Int)).toNat),xs.length,i,↑((ahi-alo).toNat),ahi,alo] 1 (.a Z0 Y1) Z1 1 (.a Z2 Y1) Z3 1 Z4 Z1 1 Z0 (.a Z5 Z2) 1 Z3 (.s Z4 Z5) rfl (d9 hi) q3 (iZ (eQ [alo,i] 1 Y0 (.a Z0 Z1) 1 Y0 Z0 1 Y0 Z1 rfl q1 j0)) (iZ (cS [ahi,alo] 1 Y0 (.s Z0 Z1) 1 Z1 Z0 rfl q2))))
 obtain ⟨l,vs,js,ep,bb,b5,c2,ax⟩:∃(l:Addr) (vs:List Value) (js:List Int) (ep:Nat),(l,listOf vs.toArray ep)∈N0∧au vs js∧(∀v',v'=bF nl→(cX kvj v).getD v'=.ref l)∧((js=[]∧v∉ys)∨∃u:Nat,js=[(u:Int)]∧ys[u]?=some v):=by
  by_cases hy:v∈ys
  .refine cp (List.getElem?_of_mem hy) λu dq=>?_
   refine NH (dQ.2 u _ dq) λaj tj ek e1 e2=>?_;exact(EW aj [.int u tj] [u] ek e2 (.cons _ _ .nil) (λv' _=>by rw[e1];rfl) (.inr (c9 u rfl dq)))
  .exact(EW nl [] [] 0 d0 (.nil) (λv' e=>by rw[dQ.1 _ hy];exact e) (.inl ⟨rfl,hy⟩))
 have hN:∀p∈N0,@aP Nat _ p.1 I:=by
  obtain ⟨_,_,_,_,_,_,_,_,_,_,_,_,rfl,_⟩:=hJ;exact λp hp=>hI p (zT hp)
 have aa:=(cd.up (x:="j2lenget") (v:=.ref H) (by decide)).up (x:="newj2len") (v:=.ref nd) (by decide);have cw:=(cy.up (x:="j2lenget") (v:=.ref H) (by decide)).up (x:="newj2len") (v:=.ref nd) (by decide);have ds:=bc (x:="newj2len") (v:=.ref nd) (bc (x:="j2lenget") (v:=.ref H) U (by decide)) (by decide);have b6:=bc (x:="newj2len") (v:=.ref nd) (bc (x:="j2lenget") (v:=.ref H) ca (by decide)) (by decide);have dD:ci (ci m2 "j2lenget" (.ref H)) "newj2len" (.ref nd) "j2lenget"=some (.ref H):=bc cW;have b0:ci (ci m2 "j2lenget" (.ref H)) "newj2len" (.ref nd) "newj2len"=some (.ref nd):=cW;generalize ci (ci m2 "j2lenget" (.ref H)) "newj2len" (.ref nd)=m3 at aa cw ds b6 dD b0 ⊢;clear cd cy U ca;have c5:nd≠I:=λe=>c8 I (e▸ln (I,oI) (zT (zH)));have mN:∀p∈N0,p∈(nd,on)::(H,cf "dict.get" (.ref dj))::(I,oI)::(dj,oJ)::N0:=λp hp=>zT (zT (zT (zT hp)))
 have ab:∀(p1 p2 p3:Pos) m n,PT c xs ys la lb lj q nl alo ahi blo bhi u1 u2 u3 u4 N0 I nd oI i m n→cK c m n [.Assign [.Name "j2len" p1] (.Name "newj2len" p2) p3] (FR (md c rest R) I oI (Pr c xs ys la lb lj q nl alo ahi blo bhi u1 u2 u3 u4 N0) (i+1)):=by
  rintro p1 p2 p3 m n ⟨bi,bj,bs,t1,t2,t3,on,kvn,hK,hB,hn,e1,e2,e3,hd,G,aD⟩;refine tB (am hn) (b9 ⟨e2,(nd,on)::N0,λp hp=>?_,bi,bj,bs,t1,t2,t3,nd,on,kvn,hK.up (by decide),hB.up (by decide),cW,rfl,hd,c6,G,aD⟩)
  rcases ak.mp hp with rfl|hp
  .exact⟨e1,c5⟩
  .exact⟨e3 p hp,λe=>c8 I (e▸hN p hp)⟩
 have dg:=mN _ d3;refine uK (l:=l) (vs:=vs) (xs:=js) (ep:=ep) (wS (am aa.j) (fk (am aa.a) (ai b6) dg ei (Rt q1 j0) (g5 [alo,i,xs.length,↑((ahi-alo).toNat),ahi] 1 (.a (.a Z0 Z1) Y1) Z2 1 (.a Z1 Y1) Z3 1 Z4 Z2 1 Z3 (.s Z4 Z0) rfl (d9 hi) q3 (iZ (cS [ahi,alo] 1 Y0 (.s Z0 Z1) 1 Z1 Z0 rfl q2))) (y5 [alo,i,↑((ahi-alo).toNat),ahi,xs.length] 1 (.a (.a Z0 Z1) Y1) (.k (2 ^ 63)) 1 (.a Z1 Y1) Z2 1 Z3 Z4 1 Z4 (.k 32) 1 Z2 (.s Z3 Z0) rfl (d9 hi) q3 (d9 c1) (iZ (cS [ahi,alo] 1 Y0 (.s Z0 Z1) 1 Z1 Z0 rfl q2)))) (am aa.n) (mN _ d2) d8 d1 rfl λv' e=>?hgv) (mN _ bb) b5 (λB m n=>(B=0→m=m3∧n=(nd,on)::(H,cf "dict.get" (.ref dj))::(I,oI)::(dj,oJ)::N0)∧(1≤B→PT c xs ys la lb lj q nl alo ahi blo bhi u1 u2 u3 u4 N0 I nd oI i m n)) ⟨λ_=>⟨rfl,rfl⟩,λh=>absurd h (by decide)⟩ ?turn ?done
 case hgv=>
  rw[← c3];exact c2 v' e
 case done=>
  intro m n a5;refine b7 a5 λz0 z1=>?_;clear a5;refine ab _ _ _ m n ?_
  rcases ax with ⟨rfl,hy⟩|⟨u,rfl,hy⟩
  .refine b7 (z0 rfl) λcD cC=>?_
   subst cD;subst cC;exact⟨bi,bj,bs,t1,t2,t3,on,[],aa,cw,b0,zH,zT (zT (zH)),mN,aQ,w7 G (BO hv hy),wK⟩
  .exact z1 (aR _)
 case turn=>
  intro B x1 tj m n I2 o2 bo dV a4;refine b7 a4 λz0 _=>?_;clear a4
  rcases ax with ⟨rfl,hy⟩|⟨u,rfl,hy⟩
  .cases bo
  obtain ⟨rfl,rfl⟩:B=0∧x1=(u:Int):=by
   cases B with
   | zero=>exact⟨rfl,(dJ bo).symm⟩
   | succ _=>cases bo
  refine b7 (z0 rfl) λcB cA=>?_;subst cB;subst cA;have Y:=aa.up (x:="j") (v:=.int u tj) (by decide);have a0:=cw.up (x:="j") (v:=.int u tj) (by decide);have d7:=bc (x:="j") (v:=.int u tj) ds (by decide);have dx:=bc (x:="j") (v:=.int u tj) b6 (by decide);have dy:=bc (x:="j") (v:=.int u tj) dD (by decide);have ah:=bc (x:="j") (v:=.int u tj) b0 (by decide);have O:ci m "j" (.int u tj) "j"=some (.int u tj):=cW;generalize ci m "j" (.int u tj)=m4 at Y a0 d7 dx dy ah O ⊢
  have fin:∀(p1 p2 p3:Pos) (m5:Lo) (J:Obj) (kvn:List (Int×Value)) (f:ve) (bi bj bs:Int) (t1 t2 t3:Tok),(f=.next∨f=.cont)→IQ m5 la lb lj q nl alo ahi blo bhi u1 u2 u3 u4→Mj m5 bi bj bs t1 t2 t3→m5 "newj2len"=some (.ref nd)→nY W0 J kvn→BI xs ys alo blo bhi (i+1) bi bj bs→JL xs ys alo blo bhi (i+1) kvn→
    Ps (md c [.Assign [.Name "j2len" p1] (.Name "newj2len" p2) p3] (FR (md c rest R) I oI (Pr c xs ys la lb lj q nl alo ahi blo bhi u1 u2 u3 u4 N0) (i+1))) I2 o2 (l,listOf vs.toArray ep) (λB m6 n=>(B=0→m6=m∧n=(nd,on)::(H,cf "dict.get" (.ref dj))::(I,oI)::(dj,oJ)::N0)∧(1≤B→PT c xs ys la lb lj q nl alo ahi blo bhi u1 u2 u3 u4 N0 I nd oI i m6 n)) (0+1) f m5 ((I2,o2)::(nd,J)::(H,cf "dict.get" (.ref dj))::(I,oI)::(dj,oJ)::N0):=by
   rintro p1 p2 p3 m5 J kvn f bi bj bs t1 t2 t3 hf hK hB hn hd G aD
   have go:(I2,o2)∈(I2,o2)::(nd,J)::(H,cf "dict.get" (.ref dj))::(I,oI)::(dj,oJ)::N0∧∃n',(∀p∈n',p∈(I2,o2)::(nd,J)::(H,cf "dict.get" (.ref dj))::(I,oI)::(dj,oJ)::N0∧p.1≠I2)∧(l,listOf vs.toArray ep)∈n'∧(0+1=0→m5=m∧n'=(nd,on)::(H,cf "dict.get" (.ref dj))::(I,oI)::(dj,oJ)::N0)∧(1≤0+1→PT c xs ys la lb lj q nl alo ahi blo bhi u1 u2 u3 u4 N0 I nd oI i m5 n'):=by
    refine⟨zH,(nd,J)::(I,oI)::N0,λp hp=>?_,zT (zT bb),λh=>absurd h (by decide),λ_=>⟨bi,bj,bs,t1,t2,t3,J,kvn,hK,hB,hn,zH,zT (zH),λp hp=>zT (zT hp),hd,G,aD⟩⟩;have lt:∀a o,(a,o)∈(nd,on)::(H,cf "dict.get" (.ref dj))::(I,oI)::(dj,oJ)::N0→a≠I2:=λa o h e=>c8 I2 (e▸dV (a,o) h)
    rcases ak.mp hp with rfl|hp
    .exact⟨zT (zH),lt nd on (zH)⟩
    rcases ak.mp hp with rfl|hp
    .exact⟨zT (zT (zT (zH))),lt I oI (zT (zT (zH)))⟩
    .exact⟨zT (zT (zT (zT (zT hp)))),lt p.1 p.2 (mN _ hp)⟩
   rcases hf with rfl|rfl
   .exact go
   .exact go
  refine dz (eD lc (ai O) (ai Y.bl)) (λhb=>?_) (λhb=>b9 ?_)
  .exact Fb (fin ⟨0,0,0,0⟩ ⟨0,0,0,0⟩ ⟨0,0,0,0⟩ m4 on [] .cont bi bj bs t1 t2 t3 (.inr rfl) Y a0 ah aQ (w7 G (xL c4 q4 hv hy (.inl (of_decide_eq_true hb)))) wK)
  have U:¬(u:Int)<blo:=of_decide_eq_false hb;refine dz (eD FF (ai O) (ai Y.bh)) (λhb=>?_) (λhb=>b9 ?_)
  .refine H4 (ab _ _ _ m4 _ ⟨bi,bj,bs,t1,t2,t3,on,[],Y,a0,ah,?_,?_,?_,aQ,w7 G (xL c4 q4 hv hy (.inr (of_decide_eq_true hb))),wK⟩)
   .exact zT (zH)
   .exact zT (zT (zT (zH)))
   .exact λp hp=>zT (mN p hp)
  have as:¬bhi≤(u:Int):=of_decide_eq_false hb
  obtain ⟨z,b4,d4,ar,dp,dK⟩:∃z:Int,0≤z∧(∀v',Bv.den (.int 0) v'→Bv.den (.int z) ((cX kvJ ((u:Int)-1)).getD v'))∧z+1≤i+1∧blo≤(u:Int)-(z+1)+1∧qM xs ys (alo+i+1-(z+1)) ((u:Int)-(z+1)+1) (z+1):=by
   cases aM:cX kvJ ((u:Int)-1) with
   | none=>exact(OI 0 (bZ 0) (λv' h=>h) (cS [i] 1 (.a Y0 Y1) (.a Z0 Y1) 1 Y0 Z0 rfl j0) (cS [blo,u] 1 Z0 (.a (.s Z1 (.a Y0 Y1)) Y1) 1 Z0 Z1 rfl (PC U)) (new_one hv hy))
   | some x=>
    refine NL (aD _ _ aM) λz tk0 cz ar hk2 d6 em d5=>?_;subst cz;exact(OI z (cS [z] 1 Y0 Z0 1 Y1 Z0 rfl ar) (λv' h=>⟨tk0,rfl⟩) (ll hk2 1) (cS [blo,u,z] 1 Z0 (.a (.s Z1 (.a Z2 Y1)) Y1) 1 Z0 (.a (.s (.s Z1 Y1) Z2) Y1) rfl d6) (Et hv hy ar d5))
  have dS:I2≠nd:=λe=>c8 I2 (by have:=dV (nd,on) (zH);rw[e] at this ⊢;exact this);refine E6 (o:=on) (kvs:=[]) (ec (Ih (am dy) (jl (ai O) bf) bf (zT (zT (zH))) (zT (zT (zT (zT (zH))))) dM dd rfl d4) bf) (λt=>am (bc ah)) (λt=>ai (bc O)) (.tail dS (.head λp hp=>?off)) aQ (c7 _) λt o' dN=>?_
  case off=>exact λe=>c8 nd (e▸ln p hp)
  have cc:=Y.up (x:="k") (v:=.int (z+1) t) (by decide);have cn:=a0.up (x:="k") (v:=.int (z+1) t) (by decide);have dv:=bc (x:="k") (v:=.int (z+1) t) dx (by decide);have bm:=bc (x:="k") (v:=.int (z+1) t) O (by decide);have bv:=bc (x:="k") (v:=.int (z+1) t) ah (by decide);have ap:ci m4 "k" (.int (z+1) t) "k"=some (.int (z+1) t):=cW;generalize ci m4 "k" (.int (z+1) t)=m5 at cc cn dv bm bv ap ⊢;have aM:=K6 (bhi:=bhi) (t:=t) (EU (gf z 1) (PI b4)) ar dp (MM as) dK;refine dz (eD qk (ai ap) (ai cn.s)) (λhb=>?_) (λhb=>b9 ?_)
  .refine pE (ec (jl (ai dv) (ai ap)) bf) (ec (jl (ai bm) (ai ap)) bf) (ai ap) λt4 t5 t6=>?_
   refine b9 (b9 (fin _ _ _ _ o' _ .next _ _ _ t4 t5 t6 (.inl rfl) (((cc.up (by decide)).up (by decide)).up (by decide)) ⟨cW,bc cW,bc (bc cW)⟩ (bc (bc (bc bv))) dN (L3 (EU (gf z 1) (PI b4)) ar dp (MM as) dK) aM))
  .exact b9 (fin _ _ _ m5 o' _ .next bi bj bs t1 t2 t3 (.inl rfl) cc cn bv dN (IH G (EU (gf z 1) (PI b4)) (of_decide_eq_false hb)) aM)
end
section
variable {cs:Scope}{c:Fm W0 cs}{sc:Scope}{k:Cx c sc}{m:Lo}{n:Ns}{R:Re}
theorem wU(h1:Ev k m n e1 (.int i1))(h2:Ev k m n e2 (.int i2))(h3:Ev k m n e3 (.int i3))
  (U:autoParam (∀r,SE k.env e1 r) zAb) (O:autoParam (∀r,SE k.env e2 r) zAb) (J:autoParam (∀r,SE k.env e3 r) zAb):
  Er k m n (.Tuple [e1,e2,e3] kk pos) (λv n'=>∃t t1 t2 t3,v=.ref t∧n'=(t,dO #[.int i1 t1,.int i2 t2,.int i3 t3])::n∧∀p∈n,@aP Nat _ p.1 t):=
 ⟨λQ s hi hq=>vM (yo h1 h2 h3 U O J hi λv1 v2 v3 s1 H d2 G B=>by
  refine cp H λt1 z=>?_
  try clear H
  subst z;refine cp d2 λt2 u=>?_
  try clear d2
  subst u;refine cp G λt3 e=>?_
  try clear G
  subst e;refine gJ (qw k B) λm0 ex F N cl=>?_
  exact iC F N (λD h' F' Y hl=>hq _ _ _ (QE D t1 t2 t3 rfl rfl (λp hp=>hl p (zR hp))) (cl h' s1.toks D _ F' Y)) (by decide:(3:Nat)≤dY))⟩
theorem tF(h1:Ev k m n e1 (.int i1))(h2:Ev k m n e2 (.int i2))(h3:Ev k m n e3 (.int i3))(h4:Ev k m n e4 (.int G))
  (q1:autoParam (∀r,SE k.env e1 r) zAb) (q2:autoParam (∀r,SE k.env e2 r) zAb) (q3:autoParam (∀r,SE k.env e3 r) zAb) (q4:autoParam (∀r,SE k.env e4 r) zAb):
  Er k m n (.Tuple [e1,e2,e3,e4] kk pos) (λv n'=>∃t t1 t2 t3 t4,v=.ref t∧n'=(t,dO #[.int i1 t1,.int i2 t2,.int i3 t3,.int G t4])::n∧∀p∈n,@aP Nat _ p.1 t):=
 ⟨λQ s hi hq=>vM (aI (h1.run _ s hi λv1 s1 O i1=>aI (h2.run _ s1 i1 λv2 s2 d2 i2=>aI (h3.run _ s2 i2 λv3 Y J i3=>aI (h4.run _ Y i3 λv4 U H G=>bJ (by
  refine cp O λt1 B=>?_
  try clear O
  subst B;refine cp d2 λt2 z=>?_
  try clear d2
  subst z;refine cp J λt3 u=>?_
  try clear J
  subst u;refine cp H λt4 e=>?_
  try clear H
  subst e;refine gJ (qw k G) λm0 ex F N cl=>?_
  exact iC F N (λD h' F' N' hl=>hq _ _ _ (QC D t1 t2 t3 t4 rfl rfl (λp hp=>hl p (zR hp))) (cl h' U.toks D _ F' N')) (by decide:(4:Nat)≤dY))) (q4 _)) (q3 _)) (q2 _)) (q1 _))⟩
end
section
variable {cs:Scope}{c:Fm W0 cs}{m:Lo}{n:Ns}{R:Re}{l:Addr}{vs:List Value}{ep:Nat}
theorem gM{x e:PE}{z u pos:Pos}{H:M7 Bool}{rest:List Stmt}{P:Value→Ns→Prop}(J:Ev c.cx m n x (.val (.ref l)))(hm:(l,listOf vs.toArray ep)∈n)(he:Er c.cx m n e P)(hz:vs.length≤dY)
  (h:∀v n',P v n'→∃n2,Upd l (listOf vs.toArray ep) (listOf (vs++[v]).toArray (ep+1)) n' n2∧cK c m n2 rest R)
  (c1:autoParam (eval (.Call (.Attribute x "append" z) [e] [] u) c.env=(do
   let G ← eval x c.env
   f8 z.atName
   let (f,first) ← gm [G] (gL G "append" H)
   iG u f first (ff u (bV [e] c.env)) [])) zAa) (c2:autoParam (SE c.env e []) zAa)
  (hi:autoParam (y8 c.env=false) zAa) (hs:autoParam (f0 (.Call (.Attribute x "append" z) [e] [] u) none pos.line c.env=ck false) zAa):
  cK c m n (.Expr (.Call (.Attribute x "append" z) [e] [] u) pos::rest) R:=
 bK ⟨λQ s B hq=>ib (ix (J.run _ s B λv s1 hv i1=>by
  cases hv;have O:=i1.at.2 _ hm;refine PySem.Calls.getMethod_list_append O.1 rfl rfl (lK (aI (he.run _ s1 i1 λv n' s2 hp i2=>bJ ?_) c2) c2);refine fK (h v n' hp) λn2 U hn=>?_
  have Y:listOf (vs++[v]).toArray (ep+1)=listOf (vs.toArray.push v) (ep+1):=by simp
  rw[Y] at U
  exact append_K i2.at.1 i2.at.2 U (λh' F' N'=>hq .next _ _ _ hn (i2.to (tk:=s2.toks) F' N')) (by rw[aV];exact hz)) c1) hi hs⟩
theorem E8{t2:Tok}{t3:Tok}(hx:Ev c.cx m n x (.val (.ref l)))
  (U:Upd l (listOf (vs++[bF q]).toArray ep) (listOf vs.toArray (ep+1)) n n') (ht:(q,dO #[.int a1 t1,.int a2 t2,.int a3 t3,.int a4 t4])∈n') (hz:(vs++[bF q]).length≤dY)
  (h:cK c (ci (ci (ci (ci m x1 (.int a1 t1)) x2 (.int a2 t2)) x3 (.int a3 t3)) Y (.int a4 t4)) n' rest R)
  (c1:autoParam (eval (.Call (.Attribute x "pop" z) [] [] u) c.env=(do
   let ov ← eval x c.env
   f8 z.atName
   let (f,first) ← gm [ov] (gL ov "pop" pl)
   iG u f first (ff u (bV [] c.env)) [])) zAa)
  (he:autoParam ((da e c.env).map (·.2)=[de (.Name x1 p1) c.env,de (.Name x2 p2) c.env,de (.Name x3 p3) c.env,de (.Name Y p4) c.env]) zAa) (hn:autoParam ((da e c.env).length=4) zAa) (H:autoParam ((da e c.env).findIdx? (·.1)=none) zAa)
  (hs:autoParam (lV [.Tuple e kk B] (.Call (.Attribute x "pop" z) [] [] u) pos.line c.env=ck false) zAa)
  (hw:autoParam (fU [.Tuple e kk B] (.Call (.Attribute x "pop" z) [] [] u) c.env=ck none) zAa)
  (k1:autoParam (c.env.kindOf x1=some .local) zAa) (k2:autoParam (c.env.kindOf x2=some .local) zAa) (k3:autoParam (c.env.kindOf x3=some .local) zAa) (k4:autoParam (c.env.kindOf Y=some .local) zAa):
  cK c m n (.Assign [.Tuple e kk B] (.Call (.Attribute x "pop" z) [] [] u) pos::rest) R:=
 bK ⟨λQ s O hq=>I7 (ix (hx.run _ s O λv s1 hv i1=>by
  cases hv;obtain ⟨pre,post,J,-,-,-⟩:=U.split;refine kl_method i1.at.2 (D:=l) (J▸zR (zH)) PySem.F.slot_list_pop PySem.F.type_list_pop (callWith_method0 (kl_pop i1.at.1 i1.at.2 (kpa_last _ _) U hz λh' F' N'=>?_));have i2:=i1.to (tk:=s1.toks) F' N';refine vL rfl (is_tup (vs:=[.int a1 t1,.int a2 t2,.int a3 t3,.int a4 t4]) i2 ht) hn H λh2 G=>?_;have i3:c.Is m n' {s1 with heap:=h2}:=i1.to (tk:=s1.toks) (F'.extBut G (aR _)) (N'.extBut G (aR _));rw[he];refine be (assign_Name (dm i3 (λs4 i4=>?_) k1));refine be (assign_Name (dm i4 (λs5 i5=>?_) k2));refine be (assign_Name (dm i5 (λs6 i6=>?_) k3));refine be (assign_Name (dm i6 (λs7 i7=>?_) k4))
  exact fz (hq .next _ _ _ h i7)) c1) hs hw⟩
theorem AI(u:Ev c.cx m n (.Name x px) (.val (.ref l)))(hm:(l,listOf vs.toArray ep)∈n)(hz:vs.length≤dY):Tw c.cx m n (.Name x px) (eval (.Name x px) c.env) (!vs.isEmpty):=
 ⟨λQ s hi hq=>xo (u.run _ s hi λv s1 hv i1=>by
  cases hv
  rcases C0 vs with rfl|⟨us,v,e⟩
  .exact BG i1.at.2 hm (hq _ i1.toks)
  .rw[C1] at e
   subst e;refine zj i1.at.2 hm hz ?_
   have e2:(!(us++[v]).isEmpty)=true:=by cases us<;>rfl
   exact e2▸hq _ i1.toks) rfl⟩
theorem yf(hf:fF (hd.heap_1 W0.params) (.ref 171) "__iter__"=some (some (.builtin "tuple.__iter__")))(aj:lm (hd.heap_1 W0.params) 171 (.type "tuple")=some true)
  (he:Ev c.cx m n iter (.val (.ref l))) (hl:(l,listOf (refsOf ms).toArray ep)∈n) (J:Nat→Lo→Ns→Prop) (hJ:J 0 m n) (ap:∀i m n,J i m n→∀q∈ms,sL n q)
  (turn:∀i q a b t1 t2 t3 B u I o,ms[i]?=some q→(∀p∈u,@Ne Nat p.1 I)→J i B u→cK c (ci (ci (ci B x1 (.int a t1)) x2 (.int b t2)) x3 (.int q.2 t3)) ((I,o)::u) body (Ps (md c rest R) I o (l,listOf (refsOf ms).toArray ep) J (i+1)))
  (done:∀B u,J ms.length B u→cK c B u rest R)
  (ar:autoParam ((da O c.env).map (·.2)=[de (.Name x1 p1) c.env,de (.Name x2 p2) c.env,de (.Name x3 p3) c.env]) zAa) (hn:autoParam ((da O c.env).length=3) zAa) (ah:autoParam ((da O c.env).findIdx? (·.1)=none) zAa)
  (k1:autoParam (c.env.kindOf x1=some .local) zAa) (k2:autoParam (c.env.kindOf x2=some .local) zAa) (k3:autoParam (c.env.kindOf x3=some .local) zAa) (hs:autoParam (∀z,bW iter c.env z=ck z) zAb):
  cK c m n (.For (.Tuple O kk as) iter body [] pos::rest) R:=
 bK ⟨λQ s ab hq=>by
  refine qS (env:=c.env) ab.at.1 (he.run _ s ab λv s' hv h'=>?_) hs c.hE;cases hv;obtain ⟨h1,ax,rfl,F1,N1⟩:=h';refine CO (env:=c.env) rfl F1 N1 hl rfl rfl λI hI=>?_;refine BE (env:=c.env) (λi m n=>J i m n∧∀p∈n,@Ne Nat p.1 I) ⟨hJ,λp hp=>aB (hI p hp)⟩ (λi v B u o h tk hv j _ F N=>?_) (λB u h tk j F N=>hq .next _ _ _ (done B u (by have:=j.1;simpa [refsOf] using this)) ⟨h,tk,rfl,F,N⟩);obtain ⟨j,Y⟩:=j;obtain ⟨q,U,rfl⟩:=mH hv;obtain ⟨dx,a,b,t1,t2,t3,aa⟩:=ap _ _ _ j q (cq U);refine uo (K:=hd.heap_1 W0.params) (C:=171) rfl F N c.X (zT aa) rfl rfl hf aj hn ah λh' F' N'=>?_;rw[ar];refine be (assign_Name (dm (c:=c) (n:=(I,o)::u) ⟨h',tk,rfl,F',N'⟩ (λs4 i4=>?_) k1));refine be (assign_Name (dm i4 (λs5 i5=>?_) k2));refine be (assign_Name (dm i5 (λs6 i6=>fz ?_) k3));refine(turn i q a b t1 t2 t3 B u I o U Y j).run _ s6 i6 λf m' n' s' r i'=>Bb (R:=md c rest R) (I:=I) (o:=o) (kp:=(l,listOf (refsOf ms).toArray ep)) (J:=λi m n=>J i m n∧∀p∈n,@Ne Nat p.1 I) (i:=i+1) i' ⟨h,tk,rfl⟩ hq ?_
  cases f with
  | ret v=>exact r
  | brk=>exact r
  | next=>refine b7 r λa H=>?_;try clear r;refine fJ H λn' b d e=>?_;try clear H;exact⟨a,n',b,d,e,λp hp=>(b p hp).2⟩
  | cont=>refine b7 r λa G=>?_;try clear r;refine fJ G λn' b d e=>?_;try clear G;exact⟨a,n',b,d,e,λp hp=>(b p hp).2⟩⟩
theorem Ce{u:List PE}{kk:Nat}{z pos px:Pos}{e:PE}{rest:List Stmt}{O J H x:Str}{p1 p2 p3:Pos}{P:Int→Int→Int→Tok→Tok→Tok→Addr→Addr→Ns→Prop}(hf:fF (hd.heap_1 W0.params) (.ref 171) "__iter__"=some (some (.builtin "tuple.__iter__")))(Y:lm (hd.heap_1 W0.params) 171 (.type "tuple")=some true)
  (he:Er c.cx m n e (λv n'=>∃a b d t1 t2 t3 r dx,v=.ref r∧(r,dT dx a b d t1 t2 t3)∈n'∧P a b d t1 t2 t3 r dx n'))
  (h:∀a b d t1 t2 t3 r dx n',P a b d t1 t2 t3 r dx n'→cK c (ci (ci (ci (ci m O (.int a t1)) J (.int b t2)) H (.int d t3)) x (.ref r)) n' rest R)
  (hw:autoParam (fU [.Tuple u kk z,.Name x px] e c.env=ck none) zAa) (h2:autoParam ((da [.Tuple u kk z,.Name x px] c.env).map (·.2)=[de (.Tuple u kk z) c.env,de (.Name x px) c.env]) zAa)
  (aa:autoParam ((da u c.env).map (·.2)=[de (.Name O p1) c.env,de (.Name J p2) c.env,de (.Name H p3) c.env]) zAa) (hn:autoParam ((da u c.env).length=3) zAa) (U:autoParam ((da u c.env).findIdx? (·.1)=none) zAa)
  (k1:autoParam (c.env.kindOf O=some .local) zAa) (k2:autoParam (c.env.kindOf J=some .local) zAa) (k3:autoParam (c.env.kindOf H=some .local) zAa) (k4:autoParam (c.env.kindOf x=some .local) zAa):
  cK c m n (.Assign [.Tuple u kk z,.Name x px] e pos::rest) R:=
 bK ⟨λQ s hi hq=>qO (he.run _ s hi λv n' s1 hv i1=>by
  refine Qf hv λa b d t1 t2 t3 r dx B G hP=>?_
  try clear hv
  subst B;refine uo (K:=hd.heap_1 W0.params) (C:=171) rfl i1.at.1 i1.at.2 c.X G rfl rfl hf Y hn U λh' F' N'=>?_;rw[aa];refine be (assign_Name (dm (i1.to (tk:=s1.toks) F' N') (λs4 i4=>?_) k1));refine be (assign_Name (dm i4 (λs5 i5=>?_) k2));refine be (assign_Name (dm i5 (λs6 i6=>fz ?_) k3))
  exact assign_Name (dm i6 (λs7 i7=>hq .next _ _ _ (h _ _ _ _ _ _ _ _ _ hP) i7) k4)) h2 hw⟩
theorem mY:Er k m n (.List [] pos) (λv n'=>∃d,v=.ref d∧n'=(d,listOf ([]:List Value).toArray 0)::n∧∀q∈n,@aP Nat _ q.1 d):=
 ⟨λQ s hi hq=>List_ (bJ (by
  refine gJ (qw k hi) λm0 ex F N cl=>?_
  exact yT F N (λd h' u e l=>hq _ _ _ (cZ d rfl rfl (λq hq=>l q (zR hq))) (cl h' s.toks d _ u e)) (by decide)))⟩
theorem E5(he:Ev c.cx m n e (.int i))(h:∀t,cK c (ci (ci (ci m G (.int i t)) B (.int i t)) z (.int i t)) n rest R)
  (hw:autoParam (fU [.Name G O,.Name B J,.Name z H] e c.env=ck none) zAa) (h2:autoParam ((da [.Name G O,.Name B J,.Name z H] c.env).map (·.2)=[de (.Name G O) c.env,de (.Name B J) c.env,de (.Name z H) c.env]) zAa)
  (k1:autoParam (c.env.kindOf G=some .local) zAa) (k2:autoParam (c.env.kindOf B=some .local) zAa) (k3:autoParam (c.env.kindOf z=some .local) zAa):
  cK c m n (.Assign [.Name G O,.Name B J,.Name z H] e pos::rest) R:=
 bK ⟨λQ s hi hq=>wpAny_Assign_three (he.run _ s hi λv s1 hv i1=>by
  refine cp hv λt u=>?_
  try clear hv
  subst u;refine assign_Name (dm (c:=c) i1 (λs2 i2=>?_) k1);refine assign_Name (dm (c:=c) i2 (λs3 i3=>?_) k2)
  exact assign_Name (dm (c:=c) i3 (λY U=>hq .next _ _ _ (h t) U) k3)) h2 hw⟩
theorem Cc(hu:c.A.units+1<cT)(hf:fF (hd.heap_1 W0.params) (.ref 171) "__lt__"=some (some (.builtin "tuple.__lt__")))(O:lm (hd.heap_1 W0.params) 171 (.type "tuple")=some true)
  (hx:Ev c.cx m n x (.val (.ref l))) (U:xh l (listOf (refsOf ms).toArray ep) n g) (hM:∀q∈ms,sL T q) (hT:∀o,∀p∈T,p∈g o) (aa:ms.length<64)
  (h:∀z c',z.Perm ms→cK c m (g (listOf (refsOf z).toArray c')) rest R)
  (c1:autoParam (eval (.Call (.Attribute x "sort" u) [] [] e) c.env=(do
   let ov ← eval x c.env
   f8 u.atName
   let (f,first) ← gm [ov] (gL ov "sort" pl)
   iG e f first (ff e (bV [] c.env)) [])) zAa)
  (hi:autoParam (y8 c.env=false) zAa) (hs:autoParam (f0 (.Call (.Attribute x "sort" u) [] [] e) none pos.line c.env=ck false) zAa):
  cK c m n (.Expr (.Call (.Attribute x "sort" u) [] [] e) pos::rest) R:=
 bK ⟨λQ s Y hq=>ib (ix (hx.run _ s Y λv s1 hv i1=>by
  cases hv;refine hH U.split λpre post J H G B=>?_;clear H;clear G;clear B;refine kl_method i1.at.2 (D:=l) (J▸zR (zH)) PySem.F.slot_list_sort PySem.F.type_list_sort (callWith_method0 ?_)
  exact zM hu c.X hf O i1.at.1 i1.at.2 U hM hT aa λz h' tk' c' hp F' N'=>hq .next _ _ _ (h z c' hp) (i1.to F' N')) c1) hi hs⟩
end
noncomputable abbrev K1(W0:World):Frag:=hd.heap_1 W0.params
noncomputable def yc:ve→Value
 | .ret v=>v
 | _=>.none
structure fg(W0:World)(f:Addr)(args:List Value)(n:Ns)(dp un:Nat)(P:Value→Ns→Prop):Prop where
 run:∀{gp:Program}{gl:List Str}{mean:ExcName→Option Value}{mg mb:Lo}{dp0 un0:Nat}{gd:Option (List sR)}{cn:Str}{cs:Scope}{a:Addr}{ccd:Value}{cl:List (Str×Addr)}{outer:List Env}{A₀:Around}{base h₀:Heap}{L:Addr}{m:Lo}{s:Shared}{Q E:VP},
  qU A₀ base outer h₀→Fr h₀ L s.heap m→(K1 W0).In h₀→ba h₀ L s.heap n→Top gp gl mean mg mb h₀→cs.kind=.function→dp0+dp<aH→un0+un<cT→
  (∀v n' h' tk',P v n'→Fr h₀ L h' m→ba h₀ L h' n'→Q v {s with heap:=h',toks:=tk'})→ay (aq P0 W0) (ic dp0 un0 gd cn cs L a ccd cl outer) (call (.ref f) args) Q E s
theorem lf{f:Addr}{args:List Value}{n:Ns}{dp un:Nat}{P:Value→Ns→Prop}{name qual:Str}{params:j8}{body:List Stmt}{scope:Scope}{dV kV doc pm z ct oc:Value}{an od:Option Addr}{O:Array (Option Value)}{binds:List (Str×Value)}
  (ho:(K1 W0).lookup f=some ⟨oc,od,.func (Mz name qual params body scope dV kV doc pm an z ct),O⟩) (ah:codeIn (K1 W0) z qual=true)
  (u:∀s:Shared,(K1 W0).In s.heap→I5 s (Mz name qual params body scope dV kV doc pm an z ct) ⟨args,[]⟩ binds) (G:∀y∈binds,scope.names.lookup y.1=some .local) (ab:scope.isCoroutine=false) (H:scope.isGenerator=false) (hk:scope.kind=.function) (e:∀x∈scope.names,x.2≠.cell)
  (h:∀c:Fm W0 scope,c.dp+dp<aH→c.un+un<cT→cK c (λy=>binds.reverse.lookup y) n body (λJ _ n'=>P (yc J) n')):fg W0 f args n (dp+1) (un+3) P:=
 ⟨λB F X N T Y hd hu hq=>ev (xg B F X N T rfl rfl Y ho ah (by show _<aH;simp only;exact C9 hd) (u _ (X.keeps F.keep)) G (λg L' aj FG F' N' B' X' T'=>by
  refine uH (cs:=scope) B' F' X' N' T' hk (by passes_own) (λJ _ n'=>P (yc J) n') (λc aa U=>h c (by rw[aa];simp only;lia) (by rw[U];simp only;lia)) ?_;intro J m' n' h' tk hP F2 N2
  exact tS F2 N2 λkF kN=>hq _ _ _ _ hP kF kN) ab H hk e)⟩
section
variable {cs:Scope}{c:Fm W0 cs}{sc:Scope}{k:Cx c sc}{m:Lo}{n:Ns}{R:Re}{rest:List Stmt}{x C D:Addr}{es:List DictEntry}{en:Nat}{name:Str}
theorem Ii(he:Ev k m n e (.val (.ref x)))(h1:(x,cY C D)∈n)(h2:(D,lE es en)∈n)(z:xf (K1 W0) C name=true)(hh:hasDictIn (K1 W0) C=true)(ha:fF (K1 W0) (.ref C) name=some u)(hn:noGet (K1 W0) u=true)(hl:Ax name es=some (some v))(hv:qQ v=true)
  (hq:autoParam (eval (.Attribute e name pos) k.env=(do
   let o ← eval e k.env
   f8 pos.atName
   let r ← gm [o] (jJ o name true)
   eU e o r
   ck r)) zAc):Ev k m n (.Attribute e name pos) (.val v):=
 ⟨λQ s hi hQ=>oh (he.run _ s hi λv s1 B i1=>by
  cases B;refine hH (k.opn i1) λm0 ex _ F N _=>?_
  exact get_own F c.X (gh N (zR h1) (zR h2)) z hh ha hn hl hv (hQ _ _ rfl i1.toks)) hq⟩
theorem ye{e val:PE}{u pos:Pos}{v:Value}{es':Tok→List DictEntry}{n':Tok→Ns}{z:Nat}(hv:Ev c.cx m n val (.val v))(he:Ev c.cx m n e (.val (.ref x)))(h1:(x,cY C D)∈n)(h2:(D,lE es en)∈n)
  (hs:fF (K1 W0) (.ref C) "__setattr__"=some (some (.builtin "object.__setattr__"))) (hp:plainOver (K1 W0) C=true) (ht:takerIn (K1 W0) C name=some none) (hh:hasDictIn (K1 W0) C=true) (hl:(Ax name es).isSome=true)
  (hE:∀t,(putL name (gi W0.params name) (.str name t) v es,putN name es en)=(es' t,z)) (U:∀t,Upd D (lE es en) (lE (es' t) z) n (n' t)) (hz:∀t,(es' t).length≤1000)
  (h:∀t,cK c m (n' t) rest R) (hq:autoParam (f0 val (some (.Attribute e name u)) pos.line c.env=ck false) zAa):cK c m n (.Assign [.Attribute e name u] val pos::rest) R:=
 bK ⟨λQ s hi hQ=>xw (hv.run _ s hi λv1 s1 B i1=>he.run _ s1 i1 λv2 s2 d2 i2=>by
  cases B;cases d2
  exact CN i2.at.1 c.X i2.at.2 (gh i2.at.2 h1 h2) rfl hs hp ht hh hl (hE _) (U _) (hz _) λh' H G=>hQ .next _ _ _ (h _) (i2.to H G)) hq⟩
inductive uZ(k:Cx c sc)(m:Lo)(n:Ns):List PE→List Value→Prop
 | nil:uZ k m n [] []
 | cons {e:PE}{es:List PE}{v:Value}{vs:List Value} (he:Ev k m n e (.val v)) (ha:uZ k m n es vs) (q:autoParam (∀r,SE k.env e r) zAb):uZ k m n (e::es) (v::vs)
theorem IK{pos:Pos}{es:List PE}{vs:List Value}{Q:List Value→Shared→Prop}{s:Shared}(h:uZ k m n es vs)(hi:k.Is m n s)(hq:∀s',k.Is m n s'→Q vs s'):ay (aq P0 W0) c.A (spliced (ff pos (bV es k.env))) Q k.E s:=by
 induction h generalizing Q s with
 | nil=>exact bJ (hq _ hi)
 | cons he ha q e=>
  refine aI (he.run _ s hi λv1 s1 u i1=>?_) (q _);cases u;exact e i1 hq
theorem pI{e a:PE}{z:List PE}{u pos:Pos}{H:M7 Bool}{f:Addr}{vs:List Value}{dp un:Nat}{P:Value→Ns→Prop}(hC:fg W0 f (.ref x::vs) n dp un P)(he:Ev c.cx m n e (.val (.ref x)))(O:uZ c.cx m n (a::z) vs)(h1:(x,cY C D)∈n)(h2:(D,lE es en)∈n)
  (hl:Ax name es=some none) (hd:c.dp+dp<aH) (hu:c.un+un<cT) (hk:cs.kind=.function)
  (J:autoParam (xf (K1 W0) C name=true) zAc) (hf:autoParam (fF (K1 W0) (.ref C) name=some (some (.ref f))) zAc) (ht:autoParam (isFn (K1 W0) (.ref f)=true) zAc) (hkp:autoParam (lB (K1 W0) (.ref f)=true) zAc) (c1:autoParam (eval (.Call (.Attribute e name u) (a::z) [] pos) c.env=(do
   let G ← eval e c.env
   f8 u.atName
   let (f,first) ← gm [G] (gL G name H)
   iG pos f first (ff pos (bV (a::z) c.env)) [])) zAa) (c2:autoParam (bV (a::z) c.env=(false,eval a c.env)::bV z c.env) zAa) (c3:autoParam ((ff pos (bV z c.env)).any (·.1)=false) zAa):
  Er c.cx m n (.Call (.Attribute e name u) (a::z) [] pos) P:=
 ⟨λQ s hi hQ=>ix (he.run _ s hi λv s1 U i1=>by
  cases U;refine Mx i1.at.1 c.X (gh i1.at.2 h1 h2) J hf ht hl ?_;refine lF c.X hkp ?_ c2 (hplain:=c3)
  refine IK O i1 λs2 i2=>⟨c.X.keeps i2.at.1.keep,?_⟩
  exact hC.run c.B i2.at.1 c.X i2.at.2 c.T hk hd hu λv n' h' tk' hp F' Y=>hQ _ _ _ hp (i2.to F' Y)) c1⟩
theorem rz{e:PE}{u pos:Pos}{G:M7 Bool}{f:Addr}{dp un:Nat}{P:Value→Ns→Prop}(hC:fg W0 f [.ref x] n dp un P)(he:Ev c.cx m n e (.val (.ref x)))(h1:(x,cY C D)∈n)(h2:(D,lE es en)∈n)
  (hl:Ax name es=some none) (hd:c.dp+dp<aH) (hu:c.un+un<cT) (hk:cs.kind=.function)
  (H:autoParam (xf (K1 W0) C name=true) zAc) (hf:autoParam (fF (K1 W0) (.ref C) name=some (some (.ref f))) zAc) (ht:autoParam (isFn (K1 W0) (.ref f)=true) zAc) (hkp:autoParam (lB (K1 W0) (.ref f)=true) zAc) (c1:autoParam (eval (.Call (.Attribute e name u) [] [] pos) c.env=(do
   let z ← eval e c.env
   f8 u.atName
   let (f,first) ← gm [z] (gL z name G)
   iG pos f first (ff pos (bV [] c.env)) [])) zAa):
  Er c.cx m n (.Call (.Attribute e name u) [] [] pos) P:=
 ⟨λQ s hi hQ=>ix (he.run _ s hi λv s1 J i1=>by
  cases J;refine Mx i1.at.1 c.X (gh i1.at.2 h1 h2) H hf ht hl ?_;refine MC (c.X.keeps i1.at.1.keep) hkp ?_
  exact hC.run c.B i1.at.1 c.X i1.at.2 c.T hk hd hu λv n' h' tk' hp U O=>hQ _ _ _ hp (i1.to U O)) c1⟩
theorem oP{e:PE}{pos:Pos}{P:Value→Ns→Prop}(he:Er c.cx m n e P)(h:∀v n',P v n'→cK c m n' rest R)(hi:autoParam (y8 c.env=false) zAa)(hs:autoParam (f0 e none pos.line c.env=ck false) zAa):cK c m n (.Expr e pos::rest) R:=
 bK ⟨λQ s i hq=>ib (he.run _ s i λv n' s' hp u=>hq .next _ _ _ (h v n' hp) u) hi hs⟩
end
structure RI(W0:World)(name:Str):Prop where
 g:xf (hd.heap_1 W0.params) 278 name=true
 f:fF (hd.heap_1 W0.params) (.ref 278) name=some none
 t:takerIn (hd.heap_1 W0.params) 278 name=some none
structure SJ(W0:World)(name:Str)(fa:Addr):Prop where
 g:xf (hd.heap_1 W0.params) 278 name=true
 f:fF (hd.heap_1 W0.params) (.ref 278) name=some (some (.ref fa))
 t:isFn (hd.heap_1 W0.params) (.ref fa)=true
 k:lB (hd.heap_1 W0.params) (.ref fa)=true
structure RH(W0:World):Prop where
 h:hasDictIn (hd.heap_1 W0.params) 278=true
 s:fF (hd.heap_1 W0.params) (.ref 278) "__setattr__"=some (some (.builtin "object.__setattr__"))
 p:plainOver (hd.heap_1 W0.params) 278=true
inductive Jz(n:Ns)(a b:Value):Bool→Prop
 | other (hp:plainIs a b=true) (hne:a≠b):Jz n a b false
 | self {l:Addr} (ha:a=.ref l) (hb:b=.ref l):Jz n a b true
 | refs {l l2:Addr}{o o2:Obj} (ha:a=.ref l) (hb:b=.ref l2) (hl:l≠l2) (h1:(l,o)∈n) (h2:(l2,o2)∈n) (hc:o.cls≠.type "tuple"):Jz n a b false
section
variable {cs:Scope}{c:Fm W0 cs}{sc:Scope}{k:Cx c sc}{m:Lo}{n:Ns}{R:Re}{rest:List Stmt}{x D:Addr}{es:List DictEntry}{en:Nat}
theorem oz{pos wh}(hl:Ev k m n l (.val a))(hr:Ev k m n r (.val b))(hc:Jz n a b t)(hm:autoParam (eN .Is r=false) zAc):Tw k m n (.Compare l [.Is] [r] pos) wh t:=
 ⟨λ_ s hi hq=>bX (hl.run _ s hi λv s1 hv h1=>hr.run _ s1 h1 λv2 s2 e h2=>by
  cases hv;cases e
  cases hc with
  | other hp hne=>exact wpAny_is_other hp hne (aY (hq _ h2))
  | self ha hb=>subst ha;subst hb;exact wpAny_is_ref_self (aY (hq _ h2))
  | refs ha hb hne m1 u hc=>subst ha;subst hb;exact wpAny_is_ref_other hne (h2.get m1) (h2.get u) hc (aY (hq _ h2))) hm⟩
theorem g6(h:cK c m n rest R)(hi:autoParam (y8 c.env=false) zAa)(hs:autoParam (f0 (.Constant (.str d) kk p) none pos.line c.env=ck false) zAa):cK c m n (.Expr (.Constant (.str d) kk p) pos::rest) R:=
 bK ⟨λQ s i hq=>ib (wpAny_Constant_str (hq .next _ _ _ h i.toks)) hi hs⟩
theorem E7(h:R (.ret .none) m n):cK c m n (.Return none pos::rest) R:=bK ⟨λQ s i hq=>wpAny_Return_none (hq (.ret .none) _ _ _ h i.lib)⟩
theorem gN:Ev k m n (.Constant .none kk pos) (.val .none):=⟨λ_ _ hi hq=>MZ (hq _ _ rfl hi)⟩
theorem Lw(S:RH W0)(A:RI W0 name)(B:@Ne Nat x D)(z:∀p∈N,p.1≠D)(hv:Ev c.cx m ((x,cY 278 D)::(D,lE es en)::N) val (.val v))(he:Ev c.cx m ((x,cY 278 D)::(D,lE es en)::N) e (.val (.ref x)))
  (h:∀t,cK c m ((x,cY 278 D)::(D,lE (putL name (gi W0.params name) (.str name t) v es) (putN name es en))::N) rest R) (hl:autoParam ((Ax name es).isSome=true) zAa) (hz:autoParam (∀t,(putL name (gi W0.params name) (.str name t) v es).length≤1000) zAi) (hq:autoParam (f0 val (some (.Attribute e name u)) pos.line c.env=ck false) zAa):
  cK c m ((x,cY 278 D)::(D,lE es en)::N) (.Assign [.Attribute e name u] val pos::rest) R:=
 ye (es':=λt=>putL name (gi W0.params name) (.str name t) v es) hv he (zH) (zT (zH)) S.s S.p A.t S.h hl (λ_=>rfl) (λ_=>.tail B (.head z)) hz h hq
end
noncomputable def nm:Nat→Str
 | 0=>"isjunk" | 1=>"a" | 2=>"b" | 3=>"autojunk" | 4=>"matching_blocks" | 5=>"opcodes" | 6=>"fullbcount" | 7=>"b2j" | 8=>"bjunk" | _=>"bpopular"
theorem D1(hi:i<10)(hj:j<10)(h:i≠j):(nm i==nm j)=false:=by
 have:∀a:Fin 10,∀b:Fin 10,a≠b→(nm a==nm b)=false:=by decide
 exact this ⟨i,hi⟩ ⟨j,hj⟩ λe=>h (Fin.mk.inj e)
theorem nK(h:∀i:Fin 10,(nm i==name)=false)(hi:i<10):(nm i==name)=false:=h ⟨i,hi⟩
noncomputable def di(d:Nat→Value)(i:Nat)(v:Value):Nat→Value:=λj=>if j=i then v else d j
noncomputable def lu(W0:World)(τ:Nat→Tok)(d:Nat→Value):Nat→Nat→List DictEntry
 | _,0=>[]
 | s,n+1=>⟨gi W0.params (nm s),.str (nm s) (τ s),d s⟩::lu W0 τ d (s+1) n
noncomputable def SO(W0:World)(τ:Nat→Tok)(d:Nat→Value)(n:Nat):Obj:=lE (lu W0 τ d 0 n) n
variable {τ:Nat→Tok}{d:Nat→Value}
theorem Bi:∀{n s:Nat},i<s→(∀j,j≠i→t j = τ j)→lu W0 t (di d i v) s n=lu W0 τ d s n
 | 0,_,_,_=>rfl
 | n+1,s,h,ht=>by
  show _::_=_::_;rw[Bi (aW h) ht,ht s (aF h)];exact congrArg (λz=>DictEntry.mk _ _ z::_) (if_neg (aF h))
theorem yt:∀{n s:Nat},(lu W0 τ d s n).length=n
 | 0,_=>rfl
 | n+1,s=>congrArg (· + 1) (yt (n:=n))
theorem ly{k a n:Nat}(h:a≤n)(hk:autoParam (k≤a) zAd):k≤n:=aw hk h
theorem lx{k n b:Nat}(h:k≤n):k≤max n b:=aw h (xt ..)
theorem dl{a b k l:Nat}(h:a+b<l)(hk:autoParam (k≤b) zAd):a+k<l:=aK (bq hk a) h
theorem mx(h:n≤10)(hb:autoParam (b≤10) zAd):max n b≤10:=Nat.max_le.mpr ⟨h,hb⟩
theorem ER:(Value.str (nm s) t).isStr (nm s)=true:=beq_self_eq_true _
theorem yr:∀{n k s:Nat},k≤n→s+n≤10→s+k<10→∃B,putL (nm (s+k)) (gi W0.params (nm (s+k))) (.str (nm (s+k)) t) v (lu W0 τ d s n)=lu W0 B (di d (s+k) v) s (max n (k+1))∧((∀j,j≠s+k→B j = τ j)∧(k<n→B = τ))∧∀z,putN (nm (s+k)) (lu W0 τ d s n) z=if k<n then z else z+1
 | 0,0,s,_,_,_=>by
  refine(cZ (λj=>if j=s then t else τ j) ?_ ⟨λj hj=>if_neg hj,λh=>absurd h (c8 _)⟩ (λz=>rfl));refine(?_:[DictEntry.mk _ (.str (nm s) t) v]=[DictEntry.mk _ (.str (nm s) (if s=s then t else τ s)) (if s=s then v else d s)]);rw[if_pos rfl,if_pos rfl];rfl
 | n+1,0,s,_,h3,_=>by
  refine(cZ τ ?_ ⟨λ_ _=>rfl,λ_=>rfl⟩ (λz=>?_))
  .rw[xr (gY (c7 n))]
   refine(?_:(if (Value.str (nm s) (τ s)).isStr (nm s)=true then DictEntry.mk _ _ v::lu W0 τ d (s+1) n else _)=DictEntry.mk _ _ (if s=s then v else d s)::lu W0 τ (di d s v) (s+1) n);rw[if_pos ER,if_pos rfl,Bi (aJ _) (λ_ _=>rfl)]
  .exact if_pos (io _ _▸Or.inl ER)
 | n+1,k+1,s,h1,h3,h4=>by
  have h0:s<s+(k+1):=eA (gE k);have hb:(Value.str (nm s) (τ s)).isStr (nm (s+(k+1)))=false:=D1 (aO h0 h4) h4 (aB h0);have e:s+1+k=s+(k+1):=fN s k;have H:=yr (v:=v) (t:=t) (n:=n) (k:=k) (s:=s+1) (CU h1) (fN s n▸h3) (e▸h4);rw[e] at H;refine fJ H λB x G z=>?_
  try clear H
  refine b7 G λy J=>?_
  try clear G
  refine(cZ B ?_ ⟨y,λh=>J (CT h)⟩ (λu=>?_))
  .rw[show max (n+1) (k+1+1)=max n (k+1)+1 from Nat.succ_max_succ ..]
   refine(?_:(if (Value.str (nm s) (τ s)).isStr (nm (s+(k+1)))=true then _ else DictEntry.mk _ (.str (nm s) (τ s)) (d s)::putL _ _ _ _ _)=DictEntry.mk _ (.str (nm s) (B s)) (if s=s+(k+1) then v else d s)::_);rw[if_neg (by rw[hb];exact bH),x,y s (aB h0),if_neg (aB h0)]
  .refine Eq.trans ?_ ((z u).trans (ite_congr (propext (Nat.succ_lt_succ_iff.symm)) (λ_=>rfl) λ_=>rfl))
   refine(?_:(if ((Value.str (nm s) (τ s)).isStr (nm (s+(k+1)))||_)=true then _ else _)=_);rw[hb];rfl
theorem mf(hi:i<10)(h:i≤n)(hn:n≤10):∃B,lE (putL (nm i) (gi W0.params (nm i)) (.str (nm i) t) v (lu W0 τ d 0 n)) (putN (nm i) (lu W0 τ d 0 n) n)=SO W0 B (di d i v) (max n (i+1))∧(i<n→B = τ)∧(putL (nm i) (gi W0.params (nm i)) (.str (nm i) t) v (lu W0 τ d 0 n)).length≤1000:=by
 have q:=yr (τ:=τ) (d:=d) (v:=v) (t:=t) (n:=n) (k:=i) (s:=0) h ((ie n).symm▸hn) ((ie i).symm▸hi);rw[ie] at q;refine fJ q λB x u z=>?_
 try clear q
 refine b7 u λ_ y=>?_
 try clear u
 refine(cZ B ?_ y ?_)
 .rw[x,z]
  refine congrArg (lE _) ?_
  by_cases e:i<n
  .rw[if_pos e,xr e]
  .rw[if_neg e,iw h (cJ e),MI (Nat.le_succ _)]
 .rw[x,yt]
  exact aw (mx hn hi) (by decide)
theorem Bj:∀{n s:Nat},(∀i,i<n→(nm (s+i)==name)=false)→(lu W0 τ d s n).find? (·.key.isStr name)=none∧(lu W0 τ d s n).any (·.refKey)=false
 | 0,_,_=>⟨rfl,rfl⟩
 | n+1,s,h=>by
  have hb:(Value.str (nm s) (τ s)).isStr name=false:=h 0 (gE _);refine b7 (Bj (n:=n) (s:=s+1) λi h2=>fN s i▸h (i+1) (Nat.succ_lt_succ h2)) λx y=>?_;exact⟨(BC (by rw[hb];exact bH)).trans x,y⟩
theorem iA(h:∀i,i<n→(nm i==name)=false):Ax name (lu W0 τ d 0 n)=some none:=by
 refine b7 (Bj (τ:=τ) (d:=d) (n:=n) (s:=0) (name:=name) λi hi=>(ie i).symm▸h i hi) λx y=>?_;unfold Ax;rw[x,y];rfl
theorem yu:∀{n k s:Nat},k<n→s+k<10→Ax (nm (s+k)) (lu W0 τ d s n)=some (some (d (s+k)))
 | 0,_,_,h,_=>absurd h (xq _)
 | n+1,0,s,_,_=>by
  refine(?_:Ax (nm s) _=some (some (d s)));unfold Ax;rw[show (lu W0 τ d s (n+1)).find? (·.key.isStr (nm s))=some ⟨gi W0.params (nm s),.str (nm s) (τ s),d s⟩ from List.find?_cons_of_pos ER]
 | n+1,k+1,s,h,h4=>by
  have h0:s<s+(k+1):=eA (gE k);have hb:(Value.str (nm s) (τ s)).isStr (nm (s+(k+1)))=false:=D1 (aO h0 h4) h4 (aB h0);have e:s+1+k=s+(k+1):=fN s k;have u:=yu (n:=n) (k:=k) (s:=s+1) (CT h) (e▸h4);rw[e] at u;refine Eq.trans ?_ u;unfold Ax;rw[show (lu W0 τ d s (n+1)).find? (·.key.isStr (nm (s+(k+1))))=(lu W0 τ d (s+1) n).find? (·.key.isStr (nm (s+(k+1)))) from BC (by rw[hb];exact bH)];rfl
theorem Gg(hi:i<n)(h:i<10):Ax (nm i) (lu W0 τ d 0 n)=some (some (d i)):=by
 have q:=yu (τ:=τ) (d:=d) (n:=n) (k:=i) (s:=0) hi ((ie i).symm▸h)
 rwa [ie] at q
theorem rC(h9:i<10)(hi:i≤n)(h10:n≤10):(Ax (nm i) (lu W0 τ d 0 n)).isSome=true:=by
 by_cases e:i<n
 .rw[Gg e h9];rfl
 .rw[iA λj hj=>D1 (aN hj h10) h9 λq=>e (q▸hj)];rfl
structure MT(W0:World):Prop where
 c:RH W0
 atr:∀i,i<10→RI W0 (nm i)
section
variable {cs:Scope}{c:Fm W0 cs}{sc:Scope}{k:Cx c sc}{m:Lo}{N:Ns}{R:Re}{rest:List Stmt}{S D:Addr}{n:Nat}
theorem gK(K:MT W0)(i:Nat)(he:Ev k m M e (.val (.ref S)))(h1:(S,cY 278 D)∈M)(h2:(D,SO W0 τ d n)∈M)(hv:autoParam (d i=v) zAa)(hh:autoParam (qQ v=true) zAa)(hi:autoParam (i<n) zAd)(h10:autoParam (i<10) zAd)(hn:autoParam (name=nm i) zAa)
  (hq:autoParam (eval (.Attribute e name pos) k.env=(do
   let o ← eval e k.env
   f8 pos.atName
   let r ← gm [o] (jJ o name true)
   eU e o r
   ck r)) zAc):Ev k m M (.Attribute e name pos) (.val v):=by
 subst hn hv;exact Ii he h1 h2 (K.atr i h10).g K.c.h (K.atr i h10).f rfl (Gg hi h10) hh hq
theorem uL(K:MT W0)(i:Nat)(G:@Ne Nat S D)(B:∀p∈N,p.1≠D)(hv:Ev c.cx m ((S,cY 278 D)::(D,SO W0 τ d n)::N) val (.val v))(he:Ev c.cx m ((S,cY 278 D)::(D,SO W0 τ d n)::N) e (.val (.ref S)))
  (h:∀u,(i<n→u = τ)→cK c m ((S,cY 278 D)::(D,SO W0 u (di d i v) (max n (i+1)))::N) rest R) (hi:autoParam (i≤n) zAd) (h9:autoParam (i<10) zAd) (h10:autoParam (n≤10) zAd) (hn:autoParam (name=nm i) zAa) (hq:autoParam (f0 val (some (.Attribute e name z)) pos.line c.env=ck false) zAa):
  cK c m ((S,cY 278 D)::(D,SO W0 τ d n)::N) (.Assign [.Attribute e name z] val pos::rest) R:=by
 subst hn;refine Lw K.c (K.atr i h9) G B hv he (λt=>?_) (rC h9 hi h10) (λt=>?_) hq
 .refine fJ (mf (τ:=τ) (d:=d) (v:=v) (t:=t) h9 hi h10) λu x y _=>?_
  rw[x];exact h u y
 .exact(mf (τ:=τ) (d:=d) (v:=v) (t:=t) h9 hi h10).elim λ_ x=>x.2.2
theorem wR(K:MT W0)(i j:Nat)(d1:@Ne Nat S D)(Y:∀p∈N,p.1≠D)(hv:Ev c.cx m ((S,cY 278 D)::(D,SO W0 τ d n)::N) val (.val v))(he:∀n,Ev c.cx m n e (.val (.ref S)))(O:∀n,Ev c.cx m n e2 (.val (.ref S)))
  (h:∀G,(i<n→j<n→G = τ)→cK c m ((S,cY 278 D)::(D,SO W0 G (di (di d i v) j v) (max (max n (i+1)) (j+1)))::N) rest R) (hi:autoParam (i≤n) zAd) (hj:autoParam (j≤max n (i+1)) zAd) (h9:autoParam (i<10) zAd) (H:autoParam (j<10) zAd) (h10:autoParam (n≤10) zAd) (hn:autoParam (name=nm i) zAa) (J:autoParam (u=nm j) zAa)
  (hw:autoParam (fU [.Attribute e name B,.Attribute e2 u z] val c.env=ck none) zAa) (hq:autoParam ((da [.Attribute e name B,.Attribute e2 u z] c.env).map (·.2)=[de (.Attribute e name B) c.env,de (.Attribute e2 u z) c.env]) zAa):
  cK c m ((S,cY 278 D)::(D,SO W0 τ d n)::N) (.Assign [.Attribute e name B,.Attribute e2 u z] val pos::rest) R:=by
 subst hn J;have hm:max n (i+1)≤10:=mx h10 h9
 refine bK ⟨λQ s hI hQ=>qO (hv.run _ s hI λv1 s1 U i1=>kas_attr ((he _).run _ s1 i1 λv2 s2 d2 i2=>by
  cases U;cases d2;refine CN i2.at.1 c.X i2.at.2 (gh i2.at.2 (zH) (zT (zH))) rfl K.c.s K.c.p (K.atr i h9).t K.c.h (rC h9 hi h10) rfl (.tail d1 (.head Y)) ((mf h9 hi h10).elim λ_ x=>x.2.2) λh' F' N'=>?_;refine fJ (mf (τ:=τ) (d:=d) (v:=v) (t:=s2.toks+1) h9 hi h10) λG x y1 _=>?_;rw[x] at N';refine kas_attr ((O _).run _ _ (i2.to F' N') λv3 s3 d3 i3=>?_);cases d3;refine CN i3.at.1 c.X i3.at.2 (gh i3.at.2 (zH) (zT (zH))) rfl K.c.s K.c.p (K.atr j H).t K.c.h (rC H hj hm) rfl (.tail d1 (.head Y)) ((mf H hj hm).elim λ_ x=>x.2.2) λh2 F2 N2=>?_;refine fJ (mf (τ:=G) (d:=di d i v) (v:=v) (t:=s3.toks+1) H hj hm) λaa y y2 _=>?_;rw[y] at N2
  exact hQ .next _ _ _ (h _ λa b=>(y2 (aN b (xt ..))).trans (y1 a)) (i3.to F2 N2))) hq hw⟩
end
end
section
open W PyProof Rows
section
variable {cs:Scope}{c:Fm W0 cs}{sc:Scope}{k:Cx c sc}{m:Lo}{n:Ns}{R:Re}{rest:List Stmt}
theorem cO(e:autoParam (nsIn (K1 W0) gQ x=some none) zAc)(hv:autoParam (bootBuiltins x=some v) zAc)(hn:autoParam (x≠"__name__") zAd)(u:autoParam (c.env.kindOf x=some .globalImplicit) zAa)(hd:autoParam ((x==("__debug__" : Str))=false) zAd):Ev c.cx m n (.Name x pos) (.val v):=
 ⟨λQ s hi hQ=>nameX_B hi.at.1 c.X (CM c.T) e hv hn (hQ _ _ rfl hi) c.hk u hd⟩
theorem fT(e:autoParam (nsIn (K1 W0) gQ x=some (some v)) zAc)(u:autoParam (c.env.kindOf x=some .globalImplicit) zAa)(hd:autoParam ((x==("__debug__" : Str))=false) zAd):Ev c.cx m n (.Name x pos) (.val v):=
 ⟨λQ s hi hQ=>nameX_K hi.at.1 c.X (CM c.T) e (hQ _ _ rfl hi) c.hk u hd⟩
theorem GZ(h:Ev k m n e (.val .none))(he:autoParam (isTrue e k.env (eval e k.env)=(do let v ← eval e k.env;f8 e.pos;gm [v] (truthy v))) zAa):Tw k m n e (eval e k.env) false:=
 ⟨λ_ s hi hq=>xo (h.run _ s hi λv s1 hv h1=>by cases hv;exact truthy_none (hq _ h1)) he⟩
theorem Bf(hf:Ev c.cx m n f (.val (.type "set")))(h1:autoParam (CC c.env f [] pos) zAa):
  Er c.cx m n (.Call f [] [] pos) (λv n'=>∃d led,v=.ref d∧n'=(d,dt led)::n∧∀q∈n,@aP Nat _ q.1 d):=
 ⟨λQ s hi hQ=>gq (hf.run _ s hi λv s1 e i1=>by
  cases e
  exact By (kse_new i1.at.1 i1.at.2 λD h' led z u l _ _=>hQ _ _ _ (ir D led rfl rfl l) (i1.to (tk:=s1.toks) z u))) h1⟩
theorem Cj(he:Ev c.cx m ((d,o)::N) e (.val (.ref d)))(h1:Ev c.cx m ((d,o)::N) e1 (.int i))(hN:∀p∈N,p.1≠d)(hd:nY W0 o kvs)(lo:(d==cN)=false)(hv:cX kvs i=none)(hz:kvs.length≤dY)
  (c1:autoParam (eval (.Call (.Attribute e "setdefault" u) [e1,.List [] H] [] pos) c.env=(do
   let U ← eval e c.env
   f8 u.atName
   let (f,first) ← gm [U] (gL U "setdefault" pl)
   iG pos f first (ff pos (bV [e1,.List [] H] c.env)) [])) zAa) (c2:autoParam (bV [e1,.List [] H] c.env=(false,eval e1 c.env)::bV [.List [] H] c.env) zAa) (c3:autoParam (bV [.List [] H] c.env=(false,eval (.List [] H) c.env)::bV [] c.env) zAa):
  Er c.cx m ((d,o)::N) (.Call (.Attribute e "setdefault" u) [e1,.List [] H] [] pos) (λv n'=>∃a o',v=.ref a∧n'=(a,listOf ([]:List Value).toArray 0)::(d,o')::N∧nY W0 o' (yN kvs i (.ref a))∧∀q∈(d,o)::N,@aP Nat _ q.1 a):=
 ⟨λQ s hi hQ=>ix (he.run _ s hi λv s1 Y i1=>by
  cases Y;refine Od i1.at.2 (zH) hd ?_;refine lK (aI (h1.run _ s1 i1 λv2 s2 d2 i2=>aI ((mY (k:=c.cx)).run _ s2 i2 λv3 n3 s3 O i3=>bJ ?_) c3) c2) c2 (hplain:=by refine(?_:(ff pos (bV [.List [] H] c.env)).any (·.1)=false);rw[show _=_ from c3];rfl);refine cp d2 λt G=>?_
  try clear d2
  subst G;refine fJ O λa B z l=>?_
  try clear O
  subst B;subst z
  exact kob_setdef_new (knd:=gR _ _) i3.at.1 i3.at.2 (.tail (aF (l _ (zH))) (.head hN)) hd lo (jW _ _ _ _) (PySem.F.args_dict_setdefault_3 _ _ _) hv hz λh' o' F' N' J=>hQ _ _ _ (se a o' rfl rfl J l) (i3.to F' N')) c1⟩
noncomputable def SH(R:Re)(I:Addr)(o1 o2:Obj)(kp:Addr×Obj)(J:Nat→Lo→Ns→Prop)(i:Nat)(f:ve)(m:Lo)(n:Ns):Prop:=match f with
 | .ret v=>R (.ret v) m n
 | .brk=>R .next m n
 | _=>(I+1,o1)∈n∧(I,o2)∈n∧∃n',(∀p∈n',p∈n∧p.1≠I+1∧p.1≠I)∧kp∈n'∧J i m n'
theorem Fa(hf:Ev c.cx m n f (.val (.type "enumerate")))(he:Ev c.cx m n e (.val (.ref l)))(hl:(l,listOf vs.toArray ep)∈n)(hi:au vs xs)(J:Nat→Lo→Ns→Prop)(I0:∀I,(∀p∈n,@aP Nat _ p.1 I)→J 0 m n)
  (turn:∀i x t t2 B u I o1 o2,xs[i]?=some x→(∀p∈n,@aP Nat _ p.1 I)→J i B u→(∀p∈u,@Ne Nat p.1 I∧@Ne Nat p.1 (I+1))→cK c (ci (ci B x1 (.int (i:Int) t)) x2 (.int x t2)) ((I+1,o1)::(I,o2)::u) body (SH (md c rest R) I o1 o2 (l,listOf vs.toArray ep) J (i+1)))
  (done:∀B u,J xs.length B u→cK c B u rest R)
  (c1:autoParam (CC c.env f [e] U) zAa) (c2:autoParam (SE c.env e []) zAa)
  (aj:autoParam ((da O c.env).map (·.2)=[de (.Name x1 p1) c.env,de (.Name x2 p2) c.env]) zAa) (hn:autoParam ((da O c.env).length=2) zAa) (ah:autoParam ((da O c.env).findIdx? (·.1)=none) zAa)
  (k1:autoParam (c.env.kindOf x1=some .local) zAa) (k2:autoParam (c.env.kindOf x2=some .local) zAa) (hs:autoParam (∀z,bW (.Call f [e] [] U) c.env z=ck z) zAb):
  cK c m n (.For (.Tuple O kk ap) (.Call f [e] [] U) body [] pos::rest) R:=
 bK ⟨λQ s aa hq=>by
  refine qS (env:=c.env) aa.at.1 (gq (hf.run _ s aa λv s1 d1 i1=>?_) c1) hs c.hE;cases d1;refine callWith_type1 (aI (he.run _ s1 i1 λv2 s2 d2 i2=>bJ ?_) c2) c2;cases d2;obtain ⟨h1,ar,rfl,F1,N1⟩:=i2;refine ktu_enum (env:=c.env) rfl F1 N1 hl rfl rfl rfl λI hI=>?_;refine Cp (env:=c.env) hi (λi m n=>J i m n∧∀p∈n,@Ne Nat p.1 I∧@Ne Nat p.1 (I+1)) ⟨I0 I hI,λp hp=>⟨aB (hI p hp),aB (aW (hI p hp))⟩⟩ (λi x t t2 T B u o1 o2 h tk hx j _ _ ht F N=>?_) (λB u h tk j F N=>hq .next _ _ _ (done B u j.1) ⟨h,tk,rfl,F,N⟩);obtain ⟨j,Y⟩:=j;refine vL rfl ht hn ah λh' ab=>?_;rw[aj];refine be (assign_Name (dm (c:=c) (n:=(I+1,o1)::(I,o2)::u) ⟨h',tk,rfl,F.extBut ab (aR _),N.extBut ab (aR _)⟩ (λs4 i4=>?_) k1));refine be (assign_Name (dm i4 (λs5 i5=>fz ?_) k2));refine(turn i x t t2 B u I o1 o2 hx hI j Y).run _ s5 i5 λf m' n' s' r i'=>?_
  have go:c.Is m' n' s'→((I+1,o1)∈n'∧(I,o2)∈n'∧∃n2,(∀p∈n2,p∈n'∧p.1≠I+1∧p.1≠I)∧(l,listOf vs.toArray ep)∈n2∧J (i+1) m' n2)→IX c.h₀ c.L {c.s with heap:=h,toks:=tk} [(I+1,o1),(I,o2)] (λm' n'=>IY [(l,listOf vs.toArray ep)] n'∧J (i+1) m' n'∧∀p∈n',@Ne Nat p.1 I∧@Ne Nat p.1 (I+1)) s':=by
   intro hi H;refine kq H λa b G=>?_;clear H;refine fJ G λn2 d e j=>?_
   try clear G
   obtain ⟨h2,tk2,rfl,F2,N2⟩:=hi;exact Dn F2 N2 (eR ⟨e,trivial⟩ j (λp hp=>⟨(d p hp).2.2,(d p hp).2.1⟩)) a b (λp hp=>(d p hp).1) (λp hp=>(d p hp).2.1) (λp hp=>(d p hp).2.2)
  cases f with
  | ret v=>exact hq _ _ _ _ r i'
  | brk=>exact hq .next _ _ _ r i'
  | next=>exact go i' r
  | cont=>exact go i' r⟩
end
theorem O1{C fI:Addr}{args:List Value}{n:Ns}{dp un:Nat}{P:Value→Ns→Prop}{name qual:Str}{params:j8}{body:List Stmt}{scope:Scope}{dV kV doc pm z ct oc:Value}{an od:Option Addr}{O:Array (Option Value)}{binds:Addr→List (Str×Value)}
  (hm:makesIn (K1 W0) C=true) (hi:fF (K1 W0) (.ref C) "__init__"=some (some (.ref fI))) (hf:isFn (K1 W0) (.ref fI)=true) (ho:(K1 W0).lookup fI=some ⟨oc,od,.func (Mz name qual params body scope dV kV doc pm an z ct),O⟩) (ah:codeIn (K1 W0) z qual=true)
  (u:∀(x:Addr) (s:Shared),(K1 W0).In s.heap→I5 s (Mz name qual params body scope dV kV doc pm an z ct) ⟨.ref x::args,[]⟩ (binds x)) (G:∀x,∀y∈binds x,scope.names.lookup y.1=some .local) (ab:scope.isCoroutine=false) (H:scope.isGenerator=false) (hk:scope.kind=.function) (e:∀x∈scope.names,x.2≠.cell)
  (h:∀(x d:Addr),@aP Nat _ d x→(∀p∈n,@aP Nat _ p.1 d)→∀c:Fm W0 scope,c.dp+dp<aH→c.un+un<cT→cK c (λy=>(binds x).reverse.lookup y) ((x,cY C d)::(d,lE [] 0)::n) body (λJ _ n'=>yc J=.none∧P (.ref x) n')):fg W0 C args n (dp+2) (un+6) P:=
 have e1:(pR "type.__call__" ⟨.ref C::args,[]⟩).weight=1:=rfl;have e2:(pR "type.__call__" ⟨.ref C::args,[]⟩).cUnits=1:=rfl
 ⟨λB F X N T Y hd hu hq=>call_cls F X N hm hi hf λx d h' F1 N1 l1 l2=>xg B F1 X N1 T rfl rfl Y ho ah (by show _+_<aH;rw[e1];(try simp only);lia) (u x _ (X.keeps F1.keep)) (G x) (λg L' aj FG F' N' B' X' T'=>by
  refine uH (cs:=scope) B' F' X' N' T' hk (by passes_own) (λJ _ n'=>yc J=.none∧P (.ref x) n') (λc aa U=>h x d l2 l1 c (by rw[aa];show _+_+1+_<_;rw[e1];(try simp only);lia) (by rw[U];show _+_+_+_<_;rw[e2];(try simp only);lia)) ?_;intro J m' n' h' tk hP F2 N2
  exact tS F2 N2 λkF kN=>⟨hP.1,hq _ _ _ _ hP.2 kF kN⟩) ab H hk e⟩
section
variable {τ:Nat→Tok}{d:Nat→Value}{cs:Scope}{c:Fm W0 cs}{m:Lo}{N:Ns}{R:Re}{rest:List Stmt}{S D:Addr}{n:Nat}
theorem tE(K:MT W0)(i:Nat){e val:PE}{name x:Str}{z u pos:Pos}{P:Value→Ns→Prop}(d1:@Ne Nat S D)(hv:Er c.cx m ((S,cY 278 D)::(D,SO W0 τ d n)::N) val P)(he:∀n,Ev c.cx m n e (.val (.ref S)))
  (hP:∀v n1,P v n1→∃H,(∀p∈(S,cY 278 D)::(D,SO W0 τ d n)::H,p∈n1)∧(∀p∈H,p.1≠D)∧∀B,(i<n→B = τ)→cK c (ci m x v) ((S,cY 278 D)::(D,SO W0 B (di d i v) (max n (i+1)))::H) rest R)
  (hi:autoParam (i≤n) zAd) (h9:autoParam (i<10) zAd) (h10:autoParam (n≤10) zAd) (hn:autoParam (name=nm i) zAa) (U:autoParam (c.env.kindOf x=some .local) zAa)
  (hw:autoParam (fU [.Attribute e name z,.Name x u] val c.env=ck none) zAa) (hq:autoParam ((da [.Attribute e name z,.Name x u] c.env).map (·.2)=[de (.Attribute e name z) c.env,de (.Name x u) c.env]) zAa):
  cK c m ((S,cY 278 D)::(D,SO W0 τ d n)::N) (.Assign [.Attribute e name z,.Name x u] val pos::rest) R:=by
 subst hn
 refine bK ⟨λQ s Y hQ=>qO (hv.run _ s Y λv1 n1 s1 J i1=>kas_attr ((he _).run _ s1 i1 λv2 s2 d2 i2=>by
  cases d2;refine fJ (hP _ _ J) λH sub dN hr=>?_;have i3:=i2.sub sub;refine CN i3.at.1 c.X i3.at.2 (gh i3.at.2 (zH) (zT (zH))) rfl K.c.s K.c.p (K.atr i h9).t K.c.h (rC h9 hi h10) rfl (.tail d1 (.head dN)) ((mf h9 hi h10).elim λ_ x=>x.2.2) λh' F' G=>?_;refine fJ (mf (τ:=τ) (d:=d) (v:=v1) (t:=s2.toks+1) h9 hi h10) λB x y _=>?_;rw[x] at G
  exact assign_Name (dm (i3.to F' G) (λs4 O=>hQ .next _ _ _ (hr B y) O) U))) hq hw⟩
theorem Cg(hf:Ev c.cx m M f (.val (.type "enumerate")))(he:Ev c.cx m M e (.val (.str "" t)))(h:cK c m M rest R)
  (c1:autoParam (CC c.env f [e] u) zAa) (c2:autoParam (SE c.env e []) zAa)
  (k1:autoParam (c.env.kindOf H=some .local) zAa) (k2:autoParam (c.env.kindOf G=some .local) zAa) (hs:autoParam (∀z,bW (.Call f [e] [] u) c.env z=ck z) zAb) (hp:autoParam ((c.env.scope.kind == .class||(c.env.scope.kind == .module&&c.env.locals != c.env.globals))=false) zAa):
  cK c m M (.For (.Tuple [.Name H p1,.Name G p2] kk B) (.Call f [e] [] u) body [] pos::rest) R:=
 bK ⟨λQ s hi hq=>by
  refine For_pair3 c.h₀ rfl k1 k2 hp (gq (hf.run _ s hi λv s1 O i1=>?_) c1) hs c.hE;cases O;refine callWith_type1 (aI (he.run _ s1 i1 λv2 s2 d2 i2=>bJ ?_) c2) c2;cases d2;obtain ⟨h1,J,rfl,F1,Y⟩:=i2
  exact call_enum_str rfl F1 Y λh' e F' N' S=>yw S rfl rfl λh2 tk F2 U=>hq .next _ _ _ h ⟨h2,tk,rfl,F2,U⟩⟩
theorem H9(hf:Ev c.cx m M f (.val (.builtin "len")))(he:Ev c.cx m M e (.val (.str "" t)))
  (h1:autoParam (CC c.env f [e] pos) zAa) (h2:autoParam (SE c.env e []) zAa):Ev c.cx m M (.Call f [e] [] pos) (.int 0):=
 ⟨λQ s hi hQ=>gq (hf.run _ s hi λv s1 u i1=>by
  cases u;refine callWith_builtin1 (aI (he.run _ s1 i1 λv2 s2 d2 i2=>bJ ?_) h2) h2;cases d2
  exact len_str (by decide) (hQ _ _ ⟨_,rfl⟩ (i2.toks (tk:=s2.toks+1+1)))) h1⟩
theorem ku{f e:PE}{pos:Pos}{l:Addr}{vs:List Value}{ep:Nat}{M:Ns}(hf:Ev c.cx m M f (.val (.builtin "len")))(he:Ev c.cx m M e (.val (.ref l)))(hm:(l,listOf vs.toArray ep)∈M)(hs:vs.length≤1000)
  (h1:autoParam (CC c.env f [e] pos) zAa) (h2:autoParam (SE c.env e []) zAa):Ev c.cx m M (.Call f [e] [] pos) (.int (vs.length:Nat)):=
 ⟨λQ s hi hQ=>(Fn (P':=λv n'=>n'=M∧∃t,v=.int (vs.length:Nat) t) hf (iL he) (λv n' hv=>(HT l vs ep hv.1 (hv.2▸hm) hs (λt=>⟨hv.2,t,rfl⟩))) h1 h2).run Q s hi λv n' s' hp G=>by
  refine b7 hp λz u=>?_
  try clear hp
  subst z;refine cp u λt B=>?_
  try clear u
  subst B
  exact hQ _ _ ⟨t,rfl⟩ G⟩
end
section
variable {cs:Scope}{c:Fm W0 cs}{sc:Scope}{k:Cx c sc}{m:Lo}{n:Ns}{R:Re}{rest:List Stmt}
theorem wT:Ev k m n (.Constant (.float x) kk pos) (.flt x):=⟨λ_ _ hi hq=>Mp (hq _ _ ⟨_,rfl⟩ hi.toks)⟩
theorem yj{pos}(hl:Ev k m n l (.flt x))(hr:Ev k m n r (.int a))(hm:a.natAbs<2 ^ 1023):Ev k m n (.BinOp l .Mult r pos) (.flt (fW x (bE a))):=
 ⟨λ_ s hi hq=>dX (hl.run _ s hi λv s1 hv h1=>hr.run _ s1 h1 λv2 s2 e h2=>by
  obtain ⟨t,rfl⟩:=hv;obtain ⟨u,rfl⟩:=e
  exact mul_fi_fits hm (hq _ _ ⟨_,rfl⟩ h2.toks))⟩
theorem yn{pos}(hl:Ev k m n l (.flt x))(hr:Ev k m n r (.int a))(z:¬nb (bE a)=true)(hz:¬vG (bE a)=true):Ev k m n (.BinOp l .Div r pos) (.flt (ji x (bE a))):=
 ⟨λ_ s hi hq=>dX (hl.run _ s hi λv s1 hv h1=>hr.run _ s1 h1 λv2 s2 e h2=>by
  obtain ⟨t,rfl⟩:=hv;obtain ⟨u,rfl⟩:=e
  exact sV z hz (hq _ _ ⟨_,rfl⟩ h2.toks))⟩
theorem Fe(hf:Ev k m n f (.val (.builtin "min")))(h1:Ev k m n e1 (.int a))(h2:Ev k m n e2 (.int b))
  (c1:autoParam (CC k.env f [e1,e2] pos) zAa) (c2:autoParam (SE k.env e1 [e2]) zAa) (c3:autoParam (SE k.env e2 []) zAa):Ev k m n (.Call f [e1,e2] [] pos) (.int (if b<a then b else a)):=
 ⟨λQ s hi hQ=>gq (hf.run _ s hi λv s1 z i1=>by
  cases z;refine callWith_builtin1 (aI (h1.run _ s1 i1 λv1 s2 d2 i2=>aI (h2.run _ s2 i2 λv2 H e i3=>bJ ?_) c3) c2) c2 (hplain:=by rw[show _=_ from c3];rfl);obtain ⟨t,rfl⟩:=d2;obtain ⟨u,rfl⟩:=e;obtain ⟨m0,ex,_,F,N,cl⟩:=k.opn i3
  exact min_two_N rfl F N λh' tk G B=>hQ _ _ ⟨_,rfl⟩ (cl h' tk n G B)) c1⟩
theorem wk{f e1 e2:PE}{pos:Pos}{fa:Addr}{a b:Int}{dp un:Nat}{P:Value→Ns→Prop}(hC:∀t u,fg W0 fa [.int a t,.int b u] n dp un P)(hf:Ev c.cx m n f (.val (.ref fa)))(h1:Ev c.cx m n e1 (.int a))(h2:Ev c.cx m n e2 (.int b))(hkp:lB (K1 W0) (.ref fa)=true)(hd:c.dp+dp<aH)(hu:c.un+un<cT)(hk:cs.kind=.function)
  (c1:autoParam (CC c.env f [e1,e2] pos) zAa) (c2:autoParam (SE c.env e1 [e2]) zAa) (c3:autoParam (SE c.env e2 []) zAa):Er c.cx m n (.Call f [e1,e2] [] pos) P:=
 ⟨λQ s hi hQ=>gq (hf.run _ s hi λv s1 z i1=>by
  cases z;refine lF c.X hkp ?_ c2 (hplain:=by refine(?_:(ff pos (bV [e2] c.env)).any (·.1)=false);rw[show _=_ from c3];rfl);refine aI (h1.run _ s1 i1 λv1 s2 d2 i2=>aI (h2.run _ s2 i2 λv2 J e i3=>bJ ⟨c.X.keeps i3.at.1.keep,?_⟩) c3) c2;obtain ⟨t,rfl⟩:=d2;obtain ⟨u,rfl⟩:=e
  exact(hC t u).run c.B i3.at.1 c.X i3.at.2 c.T hk hd hu λv n' h' tk' hp H G=>hQ _ _ _ hp (i3.to H G)) c1⟩
theorem mU{e:PE}{pos:Pos}{P:Value→Ns→Prop}(he:Er c.cx m n e P)(h:∀v n',P v n'→R (.ret v) m n'):cK c m n (.Return (some e) pos::rest) R:=
 bK ⟨λQ s hi hq=>iO (he.run _ s hi λv n' s' hv h'=>hq (.ret v) _ _ _ (h v n' hv) h'.lib)⟩
end
noncomputable def nL(a b:Int):UInt64:=ji (fW 4611686018427387904 (bE a)) (bE b)
inductive Mi(x:UInt64)(n:Ns):Value→Ns→Prop
 | mk (t:Tok):Mi x n (.float x t) n
section
variable {n:Ns}
theorem Kl(hb:0<b):¬vG (bE b)=true:=PySem.Flt.nz_ofInt (C5 hb)
theorem Bp(ha:a.natAbs<2 ^ 20)(hb:0<b)(e:b<2 ^ 20):fg W0 181 [.int a t,.int b u] n 1 3 (Mi (nL a b) n):=
 lf (body:=vh P0.main.body 6) (scope:=tw P0.main.body 6) (binds:=[("matches",.int a t),("length",.int b u)]) (by with_unfolding_all rfl) (by with_unfolding_all rfl) (λs X=>dB rfl) (ss rfl) rfl rfl rfl (by decide) λc hd hu=>by
  refine dz (ke (ai rfl)) (λ_=>pG (yn (yj wT (ai rfl) (aO ha (by decide +kernel))) (ai rfl) ?_ ?_) λv h=>?_) (λh=>?_)
  .exact rK (aO (Ma (cS [b] 1 Y0 Z0 1 (.a Y0 Y1) Z0 rfl hb) (cS [b] 1 (.a Z0 Y1) (.k 1048576) 1 (.a Z0 Y1) (.k (2 ^ 20)) rfl e):b.natAbs<2 ^ 20) (by decide +kernel))
  .exact Kl hb
  .obtain ⟨t,rfl⟩:=h;exact⟨t⟩
  .exact absurd h (by rw[bne_iff_ne.mpr (C5 hb)];decide)
end
section
variable {cs:Scope}{c:Fm W0 cs}{sc:Scope}{k:Cx c sc}{m:Lo}{n:Ns}{R:Re}{rest:List Stmt}
theorem Bh{f e:PE}{pos:Pos}{fa:Addr}{v0:Value}{P:Value→Ns→Prop}(hf:Ev c.cx m n f (.val (.ref fa)))(he:Ev c.cx m n e (.val v0))(hkp:lB (K1 W0) (.ref fa)=true)
  (hC:∀(s:Shared) (Q E:VP),Fr c.h₀ c.L s.heap m→ba c.h₀ c.L s.heap n→(∀v n' h' tk',P v n'→Fr c.h₀ c.L h' m→ba c.h₀ c.L h' n'→Q v {s with heap:=h',toks:=tk'})→ay (aq P0 W0) (ic c.dp c.un c.gd c.cn cs c.L c.a c.ccd c.cl c.outer) (call (.ref fa) [v0]) Q E s)
  (c1:autoParam (CC c.env f [e] pos) zAa) (c2:autoParam (SE c.env e []) zAa):Er c.cx m n (.Call f [e] [] pos) P:=
 ⟨λQ s hi hQ=>gq (hf.run _ s hi λv s1 u i1=>by
  cases u;refine lF c.X hkp ?_ c2;refine aI (he.run _ s1 i1 λv1 s2 d2 i2=>bJ ⟨c.X.keeps i2.at.1.keep,?_⟩) c2;cases d2
  exact hC s2 Q _ i2.at.1 i2.at.2 λv n' h' tk' hp B z=>hQ _ _ _ hp (i2.to B z)) c1⟩
theorem H6{R:Re}{x:Str}{u pos:Pos}{e:PE}{P:Value→Ns→Prop}(he:Er c.cx m n e P)(h:∀v n',P v n'→R .next (ci m x v) n')
  (hs:autoParam (f0 e (some (.Name x u)) pos.line c.env=ck false) zAa) (z:autoParam (c.env.kindOf x=some .local) zAa):Ex c m n (.Assign [.Name x u] e pos) R:=
 ⟨λ_ s hi hq=>gO (he.run _ s hi λv n' s1 hv h1=>dm h1 (λs2 h2=>hq .next _ _ _ (h v n' hv) h2) z) hs⟩
theorem rx(hf:Ev k m n f (.val (.type "range")))(h1:Ev k m n e1 (.int b))
  (c1:autoParam (CC k.env f [e1] pos) zAa) (c2:autoParam (SE k.env e1 []) zAa):IS k m n (.Call f [e1] [] pos) 0 b:=
 ⟨λQ s hi hQ=>gq (hf.run _ s hi λv s1 e i1=>by
  cases e;refine su (aI (h1.run _ s1 i1 λv1 s2 d2 i2=>bJ ?_) c2) c2;obtain ⟨t1,rfl⟩:=d2;obtain ⟨m0,ex,_,F,N,cl⟩:=k.opn i2
  exact range1_rows F N λh' tk t u v z G B _=>hQ _ _ _ _ _ (cl h' tk _ G B) z) c1⟩
theorem Fq{f e:PE}{pos:Pos}{fa:Addr}{v0:Value}{dp un:Nat}{P:Value→Ns→Prop}(hC:fg W0 fa [v0] n dp un P)(hf:Ev c.cx m n f (.val (.ref fa)))(he:Ev c.cx m n e (.val v0))(hkp:lB (K1 W0) (.ref fa)=true)(hd:c.dp+dp<aH)(hu:c.un+un<cT)
  (c1:autoParam (CC c.env f [e] pos) zAa) (c2:autoParam (SE c.env e []) zAa):Er c.cx m n (.Call f [e] [] pos) P:=
 Bh hf he hkp (λs Q E F N hq=>hC.run c.B F c.X N c.T c.hk hd hu hq) c1 c2
end
section
variable {cs:Scope}{c:Fm W0 cs}{sc:Scope}{k:Cx c sc}{m:Lo}{n:Ns}{R:Re}{rest:List Stmt}
theorem Bg{f e1 e2:PE}{pos:Pos}{fa:Addr}{v1 v2:Value}{P:Value→Ns→Prop}(hf:Ev c.cx m n f (.val (.ref fa)))(h1:Ev c.cx m n e1 (.val v1))(h2:Ev c.cx m n e2 (.val v2))(hkp:lB (K1 W0) (.ref fa)=true)
  (hC:∀(s:Shared) (Q E:VP),Fr c.h₀ c.L s.heap m→ba c.h₀ c.L s.heap n→(∀v n' h' tk',P v n'→Fr c.h₀ c.L h' m→ba c.h₀ c.L h' n'→Q v {s with heap:=h',toks:=tk'})→ay (aq P0 W0) (ic c.dp c.un c.gd c.cn cs c.L c.a c.ccd c.cl c.outer) (call (.ref fa) [v1,v2]) Q E s)
  (c1:autoParam (CC c.env f [e1,e2] pos) zAa) (c2:autoParam (SE c.env e1 [e2]) zAa) (c3:autoParam (SE c.env e2 []) zAa):Er c.cx m n (.Call f [e1,e2] [] pos) P:=
 ⟨λQ s hi hQ=>gq (hf.run _ s hi λv s1 z i1=>by
  cases z;refine lF c.X hkp ?_ c2 (hplain:=by refine(?_:(ff pos (bV [e2] c.env)).any (·.1)=false);rw[show _=_ from c3];rfl);refine aI (h1.run _ s1 i1 λa1 s2 d2 i2=>aI (h2.run _ s2 i2 λa2 e u i3=>bJ ⟨c.X.keeps i3.at.1.keep,?_⟩) c3) c2;cases d2;cases u
  exact hC e Q _ i3.at.1 i3.at.2 λv n' h' tk' hp G B=>hQ _ _ _ hp (i3.to G B)) c1⟩
theorem Fp{f e1 e2:PE}{pos:Pos}{fa:Addr}{v1 v2:Value}{dp un:Nat}{P:Value→Ns→Prop}(hC:fg W0 fa [v1,v2] n dp un P)(hf:Ev c.cx m n f (.val (.ref fa)))(h1:Ev c.cx m n e1 (.val v1))(h2:Ev c.cx m n e2 (.val v2))(hkp:lB (K1 W0) (.ref fa)=true)(hd:c.dp+dp<aH)(hu:c.un+un<cT)
  (c1:autoParam (CC c.env f [e1,e2] pos) zAa) (c2:autoParam (SE c.env e1 [e2]) zAa) (c3:autoParam (SE c.env e2 []) zAa):Er c.cx m n (.Call f [e1,e2] [] pos) P:=
 Bg hf h1 h2 hkp (λs Q E F N hq=>hC.run c.B F c.X N c.T c.hk hd hu hq) c1 c2 c3
theorem Jl(e:autoParam (nsIn (K1 W0) gQ x=some (some v)) zAc)(hk:autoParam (k.env.scope.kind=.function) zAa)(z:autoParam (gQ=k.env.globals) zAa)(u:autoParam (k.env.kindOf x=some .globalImplicit) zAa)(hd:autoParam ((x==("__debug__" : Str))=false) zAd):Ev k m n (.Name x pos) (.val v):=
 ⟨λQ s hi hq=>by
  obtain ⟨m0,ex,_,F,N,cl⟩:=k.opn hi;have T:=CM c.T
  exact xn hk u (Calls.loadGlobal_global (env:=k.env) (z▸T.g.keeps F.keep) (mg_of c.X T.g e) (hq _ _ rfl hi)) hd⟩
theorem Fg(e:autoParam (nsIn (K1 W0) gQ x=some none) zAc)(hv:autoParam (bootBuiltins x=some v) zAc)(hn:autoParam (x≠"__name__") zAd)(hb:autoParam (builtinsNs=k.env.builtins) zAa)(hk:autoParam (k.env.scope.kind=.function) zAa)(z:autoParam (gQ=k.env.globals) zAa)(u:autoParam (k.env.kindOf x=some .globalImplicit) zAa)(hd:autoParam ((x==("__debug__" : Str))=false) zAd):Ev k m n (.Name x pos) (.val v):=
 ⟨λQ s hi hq=>by
  obtain ⟨m0,ex,_,F,N,cl⟩:=k.opn hi;have T:=CM c.T
  exact xn hk u (Calls.loadGlobal_builtin (env:=k.env) (z▸T.g.keeps F.keep) (mg_none_of c.X T.g e) (hb▸T.b.keeps F.keep) ((T.builtins x hn).trans hv) (hq _ _ rfl hi)) hd⟩
theorem rA{e:PE}{pos:Pos}{P P':Value→Ns→Prop}(he:Er k m n e P)(hP:∀v n' D,P v n'→(∀q∈n',@aP Nat _ q.1 D)→P' (.ref D) ((D,listOf [v].toArray 0)::n'))(u:autoParam (∀r,SE k.env e r) zAb):Er k m n (.List [e] pos) P':=
 ⟨λQ s hi hq=>List_ (aI (he.run _ s hi λv n' s1 z i1=>bJ (by
  obtain ⟨m0,ex,F,N,cl⟩:=qw k i1
  exact yT F N (λD h' H G B=>hq _ _ _ (hP v n' D z λq hq=>B q (zR hq)) (cl h' s1.toks D _ H G)) (by decide:(1:Nat)≤dY))) (u _))⟩
theorem OS{f e1:PE}{pos:Pos}{fa:Addr}{dp un:Nat}{P1:Value→Ns→Prop}{U:Obj→Prop}(hf:Ev k m n f (.val (.ref fa)))(h1:Er k m n e1 P1)
  (hC:∀v1 n1 n2,P1 v1 n1→(∀p∈n1,p∈n2)→fg W0 fa [v1] n2 dp un (λv n'=>∃D o,v=.ref D∧U o∧n'=(D,o)::n2∧∀p∈n2,@aP Nat _ p.1 D)) (hkp:lB (K1 W0) (.ref fa)=true) (hd:c.dp+dp<aH) (hu:c.un+un<cT)
  (c1:autoParam (CC k.env f [e1] pos) zAa) (c2:autoParam (SE k.env e1 []) zAa):Er k m n (.Call f [e1] [] pos) (λv n'=>∃v1 n1 D o,P1 v1 n1∧v=.ref D∧U o∧n'=(D,o)::n1∧(∀p∈n1,@aP Nat _ p.1 D)∧∀a∈k.exA,@aP Nat _ a D):=
 ⟨λQ s hi hQ=>gq (hf.run _ s hi λv s1 J i1=>by
  cases J;refine lF c.X hkp ?_ c2;refine aI (h1.run _ s1 i1 λv1 n1 s2 z i2=>bJ ?_) c2;obtain ⟨m0,ex,H,F,N,cl⟩:=k.opn i2;refine⟨c.X.keeps F.keep,(hC v1 n1 (ex++n1) z λp=>iy ex).run c.B F c.X N c.T c.hk hd hu λG n' h' tk' r Y O=>?_⟩;obtain ⟨D,o,e,u,rfl,l⟩:=r;refine hQ G _ _ ⟨v1,n1,D,o,z,e,u,rfl,λp hp=>l p (iy ex hp),λa ha=>?_⟩ (cl h' tk' ((D,o)::n1) Y (cm O (FA (λp hp=>zT (zL hp)) (FC (zH) λp hp=>zT (zR hp)))));rw[← H] at ha;obtain ⟨p,hp,rfl⟩:=eg.mp ha
  exact l p (zL hp)) c1⟩
theorem Fh{e:PE}{i:Int}{kk:Nat}{p G pos:Pos}(h:Ev k m n e (.int i))(z:autoParam (∀r,SE k.env e r) zAb):Er k m n (.BinOp (.List [e] p) .Mult (.Constant (.int 5) kk G) pos) (λv n'=>∃A B t o,v=.ref A∧n'=(A,listOf [fn i t,.int i t,.int i t,.int i t,.int i t].toArray 0)::(B,o)::n):=
 ⟨λQ s hi hq=>dX ((rA (iL h) (P':=λv n'=>∃B t,v=.ref B∧n'=(B,listOf [fn i t].toArray 0)::n) (λv n' D h _=>by
  obtain ⟨⟨t,rfl⟩,rfl⟩:=h
  exact⟨D,t,rfl,rfl⟩) z).run _ s hi λv n1 s1 h i1=>bf.run _ s1 i1 λv2 s2 d2 i2=>by
  obtain ⟨B,t,rfl,rfl⟩:=h;obtain ⟨u,rfl⟩:=d2;obtain ⟨m0,ex,F,N,cl⟩:=qw k i2
  exact mul_list F N (N _ (zR (zH))).1 (by decide) (by decide) (by decide:1*5≤2 ^ 24) λh' J H=>hq _ _ _ ⟨_,B,t,_,rfl,rfl⟩ (cl h' s2.toks _ _ J H))⟩
theorem Io{e:PE}{P P':Value→Ns→Prop}(h:Er k m n e P)(hp:∀v n',P v n'→∃n2,P' v n2∧∀p∈n2,p∈n'):Er k m n e P':=⟨λQ s hi hq=>h.run Q s hi λv n' s' p z=>by
 obtain ⟨n2,u,sub⟩:=hp v n' p
 exact hq v n2 s' u (z.sub sub)⟩
theorem OR{f e1 e2:PE}{pos:Pos}{fa:Addr}{a2:Bv}{dp un:Nat}{P1:Value→Ns→Prop}{V:Value→Prop}(hf:Ev k m n f (.val (.ref fa)))(h1:Er k m n e1 P1)(h2:∀v1 n1,P1 v1 n1→Ev k m n1 e2 a2)
  (hC:∀v1 n1 v2 n2,P1 v1 n1→a2.den v2→(∀p∈n1,p∈n2)→fg W0 fa [v1,v2] n2 dp un (λv n'=>V v∧∀p∈n2,p∈n')) (hkp:lB (K1 W0) (.ref fa)=true) (hd:c.dp+dp<aH) (hu:c.un+un<cT)
  (c1:autoParam (CC k.env f [e1,e2] pos) zAa) (c2:autoParam (SE k.env e1 [e2]) zAa) (c3:autoParam (SE k.env e2 []) zAa):Er k m n (.Call f [e1,e2] [] pos) (λv n'=>V v∧∃v1,P1 v1 n'):=
 ⟨λQ s hi hQ=>gq (hf.run _ s hi λv s1 z i1=>by
  cases z;refine lF c.X hkp ?_ c2 (hplain:=by refine(?_:(ff pos (bV [e2] k.env)).any (·.1)=false);rw[show _=_ from c3];rfl);refine aI (h1.run _ s1 i1 λv1 n1 s2 e i2=>aI ((h2 v1 n1 e).run _ s2 i2 λv2 J d2 i3=>bJ ?_) c3) c2;obtain ⟨m0,ex,_,F,N,cl⟩:=k.opn i3
  exact⟨c.X.keeps F.keep,(hC v1 n1 v2 (ex++n1) e d2 λp=>iy ex).run c.B F c.X N c.T c.hk hd hu λu n' h' tk' r H G=>hQ u n1 _ ⟨r.1,v1,e⟩ (cl h' tk' n1 H (cm G r.2))⟩) c1⟩
end
theorem wN{cs:Scope}{c:Fm W0 cs}{X cl:List (Str×Addr)}{scope:Scope}(e:c.cl=X)(h:fy scope (yU c.cn cs c.L c.a c.ccd X)=ck cl):fy scope c.env=ck cl:=by
 unfold Fm.env;rw[e];exact h
theorem tH{f:Addr}{args:List Value}{n:Ns}{dp un:Nat}{P:Value→Ns→Prop}{name qual:Str}{params:j8}{body:List Stmt}{scope:Scope}{dV kV doc pm u ct oc:Value}{an od:Option Addr}{J:Array (Option Value)}{binds:List (Str×Value)}
  (ho:(K1 W0).lookup f=some ⟨oc,od,.func (Mz name qual params body scope dV kV doc pm an u ct),J⟩) (ap:codeIn (K1 W0) u qual=true)
  (z:∀s:Shared,(K1 W0).In s.heap→I5 s (Mz name qual params body scope dV kV doc pm an u ct) ⟨args,[]⟩ binds) (hkind:(binds.all λy=>scope.names.lookup y.1==some .local||scope.names.lookup y.1==some .cell)=true) (U:((fQ 0 scope.names []).map (·.1)).Nodup) (ah:scope.isCoroutine=false) (G:scope.isGenerator=false) (hk:scope.kind=.function)
  (h:∀(c:Fm W0 scope) (m:Lo) (e:Ns),c.dp+dp<aH→c.un+un<cT→c.cl=fQ (c.L+1) scope.names []→CellsAre (bindC (envOfC qual scope c.L f u).kindOf binds λ_=>none) (fQ (c.L+1) scope.names []) e→(∀p∈n,@aP Nat _ p.1 c.L)→m=bindL (envOfC qual scope c.L f u).kindOf binds (λ_=>none)→cK c m (e++n) body (λH _ n'=>∃n2,P (yc H) n2∧∀p∈n2,p∈n')):fg W0 f args n (dp+1) (un+3) P:=
 ⟨λB F X N T aa hd hu hq=>ev (code_defC B F X N T rfl rfl aa ho ap (C9 hd) (z _ (X.keeps F.keep)) hkind U (λg L' ar tk e FG F' N' Y B' X' T' l1=>by
  refine wj (cs:=scope) (cl:=fQ (L'+1) scope.names []) (n:=e++n) B' F' X' N' T' hk (by passes_own) (λH _ n'=>∃n2,P (yc H) n2∧∀p∈n2,p∈n') (λc ab O aj hL _ _=>?_) ?_
  .subst hL
   exact h c _ e (by rw[ab,kL,mu 1];exact hd) (by rw[O,kL,mu 3];exact hu) aj Y l1 rfl
  .intro H m' n' h' tk hP F2 N2
   obtain ⟨n2,hP,sub⟩:=hP
   exact tS F2 (cm N2 sub) λkF kN=>hq _ _ _ _ hP kF kN) ah G hk)⟩
end
section
open W PyProof Rows
open PyProof.Rows.LCg
noncomputable def jD(t:Nat)(b:Int):Bool:=gc (b.fdiv (2 ^ t)) 1 != 0
noncomputable def jT(bs:List Int)(t:Nat):Int:=((bs.filter (jD t)).length:Nat)
theorem kr(hc:LawC c)(h:fy scope (yU c.cn lawS c.L c.a c.ccd (fQ (c.L+1) lawS.names []))=ck cl):fy scope c.env=ck cl:=by
 unfold Fm.env;rw[hc.cl];exact h
theorem Di(hc:LawC c)(d1:o1.data=.cell (some (.ref B)))(m1:(c.L+1,o1)∈N)(hB:(B,listOf va.toArray ep)∈N)(hi:au va bs)(H:bs.length=5):
  Er c.cx m N (sE (bp 3)) (λv n'=>∃V vv,v=.ref V∧n'=(V,bz vv)::N∧au vv ((aU 4).map (jT bs))∧(∀p∈N,@aP Nat _ p.1 V)):=by
 have aj:va.length=5:=by rw[hi.length,H]
 refine yp (cl:=[(ae "ballots",c.L+1)]) rfl (jb (a:=0) (b:=4) ?hr) ?h (kr hc rfl)
 case hr=>exact rx cO bf
 case h=>
  intro v N1 s1 ah i1;refine b7 ah λe ab=>?_;clear ah;refine BV ab λr t u z aM hr=>?_
  try clear ab
  subst aM;have e':=e.symm;subst e';refine(vu 4 _ _ (λi out n1=>n1=N∧au out ((aU i).map (jT bs))) (jA hr (by decide)) ⟨⟨rfl,.nil⟩,λi out n1 h=>?_,?_,λout n1 D hJ l1 l2=>?_,by decide⟩)
  .exact⟨(λ_ h=>nomatch h),by rw[h.2.length,aE,db];exact aR _⟩
  .intro i v out n1 C K I D oK oI E' mC cn aa Y bi a4 b6 ca b5 b4 bv b0 cd hex
   refine cp aa λt aD=>?_;clear aa;subst aD;refine b7 Y λe hO=>?_;clear Y;subst e;refine(cZ true (λQ s hi hq=>pg (hq s hi)) (λ_=>?_) (λh=>nomatch h));refine Fn (P:=λv n'=>∃Z zs,v=.ref Z∧n'=(Z,bz zs)::(K,oK)::(I,oI)::(D,bz out)::n1∧zs.length=(bs.filter (jD i)).length) ?ln (nC rfl (sj (iL (eH (a:=c.L+1) (o:=o1) rfl ?m1 d1))) ?h2) ?hP
   case ln=>exact Fg
   case m1=>exact zT (zT (zT m1))
   case h2=>
    intro v2 n2 s2 U i2;refine b7 U λbh e2=>?_;clear U;cases bh;subst e2;have ar:(B,listOf va.toArray ep)∈(K,oK)::(I,oI)::(D,bz out)::n1:=zT (zT (zT hB));have a6:(K,oK)∈(K,oK)::(I,oI)::(D,bz out)::n1:=zH;generalize (K,oK)::(I,oI)::(D,bz out)::n1=nI at ar a6 i2 ⊢;refine(vu va.length _ _ (λj G n3=>n3=nI∧G.length=((bs.take j).filter (jD i)).length) (uj i2 ar) ⟨⟨rfl,rfl⟩,λj G n3 h=>?_,?_,λG n3 D2 a7 l1 l2=>?_,by rw[aj];decide⟩)
    .refine b7 h λe3 hl=>?_
     try clear h
     subst e3;refine⟨λp hp=>by rw[aA.mp hp];exact ar,?_⟩;rw[hl];exact aw (bU ..) (by rw[eJ];exact jv ..)
    .intro j v2 G n3 C2 I2 D2 br E2 cc hj hv O aQ ap a1 a2 a3 bm bo
     refine b7 O λe3 hl=>?_;clear O;subst e3
     have a5:j<bs.length:=by rw[H];exact pV (Eq.symm aj) hj
     refine cp (hi.get j bs[j] (ao a5)) λtb hb=>?_;rw[hb] at hv;cases hv
     have a0:bs.take (j+1)=bs.take j++[bs[j]]:=by rw[qW,ao a5];rfl
     refine(cZ (jD i bs[j]) (wE (ke (qG (qE (ai aQ) (qj (eH (a:=K) (o:=oK) rfl (zT (zT a6)) bi)) (cb i)) bf))) (λbj=>?_) (λbl=>⟨rfl,?_⟩))
     .refine fx (iL (am aQ)) λv5 n5 h5=>?_
      refine b7 h5 λh5 e5=>?_
      try clear h5
      cases h5;subst e5;refine⟨n3,λp hp=>hp,ap,rfl,?_⟩;rw[a0,cH,aT,aT,hl];simp [fC,bj]
     .rw[a0,cH,aT,hl]
      simp [fC,bl]
    .refine b7 a7 λe3 hl=>?_
     try clear a7
     subst e3;refine(ir D2 G rfl rfl ?_);rw[hl,aj,← H,cP]
   case hP=>
    intro v2 n2 J;refine gJ J λZ zs ax as hz=>?_;clear J;subst ax;subst as
    have bb:zs.length≤5:=by rw[hz,← H];exact bU ..
    refine(HT Z zs zs.length rfl (zH) (rZ bb (bR true)) (λt3=>⟨n1,λp hp=>zT hp,a4,rfl,?_⟩));rw[gx,aX];refine hO.append ?_;rw[hz];exact .cons _ _ .nil
  .refine b7 hJ λe hO=>?_
   try clear hJ
   subst e;exact(se D out rfl rfl hO l1)
end
section
open W PyProof Rows
open PyProof.Rows.LCg
theorem kX(h:@aP Nat _ a b):a≠b:=λe=>c8 b (e▸h)
theorem jx(h:@aP Nat _ b a):a≠b:=λe=>c8 b (e▸h)
theorem mM:∀q∈bL L o1 o2 o3 o4 o5 ps qs++p::n0,q∈p::(bL L o1 o2 o3 o4 o5 ps qs++n0):=by
 intro q hq
 rcases aC.mp hq with h|h
 .exact zT (zL h)
 .rcases ak.mp h with h|h
  .rw[h];exact zH
  .exact zT (zR h)
theorem PV(hl:@aP Nat _ 366 L)(u:b8 L n0)(z:∀p∈bL L o1 o2 o3 o4 o5 ps qs++n0,@aP Nat _ p.1 V):
  xh (L+1+1+1+1+1) o5 ((V,o)::(bL L o1 o2 o3 o4 o5 ps qs++n0)) (λo'=>(V,o)::(bL L o1 o2 o3 o4 o' ps qs++n0)):=by
 refine BX u.all λY U O J B H G=>?_;refine .tail (jx (z (_,o5) (zL (zH)))) (.head ?_);intro p hp;have e:p∈(L+1+1+1+1,o4)::(L+1+1+1,o3)::(L+1+1,o2)::(L+1,o1)::(364,bS ps)::(256,bS qs)::n0:=hp;simp only[ak] at e
 rcases e with rfl|rfl|rfl|rfl|rfl|rfl|hp
 .exact kX (by refine(?_:@aP Nat _ (L+1+1+1+1) (L+1+1+1+1+1));exact aJ _)
 .exact kX (by refine(?_:@aP Nat _ (L+1+1+1) (L+1+1+1+1+1));exact aW (aJ _))
 .exact kX (by refine(?_:@aP Nat _ (L+1+1) (L+1+1+1+1+1));exact aW (aW (aJ _)))
 .exact kX (by refine(?_:@aP Nat _ (L+1) (L+1+1+1+1+1));exact aW (aW (aW (aJ _))))
 .exact kX (by refine(?_:@aP Nat _ 364 (L+1+1+1+1+1));exact aO (aO (by decide:(364:Nat)<366) hl) (aN (aJ _) (bx (L+1) 4)))
 .exact kX (by refine(?_:@aP Nat _ 256 (L+1+1+1+1+1));exact aO (aO (by decide:(256:Nat)<366) hl) (aN (aJ _) (bx (L+1) 4)))
 .exact B p hp
theorem Ot(hc:LawC c)(d1:o1.data=.cell (some (.ref B)))(Y:o5.data=.cell none)(hB:(B,listOf va.toArray ep)∈n0)(hi:au va bs)(U:bs.length=5)(H:b8 c.L n0)
  (e:∀(V:Addr) (vv:List Value) (o:Obj),o.data=.cell (some (.ref V))→au vv ((aU 4).map (jT bs))→b8 c.L ((V,bz vv)::n0)→(∀p∈bL c.L o1 o2 o3 o4 o5 ps qs++n0,@aP Nat _ p.1 V)→cK c m (bL c.L o1 o2 o3 o4 o ps qs++(V,bz vv)::n0) rest R):
  cK c m (bL c.L o1 o2 o3 o4 o5 ps qs++n0) (bp 3::rest) R:=by
 refine pF (a:=c.L+1+1+1+1+1) (Di (N:=bL c.L o1 o2 o3 o4 o5 ps qs++n0) hc d1 (zL (by k_extra "zmm")) (zR hB) hi U) (by rw[hc.cl];rfl) λv n' hv=>?_;refine hH hv λV vv G z J u=>?_
 try clear hv
 subst G;subst z;exact(nW o5 _ none (PV hc.lo H u) Y (λo' O=>cL (e V vv o' O J (H.add u) u) mM))
end
section
open W PyProof Rows Spec PySem.Calls
theorem yB(hl:s.heap.IsList l items)(u:(items.size:Int)<2 ^ 63)
  (h:R (.ok (.ret (.int items.size (s.toks+1)))) {s with toks:=s.toks+1+1}):dH (aq prog W0) A (.builtin "len" ⟨[.ref l],[]⟩) R s:=by
 refine fJ (id hl) λo ho hc e=>?_;refine cp e λn hd=>?_
 try clear e
 refine eM entry_len ?_;unfold Builtin.«len»;refine af (m:=oneArg "len" _) (ag ?_)
 refine af (m:=xe (.ref l) (ae "__len__")) (ia (name:=ae "__len__") hl.typeIs slot_list_len
  (ej slot_list_len hl.typeIs entry_list_len ?_ (args_list_len _)))
 refine(?_:ay _ _ (do retInt (← seqSize l)) _ _ s);unfold seqSize;refine af (af (n4 ho ?_));rw[hd];refine ag (af (pO (ag (c9 _ rfl ?_))));refine af (bA (ag ?_));refine af (mh ?_);rw[if_neg (by exact λhh=>(qz (eQ [items.size] 1 Y0 (.k (-1)) 1 (.a Z0 Y1) Y0 1 Y0 Z0 rfl hh j0)))];rw[if_neg (by exact λhh=>MR u hh)];exact af (pO (ag h))
theorem Cw(hl:s.heap.IsList l items)
  (h0:0≤k) (u:k<2 ^ 63) (G:items[k.toNat]?=some x) (h:Q x s):ay (aq prog W0) A (call (.builtin "list.__getitem__") [.ref l,.int k t]) Q E s:=by
 refine fJ (id hl) λo ho hc e=>?_;refine cp e λne hd=>?_
 try clear e
 refine ej slot_list_getitem hl.typeIs entry_list_getitem ?_ (args_list_getitem _ _);refine(?_:ay _ _ (Builtin.List.listSubscript? (.int k t) >>= _) _ _ s);refine af (wpAny_listSubscript_int (fitsIndex_of h0 u) ?_);clear u;refine cp (Int.eq_ofNat_of_zero_le h0) λj z=>?_;subst z;have B:items[j]?=some x:=G;refine af (af (wpAny_seqItemAt ho hd (ag ?_)));rw[B]
 first
  | exact af (ag (ag (c9 x rfl h)))
  | exact ag (c9 x rfl h)
theorem yG{prog:Program}{A:Around}{E:VP}{s:Shared}{a b:Int}{t u:Tok}{Q:VP}(h:Q (.bool (decide (a<b))) s):ay (aq prog W0) A (call (.builtin "int.__lt__") [.int a t,.int b u]) Q E s:=
 ej Mq (iB s a t) entry_int_lt (show ay _ _ (ret (.bool (decide (a<b)))) _ _ s from ag (c9 _ rfl h)) (args_int_lt _ _)
noncomputable def L1(l:Addr)(x:Int)(t:Tok)(rt:Bool)(lo hi:Int):Args:=⟨[.ref l,.int x t,jf lo,jf hi,.none,.bool rt,.bool true,jf 0],[]⟩
noncomputable def Ga(l:Addr)(x:Int)(t:Tok)(rt:Bool)(lo hi:Int):sR:=.builtin "_bisect.bisect_right.loop" (L1 l x t rt lo hi)
theorem Sp{M:Model}{A:Around}{E:VP}{s:Shared}{Q:Fin→Shared→Prop}{b:Bool}{u v:sR}(h:Q (.again (if b then u else v)) s):ay M A (if (b==false)=true then Mv v else Mv u) Q E s:=by
 cases b<;>exact ag h
theorem So{M:Model}{A:Around}{E:VP}{s:Shared}{Q:Fin→Shared→Prop}{b:Bool}{u v:sR}(h:Q (.again (if !b then u else v)) s):ay M A (if (b==true)=true then Mv v else Mv u) Q E s:=by
 cases b<;>exact ag h
theorem t2{prog:Program}{A:Around}{E:VP}{s:Shared}{l:Addr}{vs:List Value}{x y lo hi:Int}{t u:Tok}{rt:Bool}{Q:Fin→Shared→Prop}(hl:s.heap.IsList l vs.toArray)(h0:0≤lo)(e:lo<hi)(B:hi≤vs.length)(z:(vs.length:Int)<2 ^ 62)(G:vs[((lo+hi)/2).toNat]?=some (.int y u))
  (hq:Q (.again (if (if rt then !decide (x<y) else decide (y<x)) then Ga l x t rt ((lo+hi)/2+1) hi else Ga l x t rt lo ((lo+hi)/2))) {s with toks:=s.toks+1}):
  ay (aq prog W0) A (Builtin.«_bisect.bisect_right.loop» (L1 l x t rt lo hi)) Q E s:=by
 unfold Builtin.«_bisect.bisect_right.loop»;refine PySem.wpAny_ite_true (decide_eq_true e) ?_;refine af (pO ?_);refine af (ia (name:=ae "__getitem__") (s:={s with toks:=s.toks+1}) hl.typeIs slot_list_getitem (Cw (x:=.int y u) hl (g5 [(lo+hi)/2,lo,hi] 2 Y0 Z0 1 (.a Z1 Y1) Z2 2 Y0 Z1 1 (.a Z1 Z2) (.a (.m 2 Z0) Y1) rfl e h0 OX) (y5 [(lo+hi)/2,vs.length,hi,lo] 2 (.a Z0 Y1) (.k (2 ^ 63)) 2 (.a Z1 Y1) (.k (2 ^ 62)) 2 Z2 Z1 1 (.a Z3 Y1) Z2 1 (.m 2 Z0) (.a Z3 Z2) rfl z B e PM) (by rw[CX];exact G) ?_));refine af (ag ?_);refine bA ?_
 cases rt with
 | false=>exact af (nE (iB _ _ _) (af (nE (iB _ _ _) (af (rE (by rfl) (af (hZ (name:=ae "__lt__") (iB _ _ _) Mq (yG (af (m:=truthOfDropped (Go (decide (y<x)))) (aY (af (ag (Sp hq)))))))))))))
 | true=>exact af (nE (iB _ _ _) (af (nE (iB _ _ _) (af (rE (by rfl) (af (hZ (name:=ae "__lt__") (iB _ _ _) Mq (yG (af (m:=truthOfDropped (Go (decide (x<y)))) (aY (af (ag (So hq)))))))))))))
theorem uR:kC xb "_bisect.bisect_right.loop"=some Builtin.«_bisect.bisect_right.loop»:=yR (by kernel_rfl)
theorem t3{prog:Program}{A:Around}{E:VP}{s:Shared}{l:Addr}{x lo hi:Int}{t:Tok}{rt:Bool}{Q:Fin→Shared→Prop}(e:¬lo<hi)(hq:Q (.done (.ret (.int lo s.toks))) {s with toks:=s.toks+1}):
  ay (aq prog W0) A (Builtin.«_bisect.bisect_right.loop» (L1 l x t rt lo hi)) Q E s:=by
 unfold Builtin.«_bisect.bisect_right.loop»;refine PySem.wpAny_ite_false (decide_eq_false e) ?_;exact af (m:=retInt lo) (af (m:=mkInt lo) (pO (ag (ag hq))))
theorem yI{prog:Program}{A:Around}{l:Addr}{vs:List Value}{xs:List Int}{x:Int}{t:Tok}{rt:Bool}{p:Int→Bool}(hp:∀y,(if rt then !decide (x<y) else decide (y<x))=p y)(hi:au vs xs)(z:vs.length<1000){R:Result→Shared→Prop} :
  ∀(k a b:Nat) (s:Shared),s.heap.IsList l vs.toArray→b≤vs.length→b-a≤k→(∀tok tk,R (.ok (.ret (.int (fP p xs k a b:Nat) tok))) {s with toks:=tk})→dH (aq prog W0) A (Ga l x t rt a b) R s:=by
 intro k
 induction k with
 | zero=>
  intro a b s hl hb hk hR;refine eM uR ?_;exact t3 (λhh=>(qz (g5 [a,b,↑(b-a)] 1 Y0 (.k (-1)) 1 (.a Z0 Y1) Z1 1 Z2 Y0 1 Z1 (.a Z2 Z0) rfl hh (d9 hk) C8))) (hR _ _)
 | succ k B=>
  intro a b s hl hb hk hR;refine eM uR ?_;unfold fP at hR
  by_cases e:a<b
  .have hm:(a+b)/2<xs.length:=by rw[← hi.length];exact NX e hb
   have G:((a:Int)+(b:Int))/2=(((a+b)/2:Nat):Int):=rfl;refine cp (hi.get ((a+b)/2) (xs.getD ((a+b)/2) 0) (by rw[az,ao hm];rfl)) λu hu=>?_;refine t2 (y:=xs.getD ((a+b)/2) 0) (u:=u) hl (j0) (Le e) (Sj hb) (cS [vs.length] 1 (.a Z0 Y1) (.k (2 ^ 62)) 1 (.a Z0 Y1) (.k 1000) rfl (d9 z)) (by rw[G,bC];exact hu) ?_;rw[G,hp];rw[if_pos (jz.mpr e)] at hR
   cases h:p (xs.getD ((a+b)/2) 0) with
   | true=>
    rw[h] at hR;exact⟨eS _ (by decide +kernel),B ((a+b)/2+1) b _ hl hb (Rl hk e) λtok tk=>hR tok tk⟩
   | false=>
    rw[h] at hR;exact⟨eS _ (by decide +kernel),B a ((a+b)/2) _ hl (aL (NX e hb)) (Rk hk e) λtok tk=>hR tok tk⟩
  .rw[if_neg λh=>e (jz.mp h)] at hR
   exact t3 (λhh=>(qz (eQ [a,b] 1 Y0 (.k (-1)) 1 (.a Z0 Y1) Z1 1 Z1 Z0 rfl hh (R9 e)))) (hR _ _)
theorem CD{prog:Program}{A:Around}{E:VP}{s:Shared}{l:Addr}{vs:List Value}{x:Int}{t:Tok}{Q:Fin→Shared→Prop}(hl:s.heap.IsList l vs.toArray)(z:(vs.toArray.size:Int)<2 ^ 63)(hq:Q (.again (Ga l x t false 0 (vs.toArray.size:Nat))) {s with toks:=s.toks+1+1}):ay (aq prog W0) A (Builtin.«_bisect.bisect_left» ⟨[.ref l,.int x t],[]⟩) Q E s:=by
 obtain ⟨hp,g,d,tk,os⟩:=s;refine fJ hl λo ho u e=>?_
 try clear hl
 refine cp e λep hd=>?_
 try clear e
 have hT:(Shared.mk hp g d tk os).TypeIs (.ref l) "list":=(c9 o ho u)
 have G:gw (.type "list") (ae "__len__")=ck (some (.builtin "list.__len__")):=by rw[cr,bu];kernel_rfl
 have B:gw (.type "list") (ae "__getitem__")=ck (some (.builtin "list.__getitem__")):=by rw[cr,bu];kernel_rfl
 refine af (bN (a:=(.ref l,.int x t,none,none,none)) (by kernel_rfl) ?_);refine af (ag (af (ag ?_)));refine af (ag ?_);refine bA (PySem.wpAny_ite_false (by decide) ?_)
 wp_walk
 refine yB (items:=vs.toArray) (cZ o ho u ⟨ep,hd⟩) z ?_
 wp_walk
 rw[u]
 wp_walk
 (try (rw[B];refine ag ?_))
 (try wp_walk)
 exact hq
theorem CA(hl:s.heap.IsList l vs.toArray)(hi:au vs xs)(e:vs.length<1000)
  (hQ:∀tok tk,Q (.int (fP (λy=>decide (y<x)) xs vs.length 0 vs.length:Nat) tok) {s with toks:=tk}):ay (aq prog W0) A (call (.builtin "_bisect.bisect_left") [.ref l,.int x t]) Q E s:=by
 refine ev (fV (by decide +kernel) (yR (by kernel_rfl):kC xb "_bisect.bisect_left"=some Builtin.«_bisect.bisect_left») (bN (a:=()) (by kernel_rfl) ?_));refine CD hl (cS [vs.length] 1 (.a Z0 Y1) (.k (2 ^ 63)) 1 (.a Z0 Y1) (.k 1000) rfl (d9 e)) ?_;exact⟨eS _ (by decide +kernel),yI (rt:=false) (λ_=>rfl) hi e vs.length 0 vs.length {s with toks:=s.toks+1+1} hl (aR _) (aR _) λtok tk=>hQ tok tk⟩
theorem Ap{prog:Program}{A:Around}{E:VP}{s:Shared}{l:Addr}{vs:List Value}{x lo:Int}{t u:Tok}{Q:Fin→Shared→Prop}(hl:s.heap.IsList l vs.toArray)(B:(vs.toArray.size:Int)<2 ^ 63)(h0:0≤lo)(h1:lo<1000)(hq:Q (.again (Ga l x t true lo (vs.toArray.size:Nat))) {s with toks:=s.toks+1+1}):ay (aq prog W0) A (Builtin.«_bisect.bisect_right» ⟨[.ref l,.int x t],[(ae "lo",.int lo u)]⟩) Q E s:=by
 obtain ⟨hp,g,d,tk,os⟩:=s;refine fJ hl λo ho z e=>?_
 try clear hl
 refine cp e λep hd=>?_
 try clear e
 have hT:(Shared.mk hp g d tk os).TypeIs (.ref l) "list":=(c9 o ho z)
 have U:gw (.type "list") (ae "__len__")=ck (some (.builtin "list.__len__")):=by rw[cr,bu];kernel_rfl
 have G:gw (.type "list") (ae "__getitem__")=ck (some (.builtin "list.__getitem__")):=by rw[cr,bu];kernel_rfl
 have O : -(2 ^ 63:Int)≤lo:=cj (by decide) h0;have J:lo<2 ^ 63:=cS [lo] 1 (.a Z0 Y1) (.k (2 ^ 63)) 1 (.a Z0 Y1) (.k 1000) rfl h1;refine af (bN (a:=(.ref l,.int x t,some (.int lo u),none,none)) (by kernel_rfl) ?_);have H:¬lo<0:=Int.not_lt.mpr h0;refine af (af (ag (ag (PySem.W.KFB.if_not (by refine(?_:(!(decide (-(2 ^ 63:Int)≤lo)&&decide (lo<2 ^ 63)))=false);rw[decide_eq_true O,decide_eq_true J];rfl) (af (ag ?_))))));refine af (ag (af (ag ?_)));refine bA (PySem.wpAny_ite_false (decide_eq_false H) ?_)
 wp_walk
 refine yB (items:=vs.toArray) (cZ o ho z ⟨ep,hd⟩) B ?_
 wp_walk
 rw[z]
 wp_walk
 (try (rw[G];refine ag ?_))
 (try wp_walk)
 exact hq
theorem Cz{prog:Program}{A:Around}{E:VP}{s:Shared}{l:Addr}{vs:List Value}{xs:List Int}{x lo:Int}{t u:Tok}{a:Nat}{Q:VP}(hl:s.heap.IsList l vs.toArray)(hi:au vs xs)(e:vs.length<1000)(ea:lo=(a:Int))(z:a≤vs.length)
  (hQ:∀tok tk,Q (.int (fP (λy=>!decide (x<y)) xs vs.length a vs.length:Nat) tok) {s with toks:=tk}):ay (aq prog W0) A (call (.builtin "_bisect.bisect_right") [.ref l,.int x t] [(ae "lo",.int lo u)]) Q E s:=by
 refine ev (fV (by decide +kernel) (yR (by kernel_rfl):kC xb "_bisect.bisect_right"=some Builtin.«_bisect.bisect_right») (bN (a:=()) (by kernel_rfl) ?_));refine Ap hl (by rw[aV];exact cS [vs.length] 1 (.a Z0 Y1) (.k (2 ^ 63)) 1 (.a Z0 Y1) (.k 1000) rfl (d9 e)) (EU ea j0) (g5 [lo,a,vs.length] 1 (.a Z0 Y1) (.k 1000) 1 Z1 Z2 1 Z0 Z1 1 (.a Z2 Y1) (.k 1000) rfl (d9 z) (gV ea) (d9 e)) ?_;rw[aV,ea];refine⟨eS _ (by decide +kernel),?_⟩;exact yI (rt:=true) (λ_=>rfl) hi e vs.length a vs.length {s with toks:=s.toks+1+1} hl (aR _) (jy (eE vs) a) λtok tk=>hQ tok tk
end
section
open W PyProof Rows
noncomputable def qg(k:Nat):List Int:=mD (5-k) 0++mD k 3
theorem xJ:∀{ns:List Int},ns.Pairwise (·≤·)→(∀x∈ns,x=0∨x=3)→ns=mD (ns.length-ns.count 3) 0++mD (ns.count 3) 3
 | [],_,_=>rfl
 | x::r,hs,h3=>by
  have hr:=xJ (dW.mp hs).2 λy e=>h3 y (zT e);have hc:r.count 3≤r.length:=Dg
  rcases h3 x (zH) with rfl|rfl
  .have e1:(0::r:List Int).count 3=r.count 3:=by simp [MJ]
   rw[e1,gT,show r.length+1-r.count 3=(r.length-r.count 3)+1 by exact vn (eQ [↑(r.length+1-kn 3 r),↑(r.length-kn 3 r),r.length,↑(kn 3 r)] 1 Z0 (.a Z1 Y1) 1 Z2 (.a Z1 Z3) 1 (.a Z0 Z3) (.a Z2 Y1) rfl C8 (xN (cS [↑(kn 3 r),r.length] 1 Z0 (.a Z1 Y1) 1 Z0 Z1 rfl (d9 hc)))) (eQ [↑(r.length-kn 3 r),↑(r.length+1-kn 3 r),r.length,↑(kn 3 r)] 1 (.a Z0 Y1) Z1 1 (.a Z2 Y1) (.a Z1 Z3) 1 (.a Z0 Z3) Z2 rfl C8 (xN (cS [↑(kn 3 r),r.length] 1 Z0 Z1 1 Z0 Z1 rfl (d9 hc)))),Gu,fE,← hr]
  .have all:∀y∈r,y=3:=λy e=>by
    have:=(dW.mp hs).1 y e
    rcases h3 y (zT e) with rfl|rfl
    .lia
    .rfl
   have er:r=mD r.length 3:=List.eq_replicate_iff.mpr ⟨rfl,all⟩
   have e1:(3::r:List Int).count 3=r.length+1:=by
    rw[List.count_cons_self];rw[er,List.count_replicate_self,List.length_replicate]
   rw[e1,gT,Nat.sub_self,List.replicate_zero,ik,Gu,← er]
theorem J3(hs:ns.Pairwise (·≤·))(h3:∀x∈ns,x=0∨x=3)(hl:ns.length=5):ns.count 3≤5∧ns=qg (ns.count 3):=by
 have hc:ns.count 3≤ns.length:=Dg;have:=xJ hs h3;rw[hl] at this hc;exact⟨hc,this⟩
noncomputable def xZ(ns:List Int):Int:=ns.getD ((ns.length:Int).fdiv 2).toNat 0
noncomputable def zK(ns:List Int)(l:Nat):Nat:=fP (λy=>decide (y<xZ ns)) ns l 0 l
noncomputable def Hy(ns:List Int)(l:Nat):Nat:=fP (λy=>!decide (xZ ns<y)) ns l (zK ns l) l
noncomputable def Oc(n X i j:Int):UInt64:=M9 (mz (bE X) (ji (bE 3) 4611686018427387904)) (ji (fW (bE 3) (mz (lH (decide (n<0) != decide ((2:Int)<0)) n.natAbs (Ja 2)) (bE i))) (bE (j-i)))
noncomputable def xu(k:Nat):UInt64:=Oc 5 (xZ (qg k)) (zK (qg k) 5) (Hy (qg k) 5)
structure Pm(k:Nat)(X:Int)(i j:Nat):Prop where
 x:X.natAbs≤5
 i5:(i:Int).natAbs≤5
 j1:(1:Int)≤(j:Int)-(i:Int)
 j5:(j:Int)-(i:Int)≤5
 v:Oc 5 X i j=xu k
theorem DK:∀k,k<6→(xZ (qg k)).natAbs≤5∧(zK (qg k) 5:Int).natAbs≤5∧(1:Int)≤(Hy (qg k) 5:Int)-(zK (qg k) 5:Int)∧(Hy (qg k) 5:Int)-(zK (qg k) 5:Int)≤5:=by decide +kernel
theorem KG(hp:ns.Perm xs)(hs:ns.Pairwise (·≤·))(h3:∀x∈xs,x=0∨x=3)(hl:ns.length=5):Pm (xs.count 3) (xZ ns) (zK ns 5) (Hy ns 5):=by
 rw[← hp.count_eq];refine b7 (J3 hs (λx u=>h3 x (hp.mem_iff.mp u)) hl) λhk e=>?_;have z:=DK (ns.count 3) (uw hk (bR true));rw[← e] at z;exact⟨z.1,z.2.1,z.2.2.1,z.2.2.2,by unfold xu;rw[← e]⟩
theorem AT(h:n≤5):¬2 ^ 1024-2 ^ 970≤n:=λe=>absurd (aw e h) (by decide +kernel)
theorem x9(hl:Ev k m n l (.int a))(ha:0≤a)(B:a≤100):Ev k m n (.BinOp l .FloorDiv (.Constant (.int 2) kk p) pos) (.int (a.fdiv 2)):=
 ⟨λQ s hi hq=>dX (hl.run _ s hi λv s1 z i1=>bf.run _ s1 i1 λv2 s2 d2 i2=>by
  refine cp z λt1 u=>?_
  try clear z
  subst u;refine cp d2 λt2 e=>?_
  try clear d2
  subst e
  exact floordiv_int (by decide) (hq _ _ ⟨_,rfl⟩ i2.toks))⟩
theorem JN{cs:Scope}{c:Fm W0 cs}{m:Lo}{n newsK:Ns}{f e ex:PE}{pos z:Pos}{wh:M7 Value}{kl:Addr}{KV:Int→Value→Prop}{g:Int→Bool}{xv:Value}{t:Int}(hd:c.dp+3<aH)(hu:c.un+40<cT)(H:fZ W0 kl newsK KV)(J:yK KV xv g){oc:Value}{od:Option Addr}{fd:FuncData}{sl:Array (Option Value)}(hm:∀p∈newsK,p∈n)(G:(kl,(⟨oc,od,.func fd,sl⟩:Obj))∈n)(h0:0≤t)(h4:t<4)(hf:Ev c.cx m n f (.val (.ref kl)))(he:Ev c.cx m n e (.int t))(hx:Ev c.cx m n ex (.val xv))
  (c1:autoParam (CC c.env f [e] pos) zAa) (c2:autoParam (SE c.env e []) zAa) (O:autoParam (eN .Lt ex=false) zAc):Tw c.cx m n (.Compare (.Call f [e] [] pos) [.Lt] [ex] z) wh (g t):=
 ⟨λQ s hi hq=>bX (gq (hf.run _ s hi λv s1 d1 i1=>by
  cases d1;refine callWith_F (xj i1.at.2 G) (aI (he.run _ s1 i1 λv2 s2 d2 i2=>bJ ?_) c2) c2;refine cp d2 λt2 u=>?_
  try clear d2
  subst u;refine⟨xj i2.at.2 G,?_⟩;obtain ⟨h9,U,rfl,F9,N9⟩:=i2;refine H _ _ _ _ _ _ _ _ _ _ _ _ _ _ _ _ _ _ _ _ _ _ _ _ _ c.B F9 c.X N9 c.T c.hk hd hu hm h0 h4 λv3 h3 Y hv F3 N3=>?_;refine hx.run _ _ ⟨_,_,rfl,F3,N3⟩ λv4 s4 d4 i4=>?_;cases d4
  exact J _ _ _ _ _ _ _ _ h0 h4 hv (aY (hq _ i4))) c1) O⟩
theorem G2{cs:Scope}{c:Fm W0 cs}{m:Lo}{n newsK:Ns}{f e ex:PE}{pos z:Pos}{wh:M7 Value}{kl:Addr}{KV:Int→Value→Prop}{g:Int→Bool}{xv:Value}{t:Int}(hd:c.dp+3<aH)(hu:c.un+40<cT)(H:fZ W0 kl newsK KV)(J:CG KV xv g){oc:Value}{od:Option Addr}{fd:FuncData}{sl:Array (Option Value)}(hm:∀p∈newsK,p∈n)(G:(kl,(⟨oc,od,.func fd,sl⟩:Obj))∈n)(h0:0≤t)(h4:t<4)(hf:Ev c.cx m n f (.val (.ref kl)))(he:Ev c.cx m n e (.int t))(hx:Ev c.cx m n ex (.val xv))
  (c1:autoParam (CC c.env f [e] pos) zAa) (c2:autoParam (SE c.env e []) zAa) (O:autoParam (eN .Lt (.Call f [e] [] pos)=false) zAc):Tw c.cx m n (.Compare ex [.Lt] [.Call f [e] [] pos] z) wh (!(g t)):=
 ⟨λQ s hi hq=>bX (hx.run _ s hi λv0 s0 d0 i0=>gq (hf.run _ s0 i0 λv s1 d1 i1=>by
  cases d0;cases d1;refine callWith_F (xj i1.at.2 G) (aI (he.run _ s1 i1 λv2 s2 d2 i2=>bJ ?_) c2) c2;refine cp d2 λt2 u=>?_
  try clear d2
  subst u;refine⟨xj i2.at.2 G,?_⟩;obtain ⟨h9,U,rfl,F9,N9⟩:=i2;refine H _ _ _ _ _ _ _ _ _ _ _ _ _ _ _ _ _ _ _ _ _ _ _ _ _ c.B F9 c.X N9 c.T c.hk hd hu hm h0 h4 λv3 h3 Y hv F3 N3=>?_
  exact J _ _ _ _ _ _ _ _ h0 h4 hv (aY (hq _ ⟨_,_,rfl,F3,N3⟩))) c1) O⟩
noncomputable def RA:Scope:=tw P0.main.body 19
noncomputable def Rz:List Stmt:=sO (((vh P0.main.body 19)[3]?).getD C7)
noncomputable def w9(m:Lo)(al kl:Addr)(xv:Value):Prop:=m "a"=some (.ref al)∧m "key"=some (.ref kl)∧m "x"=some xv
theorem w9.up(h:w9 m al kl xv)(e:x∉[("a" : Str),"key","x"]):w9 (ci m x v) al kl xv:=by
 simp only[ak,bT,or_false,not_or] at e;exact(eR ((if_neg (Ne.symm e.1)).trans h.1) ((if_neg (Ne.symm e.2.1)).trans h.2.1) ((if_neg (Ne.symm e.2.2)).trans h.2.2))
noncomputable def Py(r:Nat)(n:Ns)(f:ve)(m':Lo)(n':Ns):Prop:=f=.next∧n'=n∧∃t,m' "lo"=some (.int (r:Int) t)
theorem lY(h:m y=r)(e:y≠x):ci m x v y=r:=(if_neg e).trans h
theorem rT:ci m x v x=some v:=if_pos rfl
theorem QT{c:Fm W0 RA}{m:Lo}{n newsK:Ns}{al kl:Addr}{va:List Value}{xs:List Int}{ep:Nat}{KV:Int→Value→Prop}{g:Int→Bool}{xv:Value}{oc:Value}{od:Option Addr}{fd:FuncData}{sl:Array (Option Value)}{t1 t2:Tok}(hd:c.dp+3<aH)(hu:c.un+40<cT)(aj:fZ W0 kl newsK KV)(ap:yK KV xv g)(hm:∀p∈newsK,p∈n)(ax:(kl,(⟨oc,od,.func fd,sl⟩:Obj))∈n)
  (aD:(al,listOf va.toArray ep)∈n) (hx:au va xs) (ah:xs.length≤4) (as:∀t∈xs,0≤t∧t<4) (hK:w9 m al kl xv) (u:m "lo"=some (.int 0 t1)) (B:m "hi"=some (.int (xs.length:Nat) t2)):cK c m n Rz (Py (fP g xs xs.length 0 xs.length) n):=by
 refine jC (λk m1 n1=>n1=n∧∃(lo hi:Int) (t1 t2:Tok),w9 m1 al kl xv∧m1 "lo"=some (.int lo t1)∧m1 "hi"=some (.int hi t2)∧BJ g xs (fP g xs xs.length 0 xs.length) lo hi∧k=(hi-lo).toNat) ⟨rfl,0,_,t1,t2,hK,u,B,yH,rfl⟩ ?_;clear hK u B;intro k m1 n1 J;refine b7 J λaa H=>?_;clear J;subst aa;refine zF H λlo hi t1 t2 hK u B hB ab=>?_
 try clear H
 subst ab;refine(cZ _ (eD lc (ai u) (ai B)) (λhb=>?_) (λhb=>b9 ⟨rfl,rfl,t1,by rw[u,FX hB (of_decide_eq_false hb)]⟩));have O:=of_decide_eq_true hb;have e:=qK hB O;have ar:=as (xs.getD ((lo+hi).fdiv 2).toNat 0) (we e.2.2.1 e.2.2.2);have ha:=hB.a;have hc:=hB.c;refine ft (x9 (ec (ai u) (ai B)) (g5 [lo,hi,(lo+hi).fdiv 2] 1 Y0 (.a Z0 Z1) 1 Y0 Z0 1 (.a Z2 Y1) Z1 1 Y0 Z2 rfl ha e.2.1 e.2.2.1) (y5 [lo,hi,xs.length,(lo+hi).fdiv 2] 1 (.a Z0 Z1) (.k 100) 1 Z1 Z2 1 Z0 Z3 1 (.a Z3 Y1) Z2 2 Z2 (.k 4) rfl hc e.1 e.2.2.2 (d9 ah))) λt3=>?_;have G:=hK.up (x:="mid") (v:=.int ((lo+hi).fdiv 2) t3) (by decide);have U:=lY (x:="mid") (v:=.int ((lo+hi).fdiv 2) t3) u (by decide);have Y:=lY (x:="mid") (v:=.int ((lo+hi).fdiv 2) t3) B (by decide);have z:ci m1 "mid" (.int ((lo+hi).fdiv 2) t3) "mid"=some (.int ((lo+hi).fdiv 2) t3):=rT;generalize ci m1 "mid" (.int ((lo+hi).fdiv 2) t3)=m2 at G U Y z ⊢;refine dz (JN hd hu aj ap hm ax ar.1 ar.2 (am G.2.1) (fk (am G.1) (ai z) aD hx e.2.2.1 e.2.2.2 (eQ [(lo+hi).fdiv 2,xs.length] 1 (.a Z0 Y1) (.k (2 ^ 63)) 1 (.a Z0 Y1) Z1 1 Z1 (.k 4) rfl e.2.2.2 (d9 ah))) (am G.2.2)) (λhf=>?_) (λhf=>?_)
 .exact ft (ec (ai z) bf) λt4=>b9 (b9 (cZ _ (FV hB O) rfl ⟨(lo+hi).fdiv 2+1,hi,t4,t2,G.up (by decide),rT,lY Y (by decide),FT hB O hf,rfl⟩))
 .exact ft (ai z) λt4=>b9 (b9 (cZ _ (FU hB O) rfl ⟨lo,(lo+hi).fdiv 2,t1,t4,G.up (by decide),lY U (by decide),rT,Jt hB O hf,rfl⟩))
noncomputable def Ry:Scope:=tw P0.main.body 16
noncomputable def Rx:List Stmt:=sO (((vh P0.main.body 16)[3]?).getD C7)
theorem QS{c:Fm W0 Ry}{m:Lo}{n newsK:Ns}{al kl:Addr}{va:List Value}{xs:List Int}{ep:Nat}{KV:Int→Value→Prop}{g:Int→Bool}{xv:Value}{oc:Value}{od:Option Addr}{fd:FuncData}{sl:Array (Option Value)}{t1 t2:Tok}(hd:c.dp+3<aH)(hu:c.un+40<cT)(ap:fZ W0 kl newsK KV)(ar:CG KV xv g)(hm:∀p∈newsK,p∈n)(aD:(kl,(⟨oc,od,.func fd,sl⟩:Obj))∈n)
  (aM:(al,listOf va.toArray ep)∈n) (hx:au va xs) (aj:xs.length≤4) (ax:∀t∈xs,0≤t∧t<4) (hK:w9 m al kl xv) (u:m "lo"=some (.int 0 t1)) (B:m "hi"=some (.int (xs.length:Nat) t2)):cK c m n Rx (Py (fP g xs xs.length 0 xs.length) n):=by
 refine jC (λk m1 n1=>n1=n∧∃(lo hi:Int) (t1 t2:Tok),w9 m1 al kl xv∧m1 "lo"=some (.int lo t1)∧m1 "hi"=some (.int hi t2)∧BJ g xs (fP g xs xs.length 0 xs.length) lo hi∧k=(hi-lo).toNat) ⟨rfl,0,_,t1,t2,hK,u,B,yH,rfl⟩ ?_;clear hK u B;intro k m1 n1 J;refine b7 J λaa H=>?_;clear J;subst aa;refine zF H λlo hi t1 t2 hK u B hB ah=>?_
 try clear H
 subst ah;refine(cZ _ (eD lc (ai u) (ai B)) (λhb=>?_) (λhb=>b9 ⟨rfl,rfl,t1,by rw[u,FX hB (of_decide_eq_false hb)]⟩));have O:=of_decide_eq_true hb;have e:=qK hB O;have as:=ax (xs.getD ((lo+hi).fdiv 2).toNat 0) (we e.2.2.1 e.2.2.2);have ha:=hB.a;have hc:=hB.c;refine ft (x9 (ec (ai u) (ai B)) (g5 [lo,hi,(lo+hi).fdiv 2] 1 Y0 (.a Z0 Z1) 1 Y0 Z0 1 (.a Z2 Y1) Z1 1 Y0 Z2 rfl ha e.2.1 e.2.2.1) (y5 [lo,hi,xs.length,(lo+hi).fdiv 2] 1 (.a Z0 Z1) (.k 100) 1 Z1 Z2 1 Z0 Z3 1 (.a Z3 Y1) Z2 2 Z2 (.k 4) rfl hc e.1 e.2.2.2 (d9 aj))) λt3=>?_;have G:=hK.up (x:="mid") (v:=.int ((lo+hi).fdiv 2) t3) (by decide);have U:=lY (x:="mid") (v:=.int ((lo+hi).fdiv 2) t3) u (by decide);have Y:=lY (x:="mid") (v:=.int ((lo+hi).fdiv 2) t3) B (by decide);have z:ci m1 "mid" (.int ((lo+hi).fdiv 2) t3) "mid"=some (.int ((lo+hi).fdiv 2) t3):=rT;generalize ci m1 "mid" (.int ((lo+hi).fdiv 2) t3)=m2 at G U Y z ⊢;refine dz (G2 hd hu ap ar hm aD as.1 as.2 (am G.2.1) (fk (am G.1) (ai z) aM hx e.2.2.1 e.2.2.2 (eQ [(lo+hi).fdiv 2,xs.length] 1 (.a Z0 Y1) (.k (2 ^ 63)) 1 (.a Z0 Y1) Z1 1 Z1 (.k 4) rfl e.2.2.2 (d9 aj))) (am G.2.2)) (λhf=>?_) (λhf=>?_)
 .have ab:g (xs.getD ((lo+hi).fdiv 2).toNat 0)=false:=by revert hf;cases g (xs.getD ((lo+hi).fdiv 2).toNat 0)<;>simp
  exact ft (ai z) λt4=>b9 (b9 (cZ _ (FU hB O) rfl ⟨lo,(lo+hi).fdiv 2,t1,t4,G.up (by decide),lY U (by decide),rT,Jt hB O ab,rfl⟩))
 .have ab:g (xs.getD ((lo+hi).fdiv 2).toNat 0)=true:=by revert hf;cases g (xs.getD ((lo+hi).fdiv 2).toNat 0)<;>simp
  exact ft (ec (ai z) bf) λt4=>b9 (b9 (cZ _ (FV hB O) rfl ⟨(lo+hi).fdiv 2+1,hi,t4,t2,G.up (by decide),rT,lY Y (by decide),FT hB O ab,rfl⟩))
section
variable {cs:Scope}{c:Fm W0 cs}{sc:Scope}{m:Lo}{n:Ns}{R:Re}{d q:Addr}{o:Obj}{kvs:List (Int×Value)}{rest:List Stmt}
theorem Ig(hf:Ev k m n f (.val (.ref q)))(h1:Ev k m n e1 (.int j))(hq:(q,cf "dict.__contains__" (.ref d))∈n)(hm:(d,o)∈n)(hd:nY W0 o kvs)(lo:(d==cN)=false)(u:(cX kvs j).isSome=b)
  (c1:autoParam (CC k.env f [e1] pos) zAa) (c2:autoParam (SE k.env e1 []) zAa):Ev k m n (.Call f [e1] [] pos) (.val (.bool b)):=
 ⟨λQ s hi hQ=>gq (hf.run _ s hi λv s1 B i1=>by
  cases B;refine hH (k.opn i1) λm0 ex _ O N0 _=>?_;refine pK N0 (zR hq) ?_ c2;refine aI (h1.run _ s1 i1 λv1 s2 d2 i2=>bJ ?_) c2;refine cp d2 λt e=>?_
  try clear d2
  subst e;refine⟨i2.get hq,?_⟩;refine hH (k.opn i2) λH z _ J G _=>?_
  exact Ju G (zR hq) (zR hm) hd lo rfl (hQ _ _ (by rw[u];exact rfl) i2.toks)) c1⟩
theorem yg(he:Ev c.cx m n e (.int i))(Y:Ev c.cx m n ed (.val (.ref d)))(hk:Ev c.cx m n O (.int j))(U:xh d o n g)(hd:nY W0 o kvs)(hsz:kvs.length≤dY)
  (h:∀t o',nY W0 o' (yN kvs j (.int i t))→cK c m (g o') rest R)
  (hs:autoParam (f0 e (some (.Subscript ed O B)) pos.line c.env=ck false) zAa):
  cK c m n (.Assign [.Subscript ed O B] e pos::rest) R:=
 bK ⟨λQ s hi hq=>wpAny_Assign_Subscript (he.run _ s hi λv s1 hv i1=>Y.run _ s1 i1 λv2 s2 H i2=>hk.run _ s2 i2 λv3 s3 G i3=>by
  refine cp hv λt z=>?_
  try clear hv
  subst z;cases H;refine cp G λt3 u=>?_
  try clear G
  subst u
  exact kda_set (knd:=gR _ _) i3.at.1 i3.at.2 U hd (jW _ _ _ _) hsz λh' o' F' N' J=>hq .next _ _ _ (h t o' J) (i3.to F' N')) hs⟩
end
section
variable {c:Fm W0 (mS 11)}{m:Lo}{n N0:Ns}{R:Re}{rest:List Stmt}{xs ys:List Int}{va vb:List Value}{ep1 ep2:Nat}{la lb fb q av S:Addr}{o oF:Obj}{kvF:List (Int×Value)}
noncomputable def Qb:Stmt:=((sB (oL 11 1))[1]?).getD C7
theorem Hn(he:Ev c.cx m n (sE Qb) (.val (.ref lb)))(O:(lb,listOf vb.toArray ep2)∈N0)(ap:au vb ys)(ab:ys.Nodup)(aa:ys.length≤32)(hs:m "self"=some (.ref S))(hf:m "fullbcount"=some (.ref fb))(hn:n=(fb,o)::N0)(ho:nY W0 o [])(lo:(fb==cN)=false)(off:∀p∈N0,p.1≠fb)
  (H:∀m' o' kvs,m' "self"=some (.ref S)→nY W0 o' kvs→FB ys kvs→cK c m' ((fb,o')::N0) rest R):cK c m n (Qb::rest) R:=by
 subst hn;refine uK he (zT O) ap (λi m1 n1=>∃(o:Obj) (kvs:List (Int×Value)),m1 "self"=some (.ref S)∧m1 "fullbcount"=some (.ref fb)∧n1=(fb,o)::N0∧nY W0 o kvs∧kvs.length≤i∧(∀k∈ys.take i,∃t,cX kvs k=some (.int 1 t))∧∀k,k∉ys.take i→cX kvs k=none) (QH o [] hs hf rfl ho (c7 _) (λ_ h=>nomatch h) (λ_ _=>rfl)) ?_ ?_
 .clear he hs hf ho
  intro i x t m1 n1 I oI hi hI z;refine NI z λo kvs hs hf G hd hl Y R2=>?_;clear z;subst G;have U:@Ne Nat I fb:=aF (hI _ (zH));have ar:∀p∈N0,@Ne Nat p.1 I:=λp hp=>aB (hI p (zT hp));have J:ci m1 "elt" (.int x t) "fullbcount"=some (.ref fb):=bc hf;have ah:=mL hi;have hv:=R2 x (qx ab hi);refine yg (ec (wS (am J) (ai cW) (bf (i:=0)) (a:=.int 0) (zT (zH)) hd lo hv (λv h=>h)) (bf (i:=1))) (am J) (ai cW) (.tail U (.head off)) hd (by rw[eK];exact nV (g5 [kvs.length,i,ys.length] 1 Z0 (.k 16777216) 1 (.a Z1 Y1) Z2 1 Z0 Z1 1 Z2 (.k 32) rfl (d9 ah) (d9 hl) (d9 aa))) λt' o' aj=>b9 ?_;refine⟨zH,(fb,o')::N0,λp hp=>⟨zT hp,(ak.mp hp).elim (λh=>by rw[h];exact Ne.symm U) (ar p)⟩,zT O,o',_,bc hs,J,rfl,aj,aw qu (gY hl),λk hk=>?_,λk hk=>?_⟩
  .rw[gD]
   by_cases e:k=x
   .rw[if_pos e];exact⟨_,rfl⟩
   .rw[if_neg e];exact Y k (wF hi hk e)
  .rw[gD,if_neg (kf hi hk)]
   exact R2 k (lZ hk)
 .intro m1 n1 u
  refine NI u λo kvs hs hf B hd hl Y R2=>?_;clear u;subst B;rw[cP] at Y R2;exact H m1 o kvs hs hd ⟨Y,R2⟩
structure QK(m:Lo)(S q av fb:Addr):Prop where
 s:m "self"=some (.ref S)
 h:m "availhas"=some (.ref q)
 a:m "avail"=some (.ref av)
 f:m "fullbcount"=some (.ref fb)
theorem QK.up(h:QK m S q av fb)(e:x∉[("self" : Str),"availhas","avail","fullbcount"]):QK (ci m x v) S q av fb:=by
 simp only[ak,bT,or_false,not_or] at e;refine xU e λh1 h2 h3 h4=>?_
 try clear e
 exact⟨(if_neg (Ne.symm h1)).trans h.s,(if_neg (Ne.symm h2)).trans h.h,(if_neg (Ne.symm h3)).trans h.a,(if_neg (Ne.symm h4)).trans h.f⟩
theorem Hm(he:Ev c.cx m n (sE (oL 11 5)) (.val (.ref la)))(ah:(la,listOf va.toArray ep1)∈N0)(bb:au va xs)(aM:xs.Nodup)(ax:xs.length≤32)(hK:QK m S q av fb)(ab:m "matches"=some (.int 0 t0))(hn:n=(av,o)::N0)(ho:nY W0 o [])(lo:(av==cN)=false)(off:∀p∈N0,p.1≠av)
  (hq:(q,cf "dict.__contains__" (.ref av))∈N0) (hF:(fb,oF)∈N0) (a5:nY W0 oF kvF) (hB:FB ys kvF) (ar:(fb==cN)=false)
  (U:∀m' o' t,QK m' S q av fb→m' "matches"=some (.int ((xs.filter (·∈ys)).length:Int) t)→cK c m' ((av,o')::N0) rest R):cK c m n (oL 11 5::rest) R:=by
 subst hn;refine uK he (zT ah) bb (λi m1 n1=>∃(t:Tok) (o:Obj) (kvs:List (Int×Value)),QK m1 S q av fb∧m1 "matches"=some (.int (((xs.take i).filter (·∈ys)).length:Int) t)∧n1=(av,o)::N0∧nY W0 o kvs∧kvs.length≤i∧∀k,k∉xs.take i→cX kvs k=none) (QG t0 o [] hK ab rfl ho (c7 _) (λ_ _=>rfl)) ?_ ?_
 .clear he hK ab ho
  intro i x t m1 n1 I oI hi hI B;refine NF B λtm o kvs hK hm O hd hl R2=>?_;clear B;subst O;have ap:@Ne Nat I av:=aF (hI _ (zH));have bh:∀p∈N0,@Ne Nat p.1 I:=λp hp=>aB (hI p (zT hp));have aa:=hK.up (x:="elt") (v:=.int x t) (by decide);have a4:=mL hi;have hv:=R2 x (qx aM hi);have a0:ci m1 "elt" (.int x t) "matches"=some (.int (((xs.take i).filter (·∈ys)).length:Int) tm):=bc hm;refine dz (b:=false) (nr (Ig (am aa.h) (ai cW) (zT (zT hq)) (zT (zH)) hd lo (by rw[hv];rfl))) (λh=>bH h) λ_=>?_
  obtain ⟨z,hz⟩:∃z:Int,z=if x∈ys then 1 else 0:=⟨_,rfl⟩
  have as:∀v,(Bv.int 0).den v→(Bv.int z).den ((cX kvF x).getD v):=by
   intro v aD;rw[hz]
   by_cases h:x∈ys
   .refine cp (hB.1 x h) λt e=>?_
    rw[e,if_pos h];exact⟨t,rfl⟩
   .rw[hB.2 x h,if_neg h]
    exact aD
  refine(ft (wS (am aa.f) (ai cW) (bf (i:=0)) (zT (zT hF)) a5 ar rfl as) λt2=>bQ ?_);have G:=aa.up (x:="numb") (v:=.int z t2) (by decide);have Y:=bc (x:="numb") (v:=.int z t2) a0 (by decide);have aj:ci (ci m1 "elt" (.int x t)) "numb" (.int z t2) "elt"=some (.int x t):=bc cW;have hz2:ci (ci m1 "elt" (.int x t)) "numb" (.int z t2) "numb"=some (.int z t2):=cW;generalize ci (ci m1 "elt" (.int x t)) "numb" (.int z t2)=m2 at G Y aj hz2 ⊢;refine yg (jl (ai hz2) (bf (i:=1))) (am G.a) (ai aj) (.tail ap (.head off)) hd (by rw[eK];exact nV (g5 [kvs.length,i,xs.length] 1 Z0 (.k 16777216) 1 (.a Z1 Y1) Z2 1 Z0 Z1 1 Z2 (.k 32) rfl (d9 a4) (d9 hl) (d9 ax))) λt' o' a6=>?_
  have fin:∀(m3:Lo) (t3:Tok),QK m3 S q av fb→m3 "matches"=some (.int (((xs.take (i+1)).filter (·∈ys)).length:Int) t3)→∃n',(∀p∈n',p∈(I,oI)::(av,o')::N0∧p.1≠I)∧(la,listOf va.toArray ep1)∈n'∧∃(t:Tok) (o:Obj) (kvs:List (Int×Value)),QK m3 S q av fb∧m3 "matches"=some (.int (((xs.take (i+1)).filter (·∈ys)).length:Int) t)∧n'=(av,o)::N0∧nY W0 o kvs∧kvs.length≤i+1∧∀k,k∉xs.take (i+1)→cX kvs k=none:=λm3 t3 a7 aQ=>
   (cZ ((av,o')::N0) (λp hp=>⟨zT hp,(ak.mp hp).elim (λh=>by rw[h];exact Ne.symm ap) (bh p)⟩) (zT ah) ⟨t3,o',_,a7,aQ,rfl,a6,aw qu (gY hl),λk hk=>by
    rw[gD,if_neg (kf hi hk)]
    exact R2 k (lZ hk)⟩)
  refine dz (eD qk (ai hz2) (bf (i:=0))) (λh=>?_) (λh=>?_)
  .have H:x∈ys:=by
    by_cases H:x∈ys
    .exact H
    .rw[hz,if_neg H] at h
     exact absurd h (by decide)
   exact ft (ec (ai Y) (bf (i:=1))) λt3=>bQ (b9 ⟨zH,fin _ t3 (G.up (by decide)) (by rw[Ix hi H];exact cW)⟩)
  .have H:x∉ys:=by
    intro H;rw[hz,if_pos H] at h;exact absurd h (by decide)
   exact bQ (b9 ⟨zH,fin _ tm G (by rw[LK hi H];exact Y)⟩)
 .intro m1 n1 u
  refine NF u λt o kvs hK hm J hd hl R2=>?_;clear u;subst J;rw[cP] at hm;exact U m1 o t hK hm
end
theorem nt:MT W0:=⟨⟨by with_unfolding_all rfl,by with_unfolding_all rfl,by with_unfolding_all rfl⟩,λi h=>match i,h with
 | 0,_ | 1,_ | 2,_ | 3,_ | 4,_ | 5,_ | 6,_ | 7,_ | 8,_ | 9,_=>⟨by with_unfolding_all rfl,by with_unfolding_all rfl,by with_unfolding_all rfl⟩
 | n+10,h=>absurd h (λhh=>wP hh (gy 10 n))⟩
section
variable {τ:Nat→Tok}{d:Nat→Value}{N:Ns}{S D:Addr}{n:Nat}{av:Value}
noncomputable abbrev SL(W0:World)(S D:Addr)(τ:Nat→Tok)(d:Nat→Value)(n:Nat)(N:Ns):Ns:=(S,cY 278 D)::(D,SO W0 τ d n)::N
theorem DD(z:@Ne Nat S D)(u:∀p∈N,p.1≠D)(h4:4≤n)(h10:n≤10)(hh:qQ (d 1)=true){same:Bool}(B:Jz (SL W0 S D τ d n N) av (d 1) same):
  fg W0 210 [.ref S,av] (SL W0 S D τ d n N) 1 3 (λv n'=>v=.none∧∃e,(6≤n→e = τ)∧n'=SL W0 S D e (if same then d else di (di (di d 1 av) 4 .none) 5 .none) (if same then n else max (max (max n 2) 5) 6) N):=
 lf (body:=mB 3) (scope:=mS 3) (binds:=[("self",.ref S),("a",av)]) (by with_unfolding_all rfl) (by with_unfolding_all rfl) (λs X=>dB rfl) (ss rfl) rfl rfl rfl (by decide) λc hd hu=>by
  refine g6 (dz (oz (am rfl) (gK nt 1 (am rfl) (zH) (zT (zH)) rfl hh (ly h4)) B) (λh=>E7 ?_) λh=>bQ ?_)
  .subst h
   exact⟨rfl,τ,λ_=>rfl,rfl⟩
  subst h;refine uL nt 1 z u (am rfl) (am rfl) (λτ a1=>?_) (ly h4) (by decide) h10;refine wR nt 4 5 z u gN (λ_=>am rfl) (λ_=>am rfl) (λτ a2=>b9 ⟨rfl,τ,λh=>(a2 (lx (ly h)) (lx (ly h))).trans (a1 (ly h)),rfl⟩) (lx (ly h4)) (kG ..) (by decide) (by decide) (mx h10)
theorem DC{bv:Value}{dp un:Nat}{P:(Nat→Tok)→Value→Ns→Prop}(J:dp≤20)(H:un≤100)(B:@Ne Nat S D)(z:∀p∈N,p.1≠D)(h6:6≤n)(h10:n≤10)(hh:qQ (d 2)=true)(O:Jz (SL W0 S D τ d n N) bv (d 2) false)
  (hC:∀e,(7≤n→e = τ)→fg W0 224 [.ref S] (SL W0 S D e (di (di (di (di d 2 bv) 4 .none) 5 .none) 6 .none) (max (max (max (max n 3) 5) 6) 7) N) dp un (P e)):
  fg W0 217 [.ref S,bv] (SL W0 S D τ d n N) (dp+1) (un+3) (λv n'=>v=.none∧∃e u,(7≤n→e = τ)∧P e u n'):=
 lf (body:=mB 4) (scope:=mS 4) (binds:=[("self",.ref S),("b",bv)]) (by with_unfolding_all rfl) (by with_unfolding_all rfl) (λs X=>dB rfl) (ss rfl) rfl rfl rfl (by decide) λc hd hu=>by
  refine g6 (dz (oz (am rfl) (gK nt 2 (am rfl) (zH) (zT (zH)) rfl hh (ly h6)) O) (λh=>bH h) λ_=>bQ ?_);refine uL nt 2 B z (am rfl) (am rfl) (λτ a1=>?_) (ly h6) (by decide) h10;refine wR nt 4 5 B z gN (λ_=>am rfl) (λ_=>am rfl) (λτ a2=>?_) (lx (ly h6)) (kG ..) (by decide) (by decide) (mx h10);refine uL nt 6 B z gN (am rfl) (λτ a3=>?_) (kG ..) (by decide) (mx (mx (mx h10)));have G:=λ(h:7≤n)=>(a3 (lx (lx (lx (ly h))))).trans ((a2 (lx (ly h)) (lx (ly h))).trans (a1 (ly h)));refine oP (rz (hC τ (G)) (am rfl) (zH) (zT (zH)) (iA λi hi=>?_) hd hu rfl) λv n' hp=>b9 ⟨rfl,_,v,G,hp⟩;exact nK (by decide) (aN hi (mx (mx (mx (mx h10)))))
inductive MY(W0:World)(S D:Addr)(n:Nat)(τ0:Nat→Tok)(d:Nat→Value)(ys:List Int)(N:Ns)(v:Value)(n':Ns):Prop
 | mk (τ:Nat→Tok) (lj lk lp:Addr) (oj:Obj) (kvs:List (Int×Value)) (led led2:Bool) (T:Ns) (hv:v=.none) (sub:∀p∈N,p∈T) (hT:∀p∈T,p.1≠D) (hd:nY W0 oj kvs) (lo:(lj==cN)=false) (hB:yM ys kvs T) (nj:lj≠D) (nk:lk≠D) (np:lp≠D) (hτ:10≤n→τ = τ0) (hn:n'=SL W0 S D τ (di (di (di d 7 (.ref lj)) 8 (.ref lk)) 9 (.ref lp)) 10 ((lp,dt led2)::(lk,dt led)::(lj,oj)::T))
theorem Jh:∀p∈a::b::x::T,p∈x::a::b::T:=λp hp=>by
 rcases ak.mp hp with h|hp
 .exact h▸zT (zH)
 .rcases ak.mp hp with h|hp
  .exact h▸zT (zT (zH))
  .rcases ak.mp hp with h|hp
   .exact h▸zH
   .exact zT (zT (zT hp))
theorem PA:∀p∈x::a::b::T,p∈a::b::x::T:=λp hp=>Jh p (Jh p hp)
noncomputable def Oi:PE:=sE (oL 5 7)
theorem An{c:Fm W0 (mS 5)}{m:Lo}{ys:List Int}{T:Ns}{lj:Addr}{oj:Obj}{kvs:List (Int×Value)}{bv:Value}{R:Re}(hs:m "self"=some (.ref S))(hb:m "b"=some bv)(hl:∀m M,m "b"=some bv→(∀p∈N,p∈M)→Ev c.cx m M Oi (.int ys.length))(Y:ys.length≤32)(h0:d 0=.none)(h3:d 3=.bool true)(O:@Ne Nat S D)(h8:8≤n)(h10:n≤10)(sub:∀p∈N,p∈T)(hT:∀p∈T,p.1≠D)(hd:nY W0 oj kvs)(lo:(lj==cN)=false)(hB:yM ys kvs T)(nj:lj≠D)
  (hR:∀J lk led lp led2 m,lk≠D→lp≠D→(10≤n→J = τ)→R .next m (SL W0 S D J (di (di d 8 (.ref lk)) 9 (.ref lp)) 10 ((lp,dt led2)::(lk,dt led)::(lj,oj)::T))):cK c m (SL W0 S D τ d n ((lj,oj)::T)) ((mB 5).drop 3) R:=by
 refine tE nt 8 O (Bf cO) (λ_=>am hs) ?_ h8 (by decide) h10;intro v n1 u;refine gJ u λlk led H G U=>?_;clear u;subst H;subst G;have nk:@Ne Nat lk D:=aF (U _ (zT (zH)));refine(cZ ((lk,dt led)::(lj,oj)::T) Jh (zC ⟨nk,zC ⟨nj,hT⟩⟩) (λτ a1=>?_));refine tB (gK nt 0 (am (bc hs)) (zH) (zT (zH)) h0 rfl (lx (ly h8))) ?_;refine dz (GZ (am cW)) (λh=>bH h) λ_=>bQ ?_;refine tE nt 9 O (Bf cO) (λ_=>am (bc (bc hs))) ?_ (kG ..) (by decide) (mx h10);intro v n1 e;refine gJ e λlp led2 B z l2=>?_;clear e;subst B;subst z;have np:@Ne Nat lp D:=aF (l2 _ (zT (zH)));refine(cZ ((lp,dt led2)::(lk,dt led)::(lj,oj)::T) Jh (zC ⟨np,zC ⟨nk,zC ⟨nj,hT⟩⟩⟩) (λτ a2=>?_));refine ft (hl _ _ (bc (bc (bc hb))) λp hp=>iy [_,_,_,_,_] (sub p hp)) λt=>?_;refine dz (fS (nr (gK nt 3 (am (bc (bc (bc (bc hs))))) (zH) (zT (zH)) h3 rfl (lx (lx (ly h8))))) λ_=>fS (eD FF (ai cW) bf) λ_=>iU) (λh=>?_) λ_=>bQ (b9 ?_)
 .have:=of_decide_eq_true ((Bool.and_true _).symm.trans ((Bool.true_and _).symm.trans h))
  exact absurd this (Int.not_le.mpr (eF (dk.mpr Y) (by decide)))
 .rw[show max (max n (8+1)) (9+1)=10 from MI (mx h10)]
  exact hR _ _ _ _ _ _ nk np λh=>(a2 (lx (ly h))).trans (a1 (ly h))
end
section
variable {τ:Nat→Tok}{d:Nat→Value}{N:Ns}{S D:Addr}{n:Nat}
inductive Pu(m:Lo)(S:Addr)(bv:Value)(lj:Addr):Prop
 | mk (z0:m "self"=some (.ref S)) (z1:m "b"=some bv) (z2:m "b2j"=some (.ref lj))
theorem Pu.up(h:Pu m S bv lj)(h1:("self" : Str)≠x)(h2:("b" : Str)≠x)(h3:("b2j" : Str)≠x):Pu (ci m x v) S bv lj:=⟨bc h.1 h1,bc h.2 h2,bc h.3 h3⟩
inductive RP(W0:World)(S D:Addr)(τ:Nat→Tok)(d:Nat→Value)(n:Nat)(bv:Value)(lj:Addr)(ys:List Int)(N:Ns)(i:Nat)(m:Lo)(n1:Ns):Prop
 | mk (o:Obj) (kvs:List (Int×Value)) (T:Ns) (hK:Pu m S bv lj) (hn:n1=(lj,o)::SL W0 S D τ d n T) (hd:nY W0 o kvs) (sub:∀p∈N,p∈T) (hj:∀p∈T,p.1≠lj) (hD:∀p∈T,p.1≠D) (hl:kvs.length≤i) (r1:∀k,k∉ys.take i→cX kvs k=none) (r2:∀(j:Nat) (n:Int),j<i→ys[j]?=some n→∃(a:Addr) (t:Tok) (ep:Nat),cX kvs n=some (.ref a)∧(a,listOf #[.int (j:Int) t] ep)∈T)
theorem FM(d1:@Ne Nat S D)(dN:∀p∈N,p.1≠D)(h7:7≤n)(h10:n≤10)(h0:d 0=.none)(h3:d 3=.bool true)(h2:d 2=bv)(ap:ys.length≤32)(ax:ys.Nodup)
  (hb:ys=[]∧(∃u,bv=.str "" u)∨∃lb vb ep,bv=.ref lb∧(lb,listOf vb.toArray ep)∈N∧au vb ys):fg W0 224 [.ref S] (SL W0 S D τ d n N) 1 3 (MY W0 S D n τ d ys N):=
 lf (body:=mB 5) (scope:=mS 5) (binds:=[("self",.ref S)]) (by with_unfolding_all rfl) (by with_unfolding_all rfl) (λs X=>dB rfl) (ss rfl) rfl rfl rfl (by decide) λc hd hu=>by
  refine(?_:cK c _ _ (.Assign [.Name "b" _] (.Attribute (.Name "self" _) "b" _) _::.Assign [.Attribute (.Name "self" _) "b2j" _,.Name "b2j" _] (.Dict [] [] _) _::.For (.Tuple [.Name "i" _,.Name "elt" _] _ _) (.Call (.Name "enumerate" _) [.Name "b" _] [] _) [.Assign [.Name "indices" _] (.Call (.Attribute (.Name "b2j" _) "setdefault" _) [.Name "elt" _,.List [] _] [] _) _,.Expr (.Call (.Attribute (.Name "indices" _) "append" _) [.Name "i" _] [] _) _] [] _::(mB 5).drop 3) _)
  have hh:qQ bv=true:=by
   rcases hb with ⟨_,u,rfl⟩|⟨lb,vb,ep,rfl,_⟩<;>rfl
  refine tB (gK nt 2 (am rfl) (zH) (zT (zH)) h2 hh (aN (by decide) h7)) ?_;refine tE nt 7 d1 oS (λ_=>am rfl) ?_ h7 (by decide) h10;intro v n1 O;refine NM O λlj o aj ah ho lo l1=>?_;clear O;subst aj;subst ah;have nj:@Ne Nat lj D:=aF (l1 _ (zT (zH)));have nS:@Ne Nat S lj:=aB (l1 _ (zH));have jN:∀p∈N,p.1≠lj:=λp hp=>aB (l1 p (zT (zT hp)));refine(cZ ((lj,o)::N) Jh (zC ⟨nj,dN⟩) (λz a1=>?_))
  have hK:Pu (ci (ci (λy=>([("self",.ref S)]:List (Str×Value)).reverse.lookup y) "b" bv) "b2j" (.ref lj)) S bv lj:=⟨rfl,rfl,rfl⟩
  revert hK;generalize ci (ci (λy=>([("self",.ref S)]:List (Str×Value)).reverse.lookup y) "b" bv) "b2j" (.ref lj)=m;intro hK
  have done:(∀m M,m "b"=some bv→(∀p∈N,p∈M)→Ev c.cx m M Oi (.int ys.length))→∀m n1,RP W0 S D z (di d 7 (.ref lj)) (max n (7+1)) bv lj ys N ys.length m n1→cK c m n1 ((mB 5).drop 3) (λfl _ n'=>MY W0 S D n τ d ys N (yc fl) n'):=by
   rintro hl m n1 ⟨o,kvs,T,hK,rfl,hd,sub,hj,hD,_,r1,r2⟩;rw[cP] at r1
   have hB:yM ys kvs T:=⟨r1,λj n hj=>r2 j n (mL hj) hj⟩
   exact cL (An (n:=max n (7+1)) (d:=di d 7 (.ref lj)) (τ:=z) hK.1 hK.2 hl ap h0 h3 d1 (kG ..) (Nat.max_le.mpr ⟨h10,by decide⟩) sub hD hd lo hB nj λaM lk led lp led2 m nk np a2=>⟨aM,lj,lk,lp,o,kvs,led,led2,T,rfl,sub,hD,hd,lo,hB,nj,nk,np,λh=>(a2 (aw h (xt ..))).trans (a1 (aN (by decide) h)),rfl⟩) Jh
  rcases hb with ⟨rfl,u,rfl⟩|⟨lb,vb,ep,rfl,ar,hI⟩
  .refine Cg cO (am hK.2) (cL (done (λm M hm _=>H9 cO (am hm)) m _ ⟨o,[],N,hK,rfl,ho,λ_ h=>h,jN,dN,aR _,λ_ _=>rfl,λ_ _ h=>nomatch h⟩) PA)
  .have aD:=gB (lj,o) (gB (S,cY 278 D) (gB (D,SO W0 z (di d 7 (.ref lj)) (max n (7+1))) ar))
   refine cL ?_ PA;refine Fa cO (am hK.2) aD hI (λi m n1=>RP W0 S D z (di d 7 (.ref lj)) (max n (7+1)) (.ref lb) lj ys N i m n1) (λI hI=>?_) ?_ (done λm M hm hs=>?_)
   .exact⟨o,[],N,hK,rfl,ho,λ_ h=>h,jN,dN,aR _,λ_ _=>rfl,λ_ _ h=>nomatch h⟩
   .rintro i x t t2 m1 n1 I o1 o2 hx a7 ⟨o,kvs,T,hK,rfl,hd,sub,hj,hD,hl,r1,r2⟩ B
    have hv:cX kvs x=none:=r1 x (qx ax hx);have a0:=mL hx
    have U:=(B (lj,o) (zH))
    have a5:=λp (hp:p∈T)=>B p (zT (zT (zT hp)));refine cL (n':=(lj,o)::(I+1,o1)::(I,o2)::SL W0 S D z (di d 7 (.ref lj)) (max n (7+1)) T) ?_ PA;refine dG (Cj (am (bc (bc hK.3))) (ai cW) (zC ⟨U.2.symm,zC ⟨U.1.symm,zC ⟨nS,zC ⟨nj.symm,hj⟩⟩⟩⟩) hd lo hv (aw hl (aw (aL (aN a0 ap)) (by decide)))) ?_;intro v n2 J;refine hH J λa o' ab aa a4 la=>?_;clear J;subst ab;subst aa;have ka:=((hK.up (x:="i") (v:=.int (i:Int) t) (by decide) (by decide) (by decide)).up (x:="elt") (v:=.int x t2) (by decide) (by decide) (by decide)).up (x:="indices") (v:=.ref a) (by decide) (by decide) (by decide);have fa:∀p∈(lj,o')::(I+1,o1)::(I,o2)::SL W0 S D z (di d 7 (.ref lj)) (max n (7+1)) T,p.1≠a:=zC ⟨aB (la (lj,o) (zH)),λp hp=>aB (la p (zT hp))⟩;refine gM (vs:=[]) (am cW) (zH) (iL (ai (bc (bc cW)))) (by decide) ?_;intro v n3 H;refine b7 H λG Y=>?_;clear H;refine cp G λu as=>?_
    try clear G
    subst as;subst Y;refine(c9 _ (.head fa) (b9 (eR (zT (zT (zH))) (zT (zT (zT (zH)))) ⟨(lj,o')::SL W0 S D z (di d 7 (.ref lj)) (max n (7+1)) ((a,listOf [fn (i:Int) u].toArray 1)::T),?_,?_,⟨o',_,_,ka,rfl,a4,?_,?_,?_,?_,?_,?_⟩⟩)))
    .refine zC ⟨(eR (zT (zH)) U.2 U.1),zC ⟨⟨zT (zT (zT (zT (zH)))),(B (S,_) (zT (zH))).symm⟩,zC ⟨⟨zT (zT (zT (zT (zT (zH))))),(B (D,_) (zT (zT (zH)))).symm⟩,zC ⟨(eR (zH) ((fa (I+1,o1) (zT (zH))).symm) ((fa (I,o2) (zT (zT (zH)))).symm)),λp hp=>⟨zT (zT (zT (zT (zT (zT hp))))),(a5 p hp).symm⟩⟩⟩⟩⟩
    .exact zT (zT (zT (zT (sub _ ar))))
    .exact λp hp=>zT (sub p hp)
    .exact zC ⟨(fa _ (zH)).symm,hj⟩
    .exact zC ⟨(fa _ (zT (zT (zT (zT (zH)))))).symm,hD⟩
    .exact aw qu (gY hl)
    .intro k hk
     rw[gD,if_neg (kf hx hk)];exact r1 k (lZ hk)
    .intro j q hj hq
     rw[gD]
     by_cases e:j=i
     .subst e
      rw[hx] at hq;rw[if_pos (dJ hq).symm];exact(Lg _ _ _ rfl (zH))
     .have aQ:q≠x:=by
       rintro rfl;exact e ((tX (mL hq) ax).mp (hq.trans hx.symm))
      rw[if_neg aQ];refine NH (r2 j q (ng (nN hj) e) hq) λa' t' a6 x1 x2=>?_;exact(Lg a' t' a6 x1 (zT x2))
   .rw[← hI.length]
    exact ku cO (am hm) (hs _ ar) (aw (fu hI.length) (aw ap (by decide)))
end
section
variable {τ:Nat→Tok}{d:Nat→Value}{N:Ns}{S D:Addr}
noncomputable def Jm(d:Nat→Value)(av bv:Value):Nat→Value:=di (di (di (di (di (di (di d 1 av) 4 .none) 5 .none) 2 bv) 4 .none) 5 .none) 6 .none
theorem OA(h:b=.none):Jz M (.str "" u) b false:=h▸.other rfl (λe=>nomatch e)
theorem OM(h:b=.none):qQ b=true:=h▸rfl
theorem Hj(Y:@Ne Nat S D)(U:∀p∈N,p.1≠D)(h0:d 0=.none)(h1:d 1=.none)(h2:d 2=.none)(h3:d 3=.bool true):
  fg W0 203 [.ref S,.str "" J,.str "" O] (SL W0 S D τ d 4 N) 3 10 (λv n'=>v=.none∧∃n0 τ0 u,MY W0 S D n0 τ0 (Jm d (.str "" J) (.str "" O)) [] N u n'):=
 lf (body:=mB 2) (scope:=mS 2) (binds:=[("self",.ref S),("a",.str "" J),("b",.str "" O)]) (by with_unfolding_all rfl) (by with_unfolding_all rfl) (λs X=>dB rfl) (ss rfl) rfl rfl rfl (by decide) λc hd hu=>by
  refine g6 ?_;refine oP (pI (DD (same:=false) Y U (by decide) (by decide) (OM h1) (OA h1)) (am rfl) (.cons (am rfl) .nil) (zH) (zT (zH)) (iA λi hi=>nK (by decide) (aO hi (by decide))) (dl hd) (dl hu) rfl) ?_;intro v n' G;refine b7 G λ_ B=>?_;clear G;refine fK B λaa _ H=>?_
  try clear B
  subst H;refine oP (pI (DC (n:=6) (dp:=1) (un:=3) (P:=λτ=>MY W0 S D _ τ _ [] N) (d:=di (di (di d 1 (.str "" J)) 4 .none) 5 .none) (by decide) (by decide) Y U (by decide) (by decide) (OM h2) (OA h2) λτ _=>FM (ys:=[]) (τ:=τ) (d:=di (di (di (di (di (di (di d 1 (.str "" J)) 4 .none) 5 .none) 2 (.str "" O)) 4 .none) 5 .none) 6 .none) (n:=max (max (max (max 6 3) 5) 6) 7) Y U (by decide) (by decide) h0 h3 rfl (by decide) List.nodup_nil (.inl ⟨rfl,_,rfl⟩)) (am rfl) (.cons (am rfl) .nil) (zH) (zT (zH)) (iA (n:=6) λi hi=>nK (by decide) (aO hi (by decide))) (dl hd) (dl hu) rfl) ?_;intro v n' z;refine b7 z λ_ e=>?_;clear z;refine pU e λ_ u _ hp=>?_
  try clear e
  exact b9 ⟨rfl,_,_,u,hp⟩
theorem Nu:fg W0 278 [] n 6 20 (λv n'=>∃S D O J n0 τ0 u,v=.ref S∧(∀p∈n,@aP Nat _ p.1 S)∧(∀p∈n,@aP Nat _ p.1 D)∧@Ne Nat S D∧MY W0 S D n0 τ0 (Jm (di (di (di (di (λ_=>.none) 0 .none) 1 .none) 2 .none) 3 (.bool true)) (.str "" O) (.str "" J)) [] n u n'):=by
 refine O1 (body:=mB 1) (scope:=mS 1) (fI:=196) (dp:=4) (un:=14) (binds:=λx=>[("self",.ref x),("isjunk",.none),("a",.str "" _),("b",.str "" _),("autojunk",.bool true)]) (by with_unfolding_all rfl) (by with_unfolding_all rfl) (by with_unfolding_all rfl) (by with_unfolding_all rfl) (by with_unfolding_all rfl) (λx s X=>pQ X rfl (by with_unfolding_all rfl) rfl rfl rfl) (λx=>ss rfl) rfl rfl rfl (by decide) λx d H l2 c hd hu=>?_;have B:@Ne Nat x d:=aF H;have G:∀p∈n,p.1≠d:=λp hp=>aB (l2 p hp);refine(?_:cK c _ (SL W0 x d (λ_=>0) (λ_=>.none) 0 n) (.Expr (.Constant (.str _) _ _) _::.Assign [.Attribute _ "isjunk" _] (.Name "isjunk" _) _::.Assign [.Attribute _ _ _,.Attribute _ _ _] _ _::.Assign [.Attribute _ "autojunk" _] (.Name "autojunk" _) _::.Expr (.Call (.Attribute (.Name "self" _) "set_seqs" _) [.Name "a" _,.Name "b" _] [] _) _::[]) _);refine g6 (uL nt 0 B G (am rfl) (am rfl) λτ _=>?_);refine wR nt 1 2 B G gN (λ_=>am rfl) (λ_=>am rfl) λτ _=>?_;refine uL nt 3 B G (am rfl) (am rfl) λτ _=>?_;refine oP (pI (Hj B G rfl rfl rfl rfl) (am rfl) (.cons (am rfl) (.cons (am rfl) .nil)) (zH) (zT (zH)) (iA λi hi=>nK (by decide) (aO hi (by decide))) (dl hd) (dl hu) rfl) ?_;intro v n' z;refine b7 z λ_ e=>?_;clear z;refine Qo e λn0 τ0 u hp=>?_
 try clear e
 exact b9 ⟨rfl,x,d,_,_,n0,τ0,u,rfl,λp hp=>aO (l2 p hp) H,l2,B,hp⟩
end
section
variable {cs:Scope}{c:Fm W0 cs}{sc:Scope}{k:Cx c sc}{m:Lo}{n:Ns}{R:Re}{rest:List Stmt}{d:Addr}{o:Obj}{kvs:List (Int×Value)}
theorem zi{pos wh}(hl:Ev k m n l (.val .none))(hr:Ev k m n r (.val .none))(hm:autoParam (eN .Is r=false) zAc):Tw k m n (.Compare l [.Is] [r] pos) wh true:=
 ⟨λ_ s hi hq=>bX (hl.run _ s hi λv s1 hv h1=>hr.run _ s1 h1 λv2 s2 e h2=>by
  cases hv;cases e
  exact wpAny_is_self rfl (aY (hq _ h2))) hm⟩
inductive Me(o:Obj)(n:Ns):Value→Ns→Prop
 | mk (D:Addr) (h:∀q∈n,@aP Nat _ q.1 D):Me o n (.ref D) ((D,o)::n)
theorem Ip(he:Ev k m n e (.val (.ref d)))(hm:(d,o)∈n)(hd:nY W0 o kvs)
  (ha:autoParam (eval (.Attribute e "__contains__" pos) k.env=(do
   let o ← eval e k.env
   f8 pos.atName
   let r ← gm [o] (jJ o "__contains__" true)
   eU e o r
   ck r)) zAc):Er k m n (.Attribute e "__contains__" pos) (Me (cf "dict.__contains__" (.ref d)) n):=
 ⟨λQ s hi hq=>oh (he.run _ s hi λv s1 u i1=>by
  cases u;obtain ⟨m0,ex,F,N,cl⟩:=qw k i1
  exact Pd F N (zR hm) hd λq h' B z l=>hq _ _ _ (.mk q λp hp=>l p (zR hp)) (cl h' (s1.toks+1) q _ B z)) ha⟩
theorem Ca{e1 e2:PE}{k kk:Nat}{z:List PE}{u e pos:Pos}{i2:Int}{H G:Str}{P:Value→Ns→Prop}(h1:Er c.cx m n e1 P)(h2:∀v n',P v n'→Ev c.cx m n' e2 (.int i2))
  (h:∀v n' t2,P v n'→cK c (ci (ci m G (.int i2 t2)) H v) n' rest R)
  (hs:autoParam (lV [.Tuple z k u] (.Tuple [e1,e2] kk e) pos.line c.env=ck false) zAa)
  (hw:autoParam (fU [.Tuple z k u] (.Tuple [e1,e2] kk e) c.env=ck (some [H,G])) zAa)
  (q1:autoParam (∀r,SE c.env e1 r) zAb) (q2:autoParam (∀r,SE c.env e2 r) zAb)
  (k1:autoParam (c.env.kindOf H=some .local) zAa) (k2:autoParam (c.env.kindOf G=some .local) zAa):
  cK c m n (.Assign [.Tuple z k u] (.Tuple [e1,e2] kk e) pos::rest) R:=
 bK ⟨λQ s hi hq=>sX (names:=[H,G]) (vM (aI (h1.run _ s hi λv1 n1 s0 U i0=>aI ((h2 v1 n1 U).run _ s0 i0 λv2 s1 d2 B=>bJ (by
  obtain ⟨t2,rfl⟩:=d2;refine iC B.at.1 B.at.2 (λD h' F' Y hl=>?_) (by decide:(2:Nat)≤dY);have O:=B.to (tk:=s1.toks) F' Y;refine Gp F' Y (is_tup O (zH)) rfl rfl λh2 F2 N2=>?_;have J:=B.to (tk:=s1.toks) F2 (cm N2 λp hp=>zT hp);refine be (qT (dm J (λs4 i4=>?_) k2));refine be (qT (dm i4 (λs5 i5=>?_) k1))
  exact fz (hq .next _ _ _ (h v1 n1 t2 U) i5))) (q2 _)) (q1 _))) hs hw⟩
end
structure g8(W0:World)(f:Addr)(args:List Value)(kws:List (Str×Value))(n:Ns)(dp un:Nat)(P:Value→Ns→Prop):Prop where
 run:∀{gp:Program}{gl:List Str}{mean:ExcName→Option Value}{mg mb:Lo}{dp0 un0:Nat}{gd:Option (List sR)}{cn:Str}{cs:Scope}{a:Addr}{ccd:Value}{cl:List (Str×Addr)}{outer:List Env}{A₀:Around}{base h₀:Heap}{L:Addr}{m:Lo}{s:Shared}{Q E:VP},
  qU A₀ base outer h₀→Fr h₀ L s.heap m→(K1 W0).In h₀→ba h₀ L s.heap n→Top gp gl mean mg mb h₀→cs.kind=.function→dp0+dp<aH→un0+un<cT→
  (∀v n' h' tk',P v n'→Fr h₀ L h' m→ba h₀ L h' n'→Q v {s with heap:=h',toks:=tk'})→ay (aq P0 W0) (ic dp0 un0 gd cn cs L a ccd cl outer) (call (.ref f) args kws) Q E s
theorem tG{f:Addr}{args:List Value}{kws:List (Str×Value)}{n:Ns}{dp un:Nat}{P:Value→Ns→Prop}{name qual:Str}{params:j8}{body:List Stmt}{scope:Scope}{dV kV doc pm z ct oc:Value}{an od:Option Addr}{O:Array (Option Value)}{binds:List (Str×Value)}
  (ho:(K1 W0).lookup f=some ⟨oc,od,.func (Mz name qual params body scope dV kV doc pm an z ct),O⟩) (ah:codeIn (K1 W0) z qual=true)
  (u:∀s:Shared,(K1 W0).In s.heap→I5 s (Mz name qual params body scope dV kV doc pm an z ct) ⟨args,kws⟩ binds) (G:∀y∈binds,scope.names.lookup y.1=some .local) (ab:scope.isCoroutine=false) (H:scope.isGenerator=false) (hk:scope.kind=.function) (e:∀x∈scope.names,x.2≠.cell)
  (h:∀c:Fm W0 scope,c.dp+dp<aH→c.un+un<cT→cK c (λy=>binds.reverse.lookup y) n body (λJ _ n'=>P (yc J) n')):g8 W0 f args kws n (dp+1) (un+3) P:=
 ⟨λ{_ _ _ _ _ dp0 un0 _ _ _ _ _ _ _ _ _ _ _ _ _ _ _} B F X N T Y hd hu hq=>ev (xg B F X N T rfl rfl Y ho ah (C9 hd) (u _ (X.keeps F.keep)) G (λg L' aj FG F' N' B' X' T'=>by
  refine uH (cs:=scope) B' F' X' N' T' hk (by passes_own) (λJ _ n'=>P (yc J) n') (λc aa U=>h c (by rw[aa];simp only;lia) (by rw[U];simp only;lia)) ?_;intro J m' n' h' tk hP F2 N2
  exact tS F2 N2 λkF kN=>hq _ _ _ _ hP kF kN) ab H hk e)⟩
theorem g8.mono{f:Addr}{args:List Value}{kws:List (Str×Value)}{n:Ns}{dp un:Nat}{P P':Value→Ns→Prop}(h:g8 W0 f args kws n dp un P)(hp:∀v n',P v n'→P' v n'):g8 W0 f args kws n dp un P':=⟨λB F X N T hk hd hu hq=>h.run B F X N T hk hd hu λv n' h' tk' p u e=>hq v n' h' tk' (hp v n' p) u e⟩
theorem g8.sub{f:Addr}{args:List Value}{kws:List (Str×Value)}{n n2:Ns}{dp un:Nat}{P:Value→Ns→Prop}(h:g8 W0 f args kws n dp un P)(s:∀p∈n,p∈n2):g8 W0 f args kws n2 dp un P:=⟨λB F X N T hk hd hu hq=>h.run B F X (cm N s) T hk hd hu hq⟩
section
variable {cs:Scope}{c:Fm W0 cs}{sc:Scope}{k:Cx c sc}{m:Lo}{n:Ns}{R:Re}{rest:List Stmt}
theorem Dq{l:PE}{kk:Nat}{pos e:Pos}{wh}{P:Value→Ns→Prop}(he:Er k m n l P)(hp:∀v n',P v n'→v=.none)(hm:autoParam (eN .IsNot (.Constant .none kk e)=false) zAc):Ar k m n (.Compare l [.IsNot] [.Constant .none kk e] pos) wh (λb n'=>b=false∧P .none n'):=
 ⟨λ_ s hi hq=>bX (he.run _ s hi λv n1 s1 h1 i1=>MZ (by
  cases hp _ _ h1
  exact wpAny_isNot_self rfl (aY (hq _ _ _ ⟨rfl,h1⟩ i1)))) hm⟩
theorem wm{x z:Str}{e1 e2 e3:PE}{kp pos p:Pos}{fa:Addr}{v1:Value}{a2:Bv}{dp un:Nat}{P3 P:Value→Ns→Prop}(hf:Ev c.cx m n (.Name x p) (.val (.ref fa)))(h1:Ev c.cx m n e1 (.val v1))(h2:Ev c.cx m n e2 a2)(h3:Er c.cx m n e3 P3)(hkp:lB (K1 W0) (.ref fa)=true)(hd:c.dp+dp<aH)(hu:c.un+un<cT)
  (hC:∀v2 u n',a2.den v2→P3 u n'→g8 W0 fa [v1,v2] [(z,u)] n' dp un P)
  (c2:autoParam (SE c.env e1 [e2]) zAa) (c3:autoParam (SE c.env e2 []) zAa):Er c.cx m n (.Call (.Name x p) [e1,e2] [⟨some z,e3,kp⟩] pos) P:=
 ⟨λQ s hi hQ=>vD (hf.run _ s hi λv s1 J i1=>by
  cases J;refine callWith_KW c.X hkp rfl ?_ (by refine(?_:((ff pos (bV [e1,e2] c.env)).any (·.1)||_)=false);rw[c2,c3];rfl) c2;refine aI (h1.run _ s1 i1 λw1 s2 d2 i2=>aI (h2.run _ s2 i2 λw2 G H i3=>bJ ?_) c3) c2;cases d2;refine kwAll_cons (h3.run _ G i3 λw3 n' Y h4 e=>kwAll_nil ⟨c.X.keeps e.at.1.keep,?_⟩)
  exact(hC _ _ _ H h4).run c.B e.at.1 c.X e.at.2 c.T c.hk hd hu λv n' h' tk' hp U O=>hQ _ _ _ hp (e.to U O))⟩
end
section
variable {n newsK:Ns}{al kl:Addr}{va:List Value}{xs:List Int}{ep:Nat}{KV:Int→Value→Prop}{g:Int→Bool}{xv:Value}{oc:Value}{od:Option Addr}{fd:FuncData}{sl:Array (Option Value)}{t1:Tok}
inductive yL(r:Nat)(n:Ns):Value→Ns→Prop
 | mk (t:Tok):yL r n (.int (r:Int) t) n
theorem Bq{c:Fm W0 RA}{m:Lo}(hd:c.dp+3<aH)(hu:c.un+40<cT)(G:fZ W0 kl newsK KV)(H:yK KV xv g)(hm:∀p∈newsK,p∈n)(Y:(kl,(⟨oc,od,.func fd,sl⟩:Obj))∈n)(J:(al,listOf va.toArray ep)∈n)(U:au va xs)(B:xs.length≤4)(O:∀t∈xs,0≤t∧t<4)(hK:w9 m al kl xv)(u:m "lo"=some (.int 0 t1))(z:m "hi"=some .none):
  cK c m n (vh P0.main.body 19) (λfl _ n'=>yL (fP g xs xs.length 0 xs.length) n (yc fl) n'):=by
 refine(?_:cK c m _ (.Expr (.Constant (.str _) _ _) _::.If (.Compare (.Name "lo" _) [.Lt] [.Constant (.int 0) _ _] _) _ [] _::.If (.Compare (.Name "hi" _) [.Is] [.Constant .none _ _] _) [.Assign [.Name "hi" _] (.Call (.Name "len" _) [.Name "a" _] [] _) _] [] _::.If (.Compare (.Name "key" _) [.Is] [.Constant .none _ _] _) _ Rz _::.Return (some (.Name "lo" _)) _::[]) _);refine g6 (dz (eD lc (ai u) bf) (λh=>by cases h) λ_=>bQ (dz (zi (am z) gN) (λ_=>ft (qF cO (am hK.1) J (by rw[U.length];exact rZ B rfl)) λt=>b9 ?_) (λh=>bH h)));have hK:=hK.up (x:="hi") (v:=.int (va.length:Nat) t) (by decide);have u:=lY (x:="hi") (v:=.int (va.length:Nat) t) u (by decide)
 have z:ci m "hi" (.int (va.length:Nat) t) "hi"=some (.int (xs.length:Nat) t):=by rw[← U.length];rfl
 generalize ci m "hi" (.int (va.length:Nat) t)=m at hK u z;refine dz (oz (am hK.2.1) gN (.other rfl (λe=>nomatch e))) (λh=>bH h) λ_=>kZ (QT hd hu G H hm Y J U B O hK u z) ?_;rintro f m' n' ⟨rfl,rfl,t,ht⟩
 exact pG (am ht) λv h=>by cases h;exact⟨t⟩
theorem IA{c:Fm W0 Ry}{m:Lo}(hd:c.dp+3<aH)(hu:c.un+40<cT)(G:fZ W0 kl newsK KV)(H:CG KV xv g)(hm:∀p∈newsK,p∈n)(Y:(kl,(⟨oc,od,.func fd,sl⟩:Obj))∈n)(J:(al,listOf va.toArray ep)∈n)(U:au va xs)(B:xs.length≤4)(O:∀t∈xs,0≤t∧t<4)(hK:w9 m al kl xv)(u:m "lo"=some (.int 0 t1))(z:m "hi"=some .none):
  cK c m n (vh P0.main.body 16) (λfl _ n'=>yL (fP g xs xs.length 0 xs.length) n (yc fl) n'):=by
 refine(?_:cK c m _ (.Expr (.Constant (.str _) _ _) _::.If (.Compare (.Name "lo" _) [.Lt] [.Constant (.int 0) _ _] _) _ [] _::.If (.Compare (.Name "hi" _) [.Is] [.Constant .none _ _] _) [.Assign [.Name "hi" _] (.Call (.Name "len" _) [.Name "a" _] [] _) _] [] _::.If (.Compare (.Name "key" _) [.Is] [.Constant .none _ _] _) _ Rx _::.Return (some (.Name "lo" _)) _::[]) _);refine g6 (dz (eD lc (ai u) bf) (λh=>by cases h) λ_=>bQ (dz (zi (am z) gN) (λ_=>ft (qF cO (am hK.1) J (by rw[U.length];exact rZ B rfl)) λt=>b9 ?_) (λh=>bH h)));have hK:=hK.up (x:="hi") (v:=.int (va.length:Nat) t) (by decide);have u:=lY (x:="hi") (v:=.int (va.length:Nat) t) u (by decide)
 have z:ci m "hi" (.int (va.length:Nat) t) "hi"=some (.int (xs.length:Nat) t):=by rw[← U.length];rfl
 generalize ci m "hi" (.int (va.length:Nat) t)=m at hK u z;refine dz (oz (am hK.2.1) gN (.other rfl (λe=>nomatch e))) (λh=>bH h) λ_=>kZ (QS hd hu G H hm Y J U B O hK u z) ?_;rintro f m' n' ⟨rfl,rfl,t,ht⟩
 exact pG (am ht) λv h=>by cases h;exact⟨t⟩
theorem Pb(e:fZ W0 kl newsK KV)(u:yK KV xv g)(hm:∀p∈newsK,p∈n)(G:(kl,(⟨oc,od,.func fd,sl⟩:Obj))∈n)(H:(al,listOf va.toArray ep)∈n)(J:au va xs)(z:xs.length≤4)(B:∀t∈xs,0≤t∧t<4):g8 W0 342 [.ref al,xv] [(ae "key",.ref kl)] n 4 43 (yL (fP g xs xs.length 0 xs.length) n):=
 tG (binds:=[("a",.ref al),("x",xv),("lo",.int 0 853),("hi",.none),("key",.ref kl)]) (by with_unfolding_all rfl) (by with_unfolding_all rfl) (λs X=>pQ X rfl (by with_unfolding_all rfl) rfl rfl rfl) (ss rfl) rfl rfl rfl (by decide) λc hd hu=>Bq hd hu e u hm G H J z B ⟨rfl,rfl,rfl⟩ rfl rfl
theorem LZ(e:fZ W0 kl newsK KV)(u:yK KV xv g)(hm:∀p∈newsK,p∈n)(G:(kl,(⟨oc,od,.func fd,sl⟩:Obj))∈n)(H:(al,listOf va.toArray ep)∈n)(J:au va xs)(z:xs.length≤4)(B:∀t∈xs,0≤t∧t<4):g8 W0 342 [.ref al,xv,.int 0 t1,.none] [(ae "key",.ref kl)] n 4 43 (yL (fP g xs xs.length 0 xs.length) n):=
 tG (binds:=[("a",.ref al),("x",xv),("lo",.int 0 t1),("hi",.none),("key",.ref kl)]) (by with_unfolding_all rfl) (by with_unfolding_all rfl) (λs X=>pQ X rfl (by with_unfolding_all rfl) rfl rfl rfl) (ss rfl) rfl rfl rfl (by decide) λc hd hu=>Bq hd hu e u hm G H J z B ⟨rfl,rfl,rfl⟩ rfl rfl
theorem Js(e:fZ W0 kl newsK KV)(u:CG KV xv g)(hm:∀p∈newsK,p∈n)(G:(kl,(⟨oc,od,.func fd,sl⟩:Obj))∈n)(H:(al,listOf va.toArray ep)∈n)(J:au va xs)(z:xs.length≤4)(B:∀t∈xs,0≤t∧t<4):g8 W0 324 [.ref al,xv] [(ae "key",.ref kl)] n 4 43 (yL (fP g xs xs.length 0 xs.length) n):=
 tG (binds:=[("a",.ref al),("x",xv),("lo",.int 0 823),("hi",.none),("key",.ref kl)]) (by with_unfolding_all rfl) (by with_unfolding_all rfl) (λs X=>pQ X rfl (by with_unfolding_all rfl) rfl rfl rfl) (ss rfl) rfl rfl rfl (by decide) λc hd hu=>IA hd hu e u hm G H J z B ⟨rfl,rfl,rfl⟩ rfl rfl
theorem LD{cs:Scope}{c:Fm W0 cs}{m:Lo}{f e:PE}{pos:Pos}{t:Int}(hd:c.dp+3<aH)(hu:c.un+40<cT)(z:fZ W0 kl newsK KV)(hm:∀p∈newsK,p∈n)(u:(kl,(⟨oc,od,.func fd,sl⟩:Obj))∈n)(h0:0≤t)(h4:t<4)(hf:Ev c.cx m n f (.val (.ref kl)))(he:Ev c.cx m n e (.int t))
  (c1:autoParam (CC c.env f [e] pos) zAa) (c2:autoParam (SE c.env e []) zAa):Er c.cx m n (.Call f [e] [] pos) (λv n'=>KV t v∧n'=n):=
 ⟨λQ s hi hq=>gq (hf.run _ s hi λv s1 H i1=>by
  cases H;refine callWith_F (xj i1.at.2 u) (aI (he.run _ s1 i1 λv2 s2 d2 i2=>bJ ?_) c2) c2;obtain ⟨t2,rfl⟩:=d2;refine⟨xj i2.at.2 u,?_⟩
  exact z _ _ _ _ _ _ _ _ _ _ _ _ _ _ _ _ _ _ _ _ _ _ _ _ _ c.B i2.at.1 c.X i2.at.2 c.T c.hk hd hu hm h0 h4 λU h3 G hv O J=>hq _ _ _ ⟨hv,rfl⟩ (i2.to O J)) c1⟩
theorem Co{cs:Scope}{c:Fm W0 cs}{m:Lo}{x H:Str}{e1 e2 e3 e4 e5:PE}{kp pos p:Pos}{fa:Addr}{v1 v4 z:Value}{a3:Bv}{dp un:Nat}{P2 P:Value→Ns→Prop}(hf:Ev c.cx m n (.Name x p) (.val (.ref fa)))(h1:Ev c.cx m n e1 (.val v1))(h2:Er c.cx m n e2 P2)(h3:∀n',Ev c.cx m n' e3 a3)(h4:∀n',Ev c.cx m n' e4 (.val v4))(h5:∀n',Ev c.cx m n' e5 (.val z))(hkp:lB (K1 W0) (.ref fa)=true)(hd:c.dp+dp<aH)(hu:c.un+un<cT)
  (hC:∀v2 G n',P2 v2 n'→a3.den G→g8 W0 fa [v1,v2,G,v4] [(H,z)] n' dp un P)
  (c2:autoParam (SE c.env e1 [e2,e3,e4]) zAa) (c3:autoParam (SE c.env e2 [e3,e4]) zAa) (c4:autoParam (SE c.env e3 [e4]) zAa) (J:autoParam (SE c.env e4 []) zAa):Er c.cx m n (.Call (.Name x p) [e1,e2,e3,e4] [⟨some H,e5,kp⟩] pos) P:=
 ⟨λQ s hi hQ=>vD (hf.run _ s hi λv s1 d1 i1=>by
  cases d1;refine callWith_KW c.X hkp rfl ?_ (by refine(?_:((ff pos (bV [e1,e2,e3,e4] c.env)).any (·.1)||_)=false);rw[c2,c3,c4,J];rfl) c2;refine aI (h1.run _ s1 i1 λw1 s2 d2 i2=>aI (h2.run _ s2 i2 λw2 n2 Y u i3=>aI ((h3 n2).run _ Y i3 λw3 U d4 i4=>aI ((h4 n2).run _ U i4 λw4 O d5 i5=>bJ ?_) J) c4) c3) c2;cases d2;cases d5;refine kwAll_cons ((h5 n2).run _ O i5 λw5 s6 d6 e=>kwAll_nil ⟨c.X.keeps e.at.1.keep,?_⟩);cases d6
  exact(hC _ _ _ u d4).run c.B e.at.1 c.X e.at.2 c.T c.hk hd hu λv n' h' tk' hp F' N'=>hQ _ _ _ hp (e.to F' N'))⟩
inductive Po(al:Addr)(xs:List Int)(n:Ns)(n':Ns):Prop
 | mk (va2:List Value) (ep2:Nat) (h:au va2 xs) (hn:n'=(al,listOf va2.toArray ep2)::n):Po al xs n n'
theorem Ld{x:Int}{tx:Tok}(O:au va xs)(z:xs.length≤4)(J:∀t∈xs,0≤t∧t<4)(h0:0≤x)(h4:x<4)(ha:∀p∈n,p.1≠al)(hm:∀p∈newsK,p∈n)(B:(kl,(⟨oc,od,.func fd,sl⟩:Obj))∈n)(u:fZ W0 kl newsK KV)(G:∀v,KV x v→yK KV v g):g8 W0 333 [.ref al,.int x tx] [(ae "key",.ref kl)] ((al,listOf va.toArray ep)::n) 5 46 (λv n'=>v=.none∧Po al (uG xs (fP g xs xs.length 0 xs.length) x) n n'):=
 tG (body:=vh P0.main.body 18) (scope:=tw P0.main.body 18) (binds:=[("a",.ref al),("x",.int x tx),("lo",.int 0 839),("hi",.none),("key",.ref kl)]) (by with_unfolding_all rfl) (by with_unfolding_all rfl) (λs X=>pQ X rfl (by with_unfolding_all rfl) rfl rfl rfl) (ss rfl) rfl rfl rfl (by decide) λc hd hu=>by
  refine(?_:cK c _ _ (.Expr (.Constant (.str _) _ _) _::.If (.Compare (.Name "key" _) [.Is] [.Constant .none _ _] _) _ [.Assign [.Name "lo" _] (.Call (.Name _ _) [.Name "a" _,.Call (.Name "key" _) [.Name "x" _] [] _,.Name "lo" _,.Name "hi" _] [⟨some _,.Name "key" _,_⟩] _) _] _::.Expr (.Call (.Attribute (.Name "a" _) "insert" _) [.Name "lo" _,.Name "x" _] [] _) _::[]) _);refine g6 (dz (oz (am rfl) gN (.other rfl (λe=>nomatch e))) (λh=>bH h) λ_=>?_);refine dG (P:=yL (fP g xs xs.length 0 xs.length) ((al,listOf va.toArray ep)::n)) (Co (a3:=.int 0) fT (am rfl) (LD (n:=(al,listOf va.toArray ep)::n) (zJ hd (bR true)) (zJ hu (bR true)) u (λp hp=>bk 1 (hm p hp)) (bk 1 B) h0 h4 (am rfl) (ai rfl)) (λ_=>ai rfl) (λ_=>am rfl) (λ_=>am rfl) (by with_unfolding_all rfl) hd hu λv2 U n' h2 h3=>?_) λv n' h=>?_
  .obtain ⟨hv,rfl⟩:=h2
   obtain ⟨t3,rfl⟩:=h3;exact LZ u (G v2 hv) (λp hp=>bk 1 (hm p hp)) (bk 1 B) (a8 0 rfl) O z J
  obtain ⟨t⟩:=h;refine bQ (bK ⟨λQ s hi hq=>ib (ix ((am (k:=c.cx) (v:=.ref al) rfl).run _ s hi λv s1 d1 i1=>?_) (by rfl)) (by rfl) (by rfl)⟩);cases d1;refine kl_method i1.at.2 (a8 0 rfl) PySem.F.slot_list_insert PySem.F.type_list_insert (lK (aI ((am (k:=c.cx) (v:=.int (fP g xs xs.length 0 xs.length:Nat) t) rfl).run _ s1 i1 λv2 s2 d2 i2=>aI ((am (k:=c.cx) (v:=.int x tx) rfl).run _ s2 i2 λU Y d3 i3=>bJ ?_) (by rfl)) (by rfl)) (by rfl));cases d2;cases d3;have H:=rB (f:=g) (xs:=xs) xs.length 0 xs.length (c7 _);exact kl_insert i3.at.1 i3.at.2 (E3 (aw H z)) rfl (.head ha) (by refine(?_:va.length≤_);rw[ya O];exact aw z (by decide)) λh8 F8 N8=>hq .next _ _ _ (b9 ⟨rfl,_,_,ES O H,rfl⟩) (i3.to (tk:=Y.toks) F8 N8)
end
section
variable {cs:Scope}{c:Fm W0 cs}{sc:Scope}{k:Cx c sc}{m:Lo}{n:Ns}{R:Re}{rest:List Stmt}
theorem Ch(hf:Ev c.cx m n f (.val (.builtin "sorted")))(he:Ev c.cx m n e (.val (.ref ta)))(z:(ta,listOf O.toArray Y)∈n)(ht:au O J)(hz:J.length<64)
  (h1:autoParam (CC c.env f [e] pos) zAa) (h2:autoParam (SE c.env e []) zAa):Er c.cx m n (.Call f [e] [] pos) (λv n'=>∃D u ns U,v=.ref D∧n'=(D,listOf u.toArray U)::n∧au u ns∧ns.Perm J∧ns.Pairwise (·≤·)):=
 oU (P:=λv n'=>v=.ref ta∧n'=n) hf (fx (iL he) λv n' h=>⟨h.1,h.2⟩) (λv n' p Q s hi hq=>by
  obtain ⟨rfl,rfl⟩:=p;refine sorted_N hi.at.1 hi.at.2 (cZ _ ((hi.at.2 _ z).1) rfl ⟨Y,rfl⟩) ht (by rw[ht.length];exact hz) λh5 u ns e5 F5 N5 H G B=>?_
  exact hq _ _ _ (zW _ u ns e5 rfl rfl H G B) (hi.to (tk:=s.toks) F5 N5)) h1 h2
theorem Ff(hl:Ev k m n l (.int a)):Ev k m n (.BinOp l .FloorDiv (.Constant (.int 2) kk p) pos) (.int (a.fdiv 2)):=
 ⟨λQ s hi hq=>dX (hl.run _ s hi λv s1 e i1=>n8 (by
  obtain ⟨t1,rfl⟩:=e
  exact floordiv_int (by decide) (hq _ _ ⟨_,rfl⟩ i1.toks)))⟩
theorem Ie(hf:Ev c.cx m n f (.val (.builtin "_bisect.bisect_left")))(h1:Ev c.cx m n e1 (.val (.ref l)))(h2:Ev c.cx m n e2 (.int x))(hm:(l,listOf vs.toArray ep)∈n)(e:au vs xs)(hz:vs.length<1000)
  (c1:autoParam (CC c.env f [e1,e2] pos) zAa) (c2:autoParam (SE c.env e1 [e2]) zAa) (c3:autoParam (SE c.env e2 []) zAa):Ev c.cx m n (.Call f [e1,e2] [] pos) (.int (fP (λy=>decide (y<x)) xs vs.length 0 vs.length:Nat)):=
 ⟨λQ s hi hQ=>gq (hf.run _ s hi λv s1 B i1=>by
  cases B;refine callWith_builtin1 (aI (h1.run _ s1 i1 λv1 s2 d2 i2=>aI (h2.run _ s2 i2 λv2 G z i3=>bJ ?_) c3) c2) c2 (hplain:=by refine(?_:(ff pos (bV [e2] c.env)).any (·.1)=false);rw[show _=_ from c3];rfl);cases d2;obtain ⟨u,rfl⟩:=z
  exact CA (cZ _ ((i3.at.2 _ hm).1) rfl ⟨ep,rfl⟩) e hz λtok tk=>hQ _ _ ⟨_,rfl⟩ i3.toks) c1⟩
theorem Ic(hk:G=ae "lo")(hf:Ev c.cx m n (.Name x p) (.val (.builtin "_bisect.bisect_right")))(h1:Ev c.cx m n e1 (.val (.ref l)))(h2:Ev c.cx m n e2 (.int y))(h3:Ev c.cx m n e3 (.int (a:Nat)))(hm:(l,listOf vs.toArray ep)∈n)(H:au vs xs)(hz:vs.length<1000)(ha:a≤vs.length)
  (c2:autoParam (SE c.env e1 [e2]) zAa) (c3:autoParam (SE c.env e2 []) zAa):Ev c.cx m n (.Call (.Name x p) [e1,e2] [⟨some G,e3,kp⟩] pos) (.int (fP (λz=>!decide (y<z)) xs vs.length a vs.length:Nat)):=
 ⟨λQ s hi hQ=>vD (hf.run _ s hi λv s1 U i1=>by
  cases U;refine callWith_kw (aI (h1.run _ s1 i1 λv1 s2 d2 i2=>aI (h2.run _ s2 i2 λv2 B O i3=>bJ ?_) c3) c2) (congrArg (ff pos) c2 |>.trans rfl) (by refine(?_:(ff pos (bV [e1,e2] c.env)).any (·.1)=false);rw[c2,c3];rfl);refine kwAll_cons (h3.run _ B i3 λY s4 J e=>kwAll_nil ?_);cases d2;subst hk;obtain ⟨u,rfl⟩:=O;obtain ⟨u2,rfl⟩:=J
  exact Cz (cZ _ ((e.at.2 _ hm).1) rfl ⟨ep,rfl⟩) H hz rfl ha λtok tk=>hQ _ _ ⟨_,rfl⟩ e.toks)⟩
theorem rq(he:Ev c.cx m n e (.flt y))(h:∀t,cK c (ci m x (.float y t)) n rest R)
  (hs:autoParam (f0 e (some (.Name x u)) pos.line c.env=ck false) zAa) (z:autoParam (c.env.kindOf x=some .local) zAa):cK c m n (.Assign [.Name x u] e pos::rest) R:=
 bK ⟨λ_ s hi hq=>gO (he.run _ s hi λB s1 hv h1=>by obtain ⟨t,rfl⟩:=hv;exact dm h1 (λs2 h2=>hq .next _ _ _ (h t) h2) z) hs⟩
theorem mX{x pos}(hv:m x=some (.float y t))(e:autoParam (sc.names.lookup x=some .local) zAa)(hd:autoParam ((x==("__debug__" : Str))=false) zAd):Ev k m n (.Name x pos) (.flt y):=⟨λ_ _ hi hq=>k.load hi hv e hd (hq _ _ ⟨t,rfl⟩ hi)⟩
theorem ym(hf:Ev c.cx m n f (.val (.type "float")))(he:Ev c.cx m n e (.int i))(hb:¬2 ^ 1024-2 ^ 970≤i.natAbs)
  (c1:autoParam (CC c.env f [e] pos) zAa) (c2:autoParam (SE c.env e []) zAa):Ev c.cx m n (.Call f [e] [] pos) (.flt (bE i)):=
 ⟨λQ s hi hQ=>gq (hf.run _ s hi λv s1 u i1=>by
  cases u;refine callWith_type1 (aI (he.run _ s1 i1 λv1 s2 d2 i2=>bJ ?_) c2) c2;obtain ⟨t,rfl⟩:=d2
  exact call_float_int_sharp rfl (λh=>absurd h hb) λ_=>hQ _ _ ⟨_,rfl⟩ i2.toks) c1⟩
theorem Be{op:MD}{f:UInt64→UInt64→UInt64}{l r:PE}{pos}{a b:UInt64}(o:∀(A:Around) (E:VP) (s:Shared) (t u:Tok) (Q:VP),A.handled=none→Q (.float (f a b) s.toks) {s with toks:=s.toks+1}→ay (aq P0 W0) A (CK op (.float a t) (.float b u)) Q E s)(hl:Ev c.cx m n l (.flt a))(hr:Ev c.cx m n r (.flt b)):Ev c.cx m n (.BinOp l op r pos) (.flt (f a b)):=
 ⟨λ_ s hi hq=>dX (hl.run _ s hi λv s1 hv h1=>hr.run _ s1 h1 λv2 s2 e h2=>by
  obtain ⟨t,rfl⟩:=hv;obtain ⟨u,rfl⟩:=e
  exact o _ _ _ _ _ _ rfl (hq _ _ ⟨_,rfl⟩ h2.toks))⟩
theorem OQ{op:MD}{f:UInt64→Int→UInt64}{l r:PE}{pos}{a:UInt64}{b:Int}(o:∀(A:Around) (E:VP) (s:Shared) (t u:Tok) (Q:VP),A.handled=none→Q (.float (f a b) s.toks) {s with toks:=s.toks+1}→ay (aq P0 W0) A (CK op (.float a t) (.int b u)) Q E s)(hl:Ev c.cx m n l (.flt a))(hr:Ev c.cx m n r (.int b)):Ev c.cx m n (.BinOp l op r pos) (.flt (f a b)):=
 ⟨λ_ s hi hq=>dX (hl.run _ s hi λv s1 hv h1=>hr.run _ s1 h1 λv2 s2 e h2=>by
  obtain ⟨t,rfl⟩:=hv;obtain ⟨u,rfl⟩:=e
  exact o _ _ _ _ _ _ rfl (hq _ _ ⟨_,rfl⟩ h2.toks))⟩
theorem Ib(hl:Ev c.cx m n l (.int a))(hi:¬nb (lH (decide (a<0) != decide ((2:Int)<0)) a.natAbs (Ja 2))=true):Ev c.cx m n (.BinOp l .Div (.Constant (.int 2) kk p) pos) (.flt (lH (decide (a<0) != decide ((2:Int)<0)) a.natAbs (Ja 2))):=
 ⟨λ_ s e hq=>dX (hl.run _ s e λv s1 hv h1=>n8 (by
  obtain ⟨t,rfl⟩:=hv
  exact xB (by decide) hi (hq _ _ ⟨_,rfl⟩ h1.toks)))⟩
theorem H2(hb:∀(E':VP) (hE':lG (aq P0 W0) c.A c.env E'),cK {c with E:=E',hE:=hE'} m n body (λf m' n'=>f=.next∧cK c m' n' rest R)):cK c m n (.Try body (h0::hs) [] [] pos::rest) R:=
 bK ⟨λQ s hi hq=>by
  refine wpAny_Try_except ?_;have hE:=c.hE;refine(hb (λe s₁=>ay (aq P0 W0) c.A (yP e c.env) (λ_ s₂=>ay (aq P0 W0) c.A (setFlight e none) (λ_ s₃=>ay (aq P0 W0) c.A (handleBy e c.env (h0::hs)) Q c.E s₃) c.E s₂) c.E s₁) ?hE').run _ s (let ⟨h,tk,e,F,N⟩:=hi;⟨h,tk,e,F,N⟩) λf m' n' s' r i=>?_
  case hE'=>passes_own
  obtain ⟨rfl,r⟩:=r
  exact eY (hq .next _ _ _ r (let ⟨h,tk,e,F,N⟩:=i;⟨h,tk,e,F,N⟩))⟩
theorem KH(h1:(1:Int)≤(j:Int)-(i:Int))(h5:(j:Int)-(i:Int)≤5):((j:Int)-(i:Int)).natAbs≤5:=RF (cS [j,i] 1 Y0 (.s Z0 Z1) 1 Y1 (.s Z0 Z1) rfl h1) (cS [j,i] 1 (.s Z0 Z1) (.k 5) 1 (.s Z0 Z1) (.k 5) rfl h5)
theorem EA{c:Fm W0 (tw P0.main.body 14)}{m:Lo}{n:Ns}{dl:Addr}{va:List Value}{xs:List Int}{ep:Nat}{t3:Tok}(ap:m "data"=some (.ref dl))(ah:m "interval"=some (.int 3 t3))(aj:(dl,listOf va.toArray ep)∈n)(hx:au va xs)(J:xs.length=5)(aa:∀x∈xs,x=0∨x=3):
  cK c m n (vh P0.main.body 14) (λfl _ n'=>(∃t,yc fl=.float (xu (xs.count 3)) t)∧∀p∈n,p∈n'):=by
 refine g6 (dG (Ch cO (am ap) aj hx (by rw[J];decide)) λv n' h=>?_);obtain ⟨D,vs,ns,e5,rfl,rfl,z,O,ab⟩:=h
 have G:ns.length=5:=by rw[O.length_eq,J]
 have e:vs.length=5:=by rw[z.length,G]
 have U:=KG O ab aa G;rw[← e] at U;obtain ⟨mx,mi,H,Y,mv⟩:=U;rw[show (5:Int)=(vs.length:Int) by rw[e];rfl] at mv;have u:(D,listOf vs.toArray e5)∈(D,listOf vs.toArray e5)::n:=zH;have B:∀p∈n,p∈(D,listOf vs.toArray e5)::n:=λp hp=>zT hp;generalize (D,listOf vs.toArray e5)::n=N at u B
 have hz:vs.length<1000:=by rw[e];decide
 refine ft (qF cO (am rfl) u (aL hz)) λtn=>?_;refine dz (qt (ke (ai rfl))) (λh=>by rw[e] at h;cases h) λ_=>bQ ?_;refine ft (i:=xZ ns) ((by rw[xZ,z.length]:ns.getD ((vs.length:Int).fdiv 2).toNat 0=xZ ns)▸fk (am rfl) (Ff (ai rfl)) u z (by rw[e];decide) (by rw[e,G];decide) (by rw[e];decide)) λtx=>?_;refine ft (Ie fT (am rfl) (ai rfl) u z hz) λti=>?_;refine ft (Ic (a:=zK ns vs.length) rfl fT (am rfl) (ai rfl) (ai rfl) u z hz (rB _ _ _ (c7 _))) λtj=>?_;refine H2 λE' hE'=>rq (ym cO (ai (i:=3) ah) (by decide +kernel)) λt4=>rq (ym cO (ai rfl) (AT mx)) λt5=>b9 ⟨rfl,?_⟩;refine rq (Be (f:=mz) (λ_ _ _ _ _ _ _ h=>sub_float h) (mX rfl) (Be (f:=ji) (λ_ _ _ _ _ _ hA h=>truediv_float_or hA (λhz=>absurd hz (by decide +kernel)) λ_=>h) (mX rfl) wT)) λt6=>?_;refine ft (ai rfl) λt7=>ft (jl (ai rfl) (ai rfl)) λt8=>?_;refine pG (Be (f:=M9) (λ_ _ _ _ _ _ _ h=>add_float h) (mX rfl) (yn (Be (f:=fW) (λ_ _ _ _ _ _ _ h=>mul_float h) (mX rfl) (OQ (f:=λa b=>mz a (bE b)) (λ_ _ _ _ _ _ hA h=>sub_fi_sharp hA (λhb=>absurd hb (AT mi)) λ_=>h) (Ib (ai (i:=(vs.length:Int)) rfl) (by rw[e];decide +kernel)) (ai rfl))) (ai rfl) ?_ (Kl ?_))) λv h=>?_
 .exact rK (aK (KH H Y) (by decide +kernel))
 .exact H
 .obtain ⟨t,rfl⟩:=h
  exact⟨⟨t,congrArg (ju · t) mv⟩,B⟩
theorem Hx{n:Ns}{dl:Addr}{va:List Value}{xs:List Int}{ep:Nat}{t3:Tok}(z:(dl,listOf va.toArray ep)∈n)(B:au va xs)(e:xs.length=5)(u:∀x∈xs,x=0∨x=3):fg W0 315 [.ref dl,.int 3 t3] n 9 100 (λv n'=>(∃t,v=.float (xu (xs.count 3)) t)∧∀p∈n,p∈n'):=
 lf (body:=vh P0.main.body 14) (scope:=tw P0.main.body 14) (binds:=[("data",.ref dl),("interval",.int 3 t3)]) (by with_unfolding_all rfl) (by with_unfolding_all rfl) (λs X=>pQ X rfl (by with_unfolding_all rfl) rfl rfl rfl) (ss rfl) rfl rfl rfl (by decide) λc hd hu=>EA rfl rfl z B e u
end
end
section
open W PyProof Rows
open PyProof.Rows.LCg
theorem HP:∀(W0:World) (A:Around) (E:VP) (s:Shared) (Q:VP) (b:Int) (t u:Tok),0≤b→b≤100→(∀e tk,Q (.int (3*b) e) {s with toks:=tk})→ay (aq P0 W0) A (CK .Mult (.int 3 t) (.int b u)) Q E s:=λW0 A E s Q b t u h0 h1 h=>mul_int (h _ _)
theorem FY(x:Int):gc x 1=0∨gc x 1=1:=by rw[bitAnd_m1];lia
noncomputable def MP(i:Nat)(b:Int):Int:=3*gc (b.fdiv (2 ^ i)) 1
theorem KE(i:Nat)(bs:List Int):∀x∈bs.map (MP i),x=0∨x=3:=by
 intro x u;refine fK (eg.mp u) λb _ e=>?_;subst e;unfold MP
 rcases FY (b.fdiv (2 ^ i)) with h|h<;>rw[h]<;>simp
theorem vW(i:Nat):∀bs:List Int,(bs.map (MP i)).count 3=(bs.filter (jD i)).length
 | []=>rfl
 | b::r=>by
  rw[kH,MJ,fC,vW i r];unfold MP jD
  rcases FY (b.fdiv (2 ^ i)) with h|h<;>rw[h]<;>simp
theorem H8{pos}(hl:Ev k m n l (.int 3))(hr:Ev k m n r (.int b))(h0:0≤b)(h1:b≤100):Ev k m n (.BinOp l .Mult r pos) (.int (3*b)):=
 ⟨λ_ s hi hq=>dX (hl.run _ s hi λv s1 hv G=>hr.run _ s1 G λv2 s2 B h2=>by
  refine cp hv λt z=>?_
  try clear hv
  subst z;refine cp B λu e=>?_
  try clear B
  subst e
  exact HP _ _ _ _ _ _ _ _ h0 h1 λH tk=>hq _ _ ⟨H,rfl⟩ h2.toks)⟩
noncomputable def jp(vp:List Value)(ks:List Nat):Prop:=vp.length=ks.length∧∀(i:Nat) (k:Nat),ks[i]?=some k→∃t,vp[i]?=some (.float (xu k) t)
theorem jp.add(h:jp vp ks)(k:Nat)(t:Tok):jp (vp++[.float (xu k) t]) (ks++[k]):=by
 refine⟨by rw[aT,aT,h.1];rfl,λi j hj=>?_⟩
 by_cases e:i<ks.length
 .rw[yY e] at hj
  rw[yY (by rw[h.1];exact e)];exact h.2 i j hj
 .rw[xC (cJ e)] at hj
  rw[xC (by rw[h.1];exact cJ e),h.1]
  cases hz:i-ks.length with
  | zero=>rw[hz] at hj;cases hj;exact⟨t,rfl⟩
  | succ z=>rw[hz] at hj;cases hj
noncomputable def FH(bs:List Int)(t:Nat):Nat:=(bs.filter (jD t)).length
theorem BQ(hc:LawC c)(d1:o1.data=.cell (some (.ref B)))(m1:(c.L+1,o1)∈N)(hB:(B,listOf va.toArray ep)∈N)(hi:au va bs)(H:bs.length=5):
  Er c.cx m N (sE (bp 4)) (λv n'=>∃V vp,v=.ref V∧n'=(V,bz vp)::N∧jp vp ((aU 4).map (FH bs))∧(∀p∈N,@aP Nat _ p.1 V)):=by
 have aj:va.length=5:=by rw[hi.length,H]
 refine yp (cl:=[(ae "ballots",c.L+1)]) rfl (jb (a:=0) (b:=4) ?hr) ?h (kr hc rfl)
 case hr=>exact rx cO bf
 case h=>
  intro v N1 s1 ah i1;refine b7 ah λe ab=>?_;clear ah;refine BV ab λr t u z ax hr=>?_
  try clear ab
  subst ax;have e':=e.symm;subst e';refine(vu 4 _ _ (λi out n1=>n1=N∧jp out ((aU i).map (FH bs))) (jA hr (by decide)) ⟨(eR rfl rfl (λi k h=>by cases h)),λi out n1 h=>?_,?_,λout n1 D hJ l1 l2=>?_,by decide⟩)
  .exact⟨(λ_ h=>nomatch h),by rw[h.2.1,aE,db];exact aR _⟩
  .intro i v out n1 C K I D oK oI E' mC cc aa Y bb aM b4 b5 bv br bm bo ca hex
   refine cp aa λt as=>?_;clear aa;subst as;refine b7 Y λe hO=>?_;clear Y;subst e;refine(cZ true (λQ s hi hq=>pg (hq s hi)) (λ_=>?_) (λh=>nomatch h));refine fx (OR (P1:=λv n'=>∃Z zs,v=.ref Z∧n'=(Z,bz zs)::(K,oK)::(I,oI)::(D,bz out)::n1∧au zs (bs.map (MP i))∧(∀p∈(K,oK)::(I,oI)::(D,bz out)::n1,@aP Nat _ p.1 Z)) (dp:=9) (un:=100) (V:=λv=>∃t,v=.float (xu (FH bs i)) t) Jl ?er (λ_ _ _=>bf (i:=3)) (λv1 n1 v2 n2 h1 h2 hs=>?_) rfl (have:=hc.hd;zJ this (bR true)) (have:=hc.hu;zJ this (bR true))) λv n' h=>?_
   case er=>
    refine nC rfl (sj (iL (eH (a:=c.L+1) (o:=o1) rfl (zT (zT (zT m1))) d1))) ?h2;intro v2 n2 s2 U i2;refine b7 U λa6 e2=>?_;clear U;cases a6;subst e2;have ar:(B,listOf va.toArray ep)∈(K,oK)::(I,oI)::(D,bz out)::n1:=zT (zT (zT hB));have a0:(K,oK)∈(K,oK)::(I,oI)::(D,bz out)::n1:=zH;generalize (K,oK)::(I,oI)::(D,bz out)::n1=nI at ar a0 i2 ⊢;refine(vu va.length _ _ (λj G n3=>n3=nI∧au G ((bs.take j).map (MP i))) (uj i2 ar) ⟨⟨rfl,.nil⟩,λj G n3 h=>?_,?_,λG n3 D2 a4 l1 l2=>?_,by rw[aj];decide⟩)
    .refine b7 h λe3 hl=>?_
     try clear h
     subst e3;refine⟨λp hp=>by rw[aA.mp hp];exact ar,?_⟩;rw[hl.length,aE,eJ];exact jv ..
    .intro j v2 G n3 C2 I2 D2 bl E2 b6 hj hv O a5 ap a1 a2 a3 bi bj
     refine b7 O λe3 hl=>?_;clear O;subst e3
     have aQ:j<bs.length:=by rw[H];exact pV (Eq.symm aj) hj
     refine cp (hi.get j bs[j] (ao aQ)) λtb hb=>?_;rw[hb] at hv;cases hv
     have a7:bs.take (j+1)=bs.take j++[bs[j]]:=by rw[qW,ao aQ];rfl
     have cd:=FY (bs[j].fdiv (2 ^ i));refine(cZ true (λQ s hi hq=>pg (hq s hi)) (λ_=>fx (iL (H8 bf (qG (qE (ai a5) (qj (eH (a:=K) (o:=oK) rfl (zT (zT a0)) bb)) (cb i)) bf) ?b0 ?b1)) λv5 n5 h5=>?_) (λh=>nomatch h))
     case b0=>rw[bC];omega
     case b1=>rw[bC];omega
     refine b7 h5 λJ e5=>?_
     try clear h5
     refine cp J λt5 h5=>?_
     try clear J
     subst e5;refine⟨n3,λp hp=>hp,ap,rfl,?_⟩;rw[a7,aX,h5];exact hl.append (.cons _ _ .nil)
    .refine b7 a4 λe3 hl=>?_
     try clear a4
     subst e3;rw[aj,← H,cP] at hl;exact(se D2 G rfl rfl hl l1)
   .refine hH h1 λZ zs e1 e2 aD bh=>?_
    subst e1;obtain ⟨t3,rfl⟩:=h2;have:=Hx (t3:=t3) (hs (Z,bz zs) (by rw[e2];exact zH)) aD (by rw[aE,H]) (KE i bs);rw[vW] at this;exact this
   .obtain ⟨⟨t,rfl⟩,v1,Z,zs,_,rfl,aD,hl⟩:=h
    refine⟨n1,λp hp=>zT hp,aM,rfl,?_⟩;rw[gx,aX];exact hO.add _ _
  .refine b7 hJ λe hO=>?_
   try clear hJ
   subst e;exact(se D out rfl rfl hO l1)
theorem PW(hl:@aP Nat _ 366 L)(u:b8 L n0)(z:∀p∈bL L o1 o2 o3 o4 o5 ps qs++n0,@aP Nat _ p.1 V):
  xh (L+1+1+1+1) o4 ((V,o)::(bL L o1 o2 o3 o4 o5 ps qs++n0)) (λo'=>(V,o)::(bL L o1 o2 o3 o' o5 ps qs++n0)):=by
 refine BX u.all λY U O B J H G=>?_;refine .tail (jx (z (_,o4) (zL (by k_extra "zmm")))) (.tail (jx (aJ _)) (.head ?_));intro p hp;have e:p∈(L+1+1+1,o3)::(L+1+1,o2)::(L+1,o1)::(364,bS ps)::(256,bS qs)::n0:=hp;simp only[ak] at e
 rcases e with rfl|rfl|rfl|rfl|rfl|hp
 .exact kX (aJ _)
 .exact kX (aW (aJ _))
 .exact kX (aW (aW (aJ _)))
 .exact kX (aO (aO (by decide:(364:Nat)<366) hl) (aN (aJ _) (bx (L+1) 3)))
 .exact kX (aO (aO (by decide:(256:Nat)<366) hl) (aN (aJ _) (bx (L+1) 3)))
 .exact B p hp
theorem Oq(hc:LawC c)(d1:o1.data=.cell (some (.ref B)))(Y:o4.data=.cell none)(hB:(B,listOf va.toArray ep)∈n0)(hi:au va bs)(U:bs.length=5)(H:b8 c.L n0)
  (e:∀(V:Addr) (vv:List Value) (o:Obj),o.data=.cell (some (.ref V))→jp vv ((aU 4).map (FH bs))→b8 c.L ((V,bz vv)::n0)→(∀p∈bL c.L o1 o2 o3 o4 o5 ps qs++n0,@aP Nat _ p.1 V)→cK c m (bL c.L o1 o2 o3 o o5 ps qs++(V,bz vv)::n0) rest R):
  cK c m (bL c.L o1 o2 o3 o4 o5 ps qs++n0) (bp 4::rest) R:=by
 refine pF (a:=c.L+1+1+1+1) (BQ (N:=bL c.L o1 o2 o3 o4 o5 ps qs++n0) hc d1 (zL (by k_extra "zmm")) (zR hB) hi U) (by rw[hc.cl];rfl) λv n' hv=>?_;refine hH hv λV vv G z J u=>?_
 try clear hv
 subst G;subst z;exact(nW o4 _ none (PW hc.lo H u) Y (λo' O=>cL (e V vv o' O J (H.add u) u) mM))
end
section
open W PyProof Rows
open PyProof.Rows.LCg
noncomputable def oN(s:Stmt):PE:=ch (ch (sE (((sB s)[0]?).getD C7)) 0) 0
noncomputable def B0(s:Stmt):PE:=ch (ch (ch (sE s) 1) 0) 0
noncomputable def v7(s:Stmt):PE:=ch (sE s) 0
noncomputable def qL(e:PE)(qual:Str)(clos:List (Str×Addr))(c':Addr)(o:Obj):Prop:=∃pm ctv,eL e False λparams body scope _=>o=nF "<lambda>" qual params body scope clos pm c' ctv
section
variable {kl c' pa va both P3 P4 P5:Addr}{ok oc o3 o4 o5:Obj}{qual:Str}{vp vv:List Value}{ks:List Nat}{vs:List Int}{ep:Nat}{b:Int}{tb:Tok}
noncomputable def Q5(ks:List Nat)(t:Int)(v:Value):Prop:=∃tk,v=.float (xu (ks.getD t.toNat 0)) tk
noncomputable def Pn(ks:List Nat)(t:Int)(v:Value):Prop:=∃tk,v=.float (fW (bE 2) (xu (ks.getD t.toNat 0))) tk
noncomputable def PQ(vs:List Int)(b:Int)(t:Int)(v:Value):Prop:=∃tk,v=.int (vs.getD t.toNat 0*b) tk
theorem jp.at(hp:jp vp ks)(hl:ks.length=4){t:Int}(h0:0≤t)(h4:t<4):∃tk,vp[t.toNat]?=some (.float (xu (ks.getD t.toNat 0)) tk):=by
 have h:t.toNat<ks.length:=ltN (g5 [t.toNat,ks.length,t] 1 (.a Z0 Y1) Z1 1 (.a Z2 Y1) (.k 4) 1 (.k 4) Z1 1 Z0 Z2 rfl h4 (l9 hl) (iZ (cS [t] 1 Y0 Z0 1 Y0 Z0 rfl h0)));refine hp.2 t.toNat _ ?_;rw[az,ao h];rfl
theorem Qw(hk:qL (oN (bp 6)) qual [(ae "points",P4)] c' ok)(hc:jq qual oc)(h4:o4.data=.cell (some (.ref pa)))(hp:jp vp ks)(hl:ks.length=4):
  fZ W0 kl [(kl,ok),(c',oc),(P4,o4),(pa,listOf vp.toArray ep)] (Q5 ks):=by
 obtain ⟨B,z,hk⟩:=hk;change ok=nF "<lambda>" qual _ _ _ _ B c' z at hk;subst hk
 refine nw (zH) (zT (zH)) hc λc m n t tok u hm hn h0 e=>(c9 (.flt (xu (ks.getD t.toNat 0))) ?_ (λv h=>h))
 show Ev c.cx _ _ (.Subscript (.Name _ _) (.Name _ _) _) _;exact uN (pH (a:=P4) (o:=o4) (by show c.cl.lookup _=_;rw[u];rfl) (hn _ (by k_extra "zmm")) h4) (ai hm) (hn (pa,listOf vp.toArray ep) (by k_extra "zmm")) (hp.at hl h0 e) h0 (cS [t] 1 (.a Z0 Y1) (.k (2 ^ 63)) 1 (.a Z0 Y1) (.k 4) rfl e)
theorem Qv(hk:qL (B0 (bp 7)) qual [(ae "points",P4)] c' ok)(hc:jq qual oc)(h4:o4.data=.cell (some (.ref pa)))(hp:jp vp ks)(hl:ks.length=4):
  fZ W0 kl [(kl,ok),(c',oc),(P4,o4),(pa,listOf vp.toArray ep)] (Pn ks):=by
 obtain ⟨B,z,hk⟩:=hk;change ok=nF "<lambda>" qual _ _ _ _ B c' z at hk;subst hk
 refine nw (zH) (zT (zH)) hc λc m n t tok u hm hn h0 e=>(c9 (.flt (fW (bE 2) (xu (ks.getD t.toNat 0)))) ?_ (λv h=>h))
 show Ev c.cx _ _ (.BinOp _ .Mult (.Subscript (.Name _ _) (.Name _ _) _) _) _;exact yi bf (uN (pH (a:=P4) (o:=o4) (by show c.cl.lookup _=_;rw[u];rfl) (hn _ (by k_extra "zmm")) h4) (ai hm) (hn (pa,listOf vp.toArray ep) (by k_extra "zmm")) (hp.at hl h0 e) h0 (cS [t] 1 (.a Z0 Y1) (.k (2 ^ 63)) 1 (.a Z0 Y1) (.k 4) rfl e)) (by decide +kernel)
theorem Oz(hk:qL (v7 (bp 13)) qual [(ae "votes",P5),(ae "both",P3)] c' ok)(hc:jq qual oc)(h3:o3.data=.cell (some (.int b tb)))(h5:o5.data=.cell (some (.ref va)))(hv:au vv vs)(hl:vs.length=4)(B:∀x∈vs,0≤x∧x≤5):
  fZ W0 kl [(kl,ok),(c',oc),(P3,o3),(P5,o5),(va,listOf vv.toArray ep)] (PQ vs b):=by
 obtain ⟨H,G,hk⟩:=hk;change ok=nF "<lambda>" qual _ _ _ _ H c' G at hk;subst hk
 refine nw (zH) (zT (zH)) hc λc m n t tok u hm hn h0 z=>(c9 (.int (vs.getD t.toNat 0*b)) ?_ (λv h=>h))
 have e:t.toNat<vs.length:=ltN (g5 [t.toNat,vs.length,t] 1 (.a Z0 Y1) Z1 1 (.a Z2 Y1) (.k 4) 1 (.k 4) Z1 1 Z0 Z2 rfl z (l9 hl) (iZ (cS [t] 1 Y0 Z0 1 Y0 Z0 rfl h0)));have hz:=B _ (bG e)
 have J:vs.getD t.toNat 0=vs[t.toNat]:=by rw[az,ao e];rfl
 exact kh (fk (pH (a:=P5) (o:=o5) (by refine(?_:c.cl.lookup _=_);rw[u];rfl) (hn _ (by k_extra "zmm")) h5) (ai hm) (hn (va,listOf vv.toArray ep) (by k_extra "zmm")) hv h0 (OB (EQ h0) (Le e)) (cS [t] 1 (.a Z0 Y1) (.k (2 ^ 63)) 1 (.a Z0 Y1) (.k 4) rfl z)) (qj (pH (a:=P3) (o:=o3) (by refine(?_:c.cl.lookup _=_);rw[u];rfl) (hn _ (by k_extra "zmm")) h3)) (fL (by rw[J];exact Ma (cS [vs[t.toNat]] 1 Y0 Z0 1 Y0 Z0 rfl hz.1) (cS [vs[t.toNat]] 1 (.a Z0 Y1) (.k 1048576) 1 Z0 (.k 5) rfl hz.2)))
theorem Oy(hk:qL (v7 (bp 14)) qual [(ae "votes",P5),(ae "both",P3)] c' ok)(hc:jq qual oc)(h3:o3.data=.cell (some (.int b tb)))(h5:o5.data=.cell (some (.ref va)))(hv:au vv vs)(hl:vs.length=4)(B:∀x∈vs,0≤x∧x≤5):
  fZ W0 kl [(kl,ok),(c',oc),(P3,o3),(P5,o5),(va,listOf vv.toArray ep)] (PQ vs b):=by
 obtain ⟨H,G,hk⟩:=hk;change ok=nF "<lambda>" qual _ _ _ _ H c' G at hk;subst hk
 refine nw (zH) (zT (zH)) hc λc m n t tok u hm hn h0 z=>(c9 (.int (vs.getD t.toNat 0*b)) ?_ (λv h=>h))
 have e:t.toNat<vs.length:=ltN (g5 [t.toNat,vs.length,t] 1 (.a Z0 Y1) Z1 1 (.a Z2 Y1) (.k 4) 1 (.k 4) Z1 1 Z0 Z2 rfl z (l9 hl) (iZ (cS [t] 1 Y0 Z0 1 Y0 Z0 rfl h0)));have hz:=B _ (bG e)
 have J:vs.getD t.toNat 0=vs[t.toNat]:=by rw[az,ao e];rfl
 exact kh (fk (pH (a:=P5) (o:=o5) (by refine(?_:c.cl.lookup _=_);rw[u];rfl) (hn _ (by k_extra "zmm")) h5) (ai hm) (hn (va,listOf vv.toArray ep) (by k_extra "zmm")) hv h0 (OB (EQ h0) (Le e)) (cS [t] 1 (.a Z0 Y1) (.k (2 ^ 63)) 1 (.a Z0 Y1) (.k 4) rfl z)) (qj (pH (a:=P3) (o:=o3) (by refine(?_:c.cl.lookup _=_);rw[u];rfl) (hn _ (by k_extra "zmm")) h3)) (fL (by rw[J];exact Ma (cS [vs[t.toNat]] 1 Y0 Z0 1 Y0 Z0 rfl hz.1) (cS [vs[t.toNat]] 1 (.a Z0 Y1) (.k 1048576) 1 Z0 (.k 5) rfl hz.2)))
end
end
section
open W PyProof Rows
open PyProof.Rows.LCg
structure oW(c:Fm W0 lawS):Prop where
 cd:c.ccd=.ref 366
 ch:IZ c.h₀ 366 364
 hP:c.P=λs=>du s.gens
noncomputable def ul(e:PE):Pos:=eL e ⟨0,0,0,0⟩ λ_ _ _ p=>p
noncomputable def kT(e:PE)(ps:Array Value)(cA:Addr):Array Value:=ps++#[jf (ul e).line,jf (ul e).col,.ref cA]
theorem Dm(hl:@aP Nat _ 366 L)(e:b8 L n0):
  xh 364 (bS ps) (bL L o1 o2 o3 o4 o5 ps qs++n0) (λo'=>(L+1+1+1+1+1,o5)::(L+1+1+1+1,o4)::(L+1+1+1,o3)::(L+1+1,o2)::(L+1,o1)::(364,o')::(256,bS qs)::n0):=by
 refine BX e.all λU O J H G u B=>?_;have z:∀k:Nat,@aP Nat _ 364 (L+k):=λk=>aN (aO (by decide:(364:Nat)<366) hl) (bx L k);refine .tail (jx (z 5)) (.tail (jx (z 4)) (.tail (jx (z 3)) (.tail (jx (z 2)) (.tail (jx (z 1)) (.head ?_)))));intro p hp
 rcases ak.mp hp with rfl|hp
 .exact(by decide:(256:Nat)≠364)
 .exact u p hp
theorem NC:∀a,a<6→∀b,b<6→(Float64.lt (xu a) (xu b)=decide (a<b)):=by decide +kernel
theorem Op{c:Fm W0 lawS}{m:Lo}{n0:Ns}{R:Re}{rest:List Stmt}
  (B:∀(ra:Addr),(∀p∈n0,@aP Nat _ p.1 ra)→cK c (ci m (ae "row") (.ref ra)) ((ra,bz [])::n0) rest R):
  cK c m n0 (bp 5::rest) R:=by
 refine dG mY λv n' z=>?_;refine fJ z λra u e h=>?_;subst u;subst e;exact B ra h
structure Q0(L ra:Addr)(o1 o2 o3 o4 o5:Obj)(qs:Array Value)(q6:Str)(n0:Ns)(vs:List Int)(m:Lo)(I:Addr)(i:Nat)(m1:Lo)(n1:Ns):Prop where
 hm:∀x,x≠ae "thing"→m1 x=m x
 hn:∃va ep ps ex,n1=bL L o1 o2 o3 o4 o5 ps qs++(ra,listOf va.toArray ep)::(ex++n0)∧au va (eh vs i)∧
  ((i=0∧ps = #[]∧ex=[])∨(0<i∧∃cA oc,ps=kT (oN (bp 6)) #[] cA∧ex=[(cA,oc)]∧jq q6 oc∧cA≠I∧(∀p∈bL L o1 o2 o3 o4 o5 #[] qs++(ra,bz [])::n0,@aP Nat _ p.1 cA)))
theorem jP:∀{i:Nat},i≤4→(eh vs i).length=i∧∀t∈eh vs i,0≤t∧t<i
 | 0,_=>⟨rfl,λ_ h=>nomatch h⟩
 | i+1,hi=>by
  refine b7 (jP (vs:=vs) (i:=i) (aL (bB hi))) λh1 h2=>?_;have hb:=rB (f:=λj=>decide (nv vs j<nv vs i)) (xs:=eh vs i) i 0 i (c7 _);unfold eh uG;refine⟨by rw[aT,gT,eJ,eV];exact vn (g5 [↑(min (fP (λ(j:Int)=>decide (nv vs j<nv vs (i:Int))) (eh vs i) i 0 i) (eh vs i).length),↑((eh vs i).length-fP (λ(j:Int)=>decide (nv vs j<nv vs (i:Int))) (eh vs i) i 0 i),i,↑((eh vs i).length),↑(fP (λ(j:Int)=>decide (nv vs j<nv vs (i:Int))) (eh vs i) i 0 i)] 1 (.a Z0 (.a Z1 Y1)) (.a Z2 Y1) 1 Z3 Z2 1 Z0 Z4 1 (.a Z1 Z4) Z3 rfl (vX h1) KD (xN (eQ [↑(fP (λ(j:Int)=>decide (nv vs j<nv vs (i:Int))) (eh vs i) i 0 i),↑((eh vs i).length),i] 1 Z0 Z1 1 Z0 Z2 1 Z2 Z1 rfl (d9 hb) (l9 h1)))) (g5 [i,↑(min (fP (λ(j:Int)=>decide (nv vs j<nv vs (i:Int))) (eh vs i) i 0 i) (eh vs i).length),↑((eh vs i).length-fP (λ(j:Int)=>decide (nv vs j<nv vs (i:Int))) (eh vs i) i 0 i),↑((eh vs i).length),↑(fP (λ(j:Int)=>decide (nv vs j<nv vs (i:Int))) (eh vs i) i 0 i)] 1 (.a Z0 Y1) (.a Z1 (.a Z2 Y1)) 1 Z0 Z3 1 Z3 (.a Z2 Z4) 1 Z4 Z1 rfl (l9 h1) C8 (Ri (eQ [↑(fP (λ(j:Int)=>decide (nv vs j<nv vs (i:Int))) (eh vs i) i 0 i),↑((eh vs i).length),i] 1 Z0 Z1 1 Z0 Z2 1 Z2 Z1 rfl (d9 hb) (l9 h1)))),λt ht=>?_⟩
  rcases aC.mp ht with ht|ht
  .have:=h2 t (gz ht);exact⟨cS [t] 1 Y0 Z0 1 Y0 Z0 rfl this.1,cS [t,i] 1 (.a Z0 Y1) (.a Z1 Y1) 1 (.a Z0 Y1) Z1 rfl this.2⟩
  .rcases ak.mp ht with rfl|ht
   .exact⟨cS [i] 1 Y0 Z0 1 Y0 Z0 rfl j0,kJ [i] (.a Z0 Y1) (.a Z0 Y1) rfl⟩
   .have:=h2 t (gA ht);exact⟨cS [t] 1 Y0 Z0 1 Y0 Z0 rfl this.1,cS [t,i] 1 (.a Z0 Y1) (.a Z1 Y1) 1 (.a Z0 Y1) Z1 rfl this.2⟩
theorem FJ{ks:List Nat}{vs:List Int}(hv:vs=ks.map oZ)(hk:∀k∈ks,k≤5){i:Nat}{v:Value}(h:Q5 ks (i:Int) v):yK (Q5 ks) v (λj=>decide (nv vs j<nv vs i)):=by
 refine cp h λtk G=>?_
 try clear h
 subst G;intro prog W0 A Q E s t _ h0 h4 u hq;refine cp u λtk2 B=>?_;clear u;subst B
 have z:∀j:Nat,ks.getD j 0<6∧vs.getD j 0=((ks.getD j 0:Nat):Int):=λj=>by
  rw[hv,az,az,eO]
  cases e:ks[j]? with
  | none=>exact⟨by decide,rfl⟩
  | some k=>exact⟨by have:=hk k (cq e);refine(?_:k<6);exact uw this (bR true),rfl⟩
 refine AutoFloatOps.lt_0 ?_;refine(?_:Q (.bool (Float64.lt _ _)) s);have:=NC _ (z t.toNat).1 _ (z i).1;rw[bC,this]
 have e:decide (ks.getD t.toNat 0<ks.getD i 0)=decide (nv vs t<nv vs i):=by
  unfold nv;rw[bC,(z t.toNat).2,(z i).2];exact decide_eq_decide.mpr (by lia)
 rw[e];exact hq
theorem kW{L:Addr}{o1 o2 o3 o4 o5 o1' o2' o3' o4' o5':Obj}{ps qs ps' qs':Array Value}{P:Addr→Prop}(h:∀p∈bL L o1 o2 o3 o4 o5 ps qs,P p.1):∀p∈bL L o1' o2' o3' o4' o5' ps' qs',P p.1:=by
 simp only[bL,eW] at h ⊢;exact(OK h.1 h.2.1 h.2.2.1 h.2.2.2.1 h.2.2.2.2.1 h.2.2.2.2.2.1 h.2.2.2.2.2.2.1 (λ_ h=>nomatch h))
theorem uB(h:b8 L ((ra,o)::n0)):∀p∈bL L o1 o2 o3 o4 o5 ps qs,p.1≠ra:=by
 have z:=h (ra,o) (zH);simp only[ak,bT,or_false,not_or] at z;simp only[bL,eW];exact(OK (Ne.symm z.2.2.2.2.1) (Ne.symm z.2.2.2.1) (Ne.symm z.2.2.1) (Ne.symm z.2.1) (Ne.symm z.1) (Ne.symm z.2.2.2.2.2.1) (Ne.symm z.2.2.2.2.2.2) (λ_ h=>nomatch h))
theorem b8.tail(h:b8 L (p::n)):b8 L n:=λq hq=>h q (zT hq)
theorem b8.cons(h:b8 L n)(l:∀p∈bL L o1 o2 o3 o4 o5 ps qs,@aP Nat _ p.1 D):b8 L ((D,o)::n):=
 λp hp=>(ak.mp hp).elim (λe=>e▸(b8.add (n:=[]) (o:=o) (o1:=o1) (o2:=o2) (o3:=o3) (o4:=o4) (o5:=o5) (ps:=ps) (qs:=qs) (λ_ h=>nomatch h) (by rw[im];exact l)) (D,o) (zH)) (h p)
theorem HN{c:Fm W0 lawS}{m:Lo}(hc:LawC c)(ht:oW c){o1 o2 o3 o4 o5 oI:Obj}{ps qs:Array Value}{ra I:Addr}{e:Obj}{n0 ex:Ns}(U:b8 c.L ((ra,bz [])::n0))(hI:∀p∈bL c.L o1 o2 o3 o4 o5 #[] qs++(ra,bz [])::n0,@aP Nat _ p.1 I)
  (hx:(ps = #[]∧ex=[])∨(∃cA oc,ps=kT (oN (bp 6)) #[] cA∧ex=[(cA,oc)]∧jq (ri c) oc∧cA≠I∧(∀p∈bL c.L o1 o2 o3 o4 o5 #[] qs++(ra,bz [])::n0,@aP Nat _ p.1 cA))):
  Er c.cx m ((I,oI)::(bL c.L o1 o2 o3 o4 o5 ps qs++(ra,e)::(ex++n0))) (oN (bp 6)) (λv n'=>∃f ok cA oc n2,v=.ref f∧qL (oN (bp 6)) (ri c) [(ae "points",c.L+1+1+1+1)] cA ok∧jq (ri c) oc∧n'=(f,ok)::n2∧
   (∀p∈(cA,oc)::(I,oI)::(ra,e)::(bL c.L o1 o2 o3 o4 o5 (kT (oN (bp 6)) #[] cA) qs++n0),p∈n2)∧cA≠I∧(∀p∈bL c.L o1 o2 o3 o4 o5 #[] qs++(ra,bz [])::n0,@aP Nat _ p.1 cA)∧(∀q∈n2,@aP Nat _ q.1 f)):=by
 have ap:=uB (o1:=o1) (o2:=o2) (o3:=o3) (o4:=o4) (o5:=o5) (ps:=#[]) (qs:=qs) U;have ab:I≠364:=jx (hI (364,bS #[]) (by k_extra "zmm"))
 rcases hx with ⟨rfl,rfl⟩|⟨cA,oc,rfl,rfl,Y,hne,aj⟩
 .refine fx (uP (clos:=[(ae "points",c.L+1+1+1+1)]) (kr hc rfl) ht.cd ht.ch (.tail ab (Dm hc.lo (n0:=(ra,e)::([]++n0)) (λp hp=>?_))) (True.intro) rfl) ?_
  .rcases ak.mp hp with rfl|hp
   .exact U (ra,bz []) (zH)
   .exact U.tail p hp
  intro v n' B;refine NE B λf c' oc pm aa O J Y l1 l2=>?_;clear B;subst O;subst J;have u:∀p∈(I,oI)::(bL c.L o1 o2 o3 o4 o5 #[] qs++(ra,e)::n0),@aP Nat _ p.1 c':=l1;refine(OE f _ c' oc _ rfl (ro pm aa rfl) Y rfl (λp hp=>?_) (jx (u (I,oI) (zH))) (λp hp=>?_) (λq hq=>?_))
  .simp only[ak,aC] at hp
   refine(?_:p∈(c',oc)::(I,oI)::(bL c.L o1 o2 o3 o4 o5 (kT (oN (bp 6)) #[] c') qs++(ra,e)::n0));simp only[ak,aC]
   rcases hp with h|h|h|h|h<;>simp [h]
  .rcases aC.mp hp with h|h
   .exact u p (zT (zL h))
   .rcases ak.mp h with rfl|h
    .exact u (ra,e) (by k_extra "zmm")
    .exact u p (by k_extra "zmm")
  .have ah:q∈(c',oc)::(I,oI)::(bL c.L o1 o2 o3 o4 o5 (kT (oN (bp 6)) #[] c') qs++(ra,e)::n0):=hq
   rcases ak.mp ah with rfl|h
   .exact l2
   .refine aO ?_ l2
    rcases ak.mp h with rfl|h
    .exact u (I,oI) (zH)
    .rcases aC.mp h with h|h
     .exact kW (P:=λa=>@aP Nat _ a c') (λp hp=>u p (zT (zL hp))) q h
     .exact u q (zT (zR h))
 .refine fx (Ah (clos:=[(ae "points",c.L+1+1+1+1)]) (c':=cA) (ps:=kT (oN (bp 6)) #[] cA) (kr hc rfl) ht.cd ht.ch (by k_extra "zmm") (True.intro) rfl) ?_
  intro v n' z;refine zG z λf pm aa H G l1=>?_;clear z;subst H;subst G;refine(OE f _ cA oc _ rfl (ro pm aa rfl) Y rfl (λp hp=>?_) hne aj l1);revert p;k_extra "zsu"
theorem Oo{c:Fm W0 lawS}{m:Lo}{n0:Ns}{R:Re}{rest:List Stmt}(hc:LawC c)(ht:oW c){o1 o2 o3 o4 o5:Obj}{qs:Array Value}{ra pa:Addr}{vp:List Value}{ks:List Nat}{vs:List Int}(ah:b8 c.L ((ra,bz [])::n0))(aQ:∀p∈n0,p.1≠ra)
  (d4:o4.data=.cell (some (.ref pa))) (a0:(pa,bz vp)∈n0) (hp:jp vp ks) (hl:ks.length=4) (hv:vs=ks.map oZ) (a5:∀k∈ks,k≤5) (hm:m (ae "row")=some (.ref ra))
  (O:∀(m1:Lo) (va:List Value) (ep:Nat) (cA:Addr) (oc:Obj),(∀x,x≠ae "thing"→m1 x=m x)→au va (eh vs 4)→jq (ri c) oc→(∀p∈bL c.L o1 o2 o3 o4 o5 #[] qs++(ra,bz [])::n0,@aP Nat _ p.1 cA)→
   cK c m1 (bL c.L o1 o2 o3 o4 o5 (kT (oN (bp 6)) #[] cA) qs++(ra,listOf va.toArray ep)::(cA,oc)::n0) rest R):
  cK c m (bL c.L o1 o2 o3 o4 o5 #[] qs++(ra,bz [])::n0) (bp 6::rest) R:=by
 refine uJ (a:=0) (b:=4) (k:=4) ?hr rfl (by decide) (Q0 c.L ra o1 o2 o3 o4 o5 qs (ri c) n0 vs m) ?h0 ?turn ?done
 case hr=>exact rx cO bf
 case h0=>
  intro I hI;exact⟨λ_ _=>rfl,[],0,#[],[],rfl,.nil,.inl (eR rfl rfl rfl)⟩
 case done=>
  rintro I m1 n1 hI ⟨G,va,ep,ps,ex,rfl,U,h⟩
  rcases h with ⟨h,_⟩|⟨_,cA,oc,rfl,rfl,B,_,z⟩
  .exact absurd h (by decide)
  .exact O m1 va ep cA oc G U B z
 case turn=>
  rintro i t m1 n1 I oI H hI ⟨G,va,ep,ps,ex,rfl,U,hx⟩;have aD:(ps = #[]∧ex=[])∨(∃cA oc,ps=kT (oN (bp 6)) #[] cA∧ex=[(cA,oc)]∧jq (ri c) oc∧cA≠I∧(∀p∈bL c.L o1 o2 o3 o4 o5 #[] qs++(ra,bz [])::n0,@aP Nat _ p.1 cA)):=hx.elim (λh=>.inl h.2) (λh=>.inr h.2);rw[fO] at *;have a4:ci m1 (ae "thing") (.int (i:Int) t) (ae "row")=some (.ref ra):=(if_neg (by decide)).trans ((G (ae "row") (by decide)).trans hm);refine b7 (jP (vs:=vs) (i:=i) (aL H)) λaa hr2=>?_
  refine tC (Dq (P:=λv n'=>v=.none∧∃(cA:Addr) (oc:Obj) (va2:List Value) (ep2:Nat),au va2 (eh vs (i+1))∧jq (ri c) oc∧cA≠I∧(∀p∈bL c.L o1 o2 o3 o4 o5 #[] qs++(ra,bz [])::n0,@aP Nat _ p.1 cA)∧∀p∈(ra,listOf va2.toArray ep2)::(cA,oc)::(I,oI)::(bL c.L o1 o2 o3 o4 o5 (kT (oN (bp 6)) #[] cA) qs++n0),p∈n') (wm (dp:=5) (un:=46) (a2:=.int i) fT (am a4) (ai rfl) (HN hc ht ah hI aD) (by with_unfolding_all rfl) (aK (bq (by decide) _) hc.hd) (aK (bq (by decide) _) hc.hu) λv2 v3 n' d2 h3=>?call) (λv n' h=>h.1)) (λn' h=>by cases h.1) λn' h=>?next
  case call=>
   obtain ⟨t2,rfl⟩:=d2;refine Qj h3 λf ok cA oc n2 ax ab B as e hne z hf=>?_;subst ax as;have ap:=Qw (kl:=f) ab B d4 hp hl (ep:=vp.length);refine ut ab λpm ar J=>?_;change ok=nF "<lambda>" _ _ _ _ _ pm cA ar at J;subst J;have a6:@aP Nat _ ra f:=hf (ra,listOf va.toArray ep) (e _ (a8 2 rfl));have aj:@aP Nat _ ra cA:=z (ra,bz []) (zR (zH));have Y:@aP Nat _ ra I:=hI (ra,bz []) (zR (zH));have hb:=Ld (ep:=ep) (n:=(f,nF "<lambda>" _ _ _ _ _ pm cA ar)::(cA,oc)::(I,oI)::(bL c.L o1 o2 o3 o4 o5 (kT (oN (bp 6)) #[] cA) qs++n0)) (x:=(i:Int)) (tx:=t2) U (aw (fu aa) (aL H)) (λt ht=>⟨(hr2 t ht).1,jZ (hr2 t ht).2 (gG.mpr H)⟩) (cb i) (gG.mpr H) (FC (jx a6) (FC (jx aj) (FC (jx Y) (FA (uB ah) aQ)))) (FC (a8 0 rfl) (FC (a8 1 rfl) (FC (bk 3 (zL (a8 1 rfl))) (FC (bk 3 (zR a0)) FN)))) (a8 0 rfl) ap (λv aM=>FJ hv a5 aM);refine(hb.sub (FC (zT (e _ (a8 2 rfl))) (FC (zH) (FC (zT (e _ (a8 0 rfl))) (FC (zT (e _ (a8 1 rfl))) λp hp=>zT (e p (bk 3 hp))))))).mono λv n' h=>?_;obtain ⟨rfl,va2,ep2,u,rfl⟩:=h;rw[aa] at u;exact⟨rfl,cA,oc,va2,ep2,u,B,hne,z,FC (a8 0 rfl) (FC (a8 2 rfl) (FC (a8 3 rfl) λp hp=>bk 4 hp))⟩
  case next=>
   obtain ⟨_,_,cA,oc,va2,ep2,u,B,hne,z,sub⟩:=h;have a7:=kW (o1':=o1) (o2':=o2) (o3':=o3) (o4':=o4) (o5':=o5) (ps':=kT (oN (bp 6)) #[] cA) (qs':=qs) (P:=λa=>@aP Nat _ a I) (λp hp=>hI p (zL hp));have Y:@aP Nat _ ra I:=hI (ra,bz []) (zR (zH));refine bQ (b9 ⟨sub _ (a8 2 rfl),bL c.L o1 o2 o3 o4 o5 (kT (oN (bp 6)) #[] cA) qs++(ra,listOf va2.toArray ep2)::([(cA,oc)]++n0),?_,⟨?_,va2,ep2,_,_,rfl,u,.inr ⟨gE _,cA,oc,rfl,rfl,B,hne,z⟩⟩⟩)
   .exact FA (λp hp=>⟨sub p (bk 3 (zL hp)),kX (a7 p hp)⟩) (FC ⟨sub _ (a8 0 rfl),kX Y⟩ (FC ⟨sub _ (a8 1 rfl),hne⟩ λp hp=>⟨sub p (bk 3 (zR hp)),kX (hI p (zR (zT hp)))⟩))
   .intro x hx
    exact(if_neg hx).trans (G x hx)
end
section
open W PyProof Rows
open PyProof.Rows.LCg
theorem K4(hc:LawC c)(ht:oW c)(he:e = .Lambda params body scope pos)(U:fy scope (yU c.cn lawS c.L c.a c.ccd (fQ (c.L+1) lawS.names []))=ck clos)(H:b8 c.L n0)(G:dZ ps.toList)(J:nM (ul e) ps.toList=none)(hd:CJ params c.env=([],[])):
  Er c.cx m (bL c.L o1 o2 o3 o4 o5 ps qs++n0) e (λv n'=>∃f ok cB oc n2,v=.ref f∧qL e (ri c) clos cB ok∧jq (ri c) oc∧n'=(f,ok)::n2∧(∀p∈(cB,oc)::(bL c.L o1 o2 o3 o4 o5 (kT e ps cB) qs++n0),p∈n2)∧(∀q∈n2,@aP Nat _ q.1 f)):=by
 subst he;refine fx (uP (kr hc U) ht.cd ht.ch (Dm hc.lo H) G J hd) ?_;intro v n' u;refine NE u λf c' oc pm Y B z O l1 l2=>?_;clear u;subst B;subst z;refine(QB f _ c' oc _ rfl (ro pm Y rfl) O rfl (λp hp=>hp) (λq hq=>?_))
 rcases ak.mp hq with rfl|h
 .exact l2
 .refine aO ?_ l2
  have h':q∈bL c.L o1 o2 o3 o4 o5 (kT (.Lambda params body scope pos) ps c') qs++n0:=h
  rcases aC.mp h' with h|h
  .exact kW (P:=λa=>@aP Nat _ a c') (λp hp=>l1 p (zL hp)) q h
  .exact l1 q (zR h)
theorem Kc:∀k,k<6→(fG (fW (bE 2) (xu k)) 3==some pS)=decide (2<k):=by decide +kernel
theorem EM{ks:List Nat}{vs:List Int}(hv:vs=ks.map oZ)(hk:∀k∈ks,k≤5)(j:Nat):ks.getD j 0<6∧vs.getD j 0=((ks.getD j 0:Nat):Int):=by
 rw[hv,az,az,eO]
 cases e:ks[j]? with
 | none=>exact⟨by decide,rfl⟩
 | some k=>exact⟨by have:=hk k (cq e);refine(?_:k<6);exact uw this (bR true),rfl⟩
theorem FI{ks:List Nat}{vs:List Int}(hv:vs=ks.map oZ)(hk:∀k∈ks,k≤5){tk:Tok} : CG (Pn ks) (.int 3 tk) (λj=>!decide (2<nv vs j)):=by
 intro prog W0 A Q E s t _ h0 h4 u hq;refine cp u λtk2 z=>?_;clear u;subst z;refine b7 (EM hv hk t.toNat) λk1 k2=>?_;refine lt_if ?_;rw[Kc _ k1]
 have e:decide (2<ks.getD t.toNat 0) = !(!decide (2<nv vs t)):=by
  unfold nv;rw[k2,Bool.not_not];exact decide_eq_decide.mpr (by lia)
 rw[e];exact hq
theorem Ai{c:Fm W0 lawS}{m:Lo}(hc:LawC c)(ht:oW c){o1 o2 o3 o4 o5:Obj}{ps qs:Array Value}{n0 NK:Ns}{e e1 e2:PE}{params:j8}{body:PE}{scope:Scope}{G kp pos p:Pos}{clos:List (Str×Addr)}{x:Str}{fa ra:Addr}{va:List Value}{ep r:Nat}{a2:Bv}{KV:Int→Value→Prop}(he:e = .Lambda params body scope G)(as:fy scope (yU c.cn lawS c.L c.a c.ccd (fQ (c.L+1) lawS.names []))=ck clos)(ah:b8 c.L n0)(aa:dZ ps.toList)(aj:nM (ul e) ps.toList=none)(ap:CJ params c.env=([],[]))
  (hf:Ev c.cx m (bL c.L o1 o2 o3 o4 o5 ps qs++n0) (.Name x p) (.val (.ref fa))) (h1:Ev c.cx m (bL c.L o1 o2 o3 o4 o5 ps qs++n0) e1 (.val (.ref ra))) (h2:Ev c.cx m (bL c.L o1 o2 o3 o4 o5 ps qs++n0) e2 a2) (hkp:lB (K1 W0) (.ref fa)=true) (ab:(ra,listOf va.toArray ep)∈n0)
  (J:∀f ok B oc,qL e (ri c) clos B ok→jq (ri c) oc→fZ W0 f ((f,ok)::(B,oc)::NK) KV) (ax:∀ps',∀p∈NK,p∈bL c.L o1 o2 o3 o4 o5 ps' qs++n0)
  (hB:∀v2,a2.den v2→∀{n' newsK:Ns}{kl:Addr}{oc:Value}{od:Option Addr}{fd:FuncData}{sl:Array (Option Value)},fZ W0 kl newsK KV→(∀p∈newsK,p∈n')→(kl,(⟨oc,od,.func fd,sl⟩:Obj))∈n'→(ra,listOf va.toArray ep)∈n'→g8 W0 fa [.ref ra,v2] [(ae "key",.ref kl)] n' 4 43 (yL r n'))
  (c2:autoParam (SE c.env e1 [e2]) zAa) (c3:autoParam (SE c.env e2 []) zAa):
  Er c.cx m (bL c.L o1 o2 o3 o4 o5 ps qs++n0) (.Call (.Name x p) [e1,e2] [⟨some (ae "key"),e,kp⟩] pos) (λv Y=>(∃t,v=.int (r:Int) t)∧∃B,∀p∈bL c.L o1 o2 o3 o4 o5 (kT e ps B) qs++n0,p∈Y):=
 wm (dp:=4) (un:=43) (c2:=c2) (c3:=c3) hf h1 h2 (K4 hc ht he as ah aa aj ap) hkp (aK (bq (by decide) _) hc.hd) (aK (bq (by decide) _) hc.hu) λv2 v3 n' d2 h3=>by
  refine Qk h3 λf ok B oc n2 U H ar O u hf=>?_;subst U O;have hk:=J f ok B oc H ar;refine ut H λpm aD z=>?_;rw[he] at z;change ok=nF "<lambda>" _ _ _ _ _ pm B aD at z;subst z;refine(hB v2 d2 hk (FC (zH) (FC (zT (u _ (a8 0 rfl))) λp hp=>zT (u p (zT (ax _ p hp))))) (zH) (zT (u _ (zT (zR ab))))).mono λv n' h=>?_;obtain ⟨t⟩:=h;exact⟨⟨t,rfl⟩,B,λp hp=>zT (u p (zT hp))⟩
theorem Ci{cs:Scope}{c:Fm W0 cs}{sc:Scope}{k:Cx c sc}{m:Lo}{n:Ns}{u e:PE}{pos p:Pos}{l:Addr}{vs B:List Value}{ep:Nat}{i:Int}{P:Value→Ns→Prop}(hv:Ev k m n u (.val (.ref l)))(he:Er k m n e P)(hP:∀v n',P v n'→(∃t,v=.int i t)∧(l,listOf vs.toArray ep)∈n')(hz:vs.length≤1000)(z:jE vs.toArray.toList (some i) none=B)
  (hs:autoParam (∀(d:Addr),j4 (.Slice (some e) none none p) false (.ref l) (.ref d)=tQ [.ref d,.ref l] (pP (.ref l) (.ref d))) zAe) (ht:autoParam (∀r,eU u (.ref l) r=ck ()) zAe):
  Er k m n (.Subscript u (.Slice (some e) none none p) pos) (λv n2=>∃D v1 n',P v1 n'∧v=.ref D∧n2=(D,listOf B.toArray 0)::n'∧∀q∈n',@aP Nat _ q.1 D):=
 ⟨λQ s hi hq=>og (hv.run _ s hi λo s1 ho i1=>by
  cases ho;refine y7 (he.run _ s1 i1 λv1 n' s2 G i2=>ag (ag ?_));refine b7 (hP _ _ G) λhv hm=>?_;obtain ⟨t,rfl⟩:=hv;refine gJ (qw k i2) λm0 ex F N cl=>?_
  exact Gn F N (cZ _ (i2.get hm) rfl ⟨ep,rfl⟩) (.int _ _) .none z (λD h' O J H=>hq _ _ _ (HT D _ _ G rfl rfl (λq hq=>H q (zR hq))) (cl h' s2.toks D _ O J)) (hs _) ht (by rw[aV];exact aw hz (by decide)))⟩
theorem Om{c:Fm W0 lawS}{m:Lo}{n0:Ns}{R:Re}{rest:List Stmt}(hc:LawC c)(ht:oW c){o1 o2 o3 o4 o5:Obj}{ps qs:Array Value}{ra pa:Addr}{va vp:List Value}{ep:Nat}{ks:List Nat}{vs:List Int}(ab:b8 c.L n0)(U:dZ ps.toList)(ah:nM (ul (B0 (bp 7))) ps.toList=none)
  (d4:o4.data=.cell (some (.ref pa))) (Y:(pa,bz vp)∈n0) (hp:jp vp ks) (hl:ks.length=4) (hv:vs=ks.map oZ) (ap:∀k∈ks,k≤5) (hm:m (ae "row")=some (.ref ra)) (H:(ra,listOf va.toArray ep)∈n0) (B:au va (eh vs 4))
  (z:∀(wa G:Addr) (wv:List Value) (ew:Nat),au wv (dF vs)→(∀p∈bL c.L o1 o2 o3 o4 o5 ps qs++n0,@aP Nat _ p.1 wa)→
   cK c (ci m (ae "wanted") (.ref wa)) (bL c.L o1 o2 o3 o4 o5 (kT (B0 (bp 7)) ps G) qs++(wa,listOf wv.toArray ew)::n0) rest R):
  cK c m (bL c.L o1 o2 o3 o4 o5 ps qs++n0) (bp 7::rest) R:=by
 refine b7 (jP (vs:=vs) (i:=4) (aR 4)) λu hr2=>?_;refine dG (Ci (ep:=ep) (i:=(fP (λj=>!decide (2<nv vs j)) (eh vs 4) 4 0 4:Nat)) (am hm) (Ai (a2:=.int 3) (r:=fP (λj=>!decide (2<nv vs j)) (eh vs 4) 4 0 4) (NK:=[(c.L+1+1+1+1,o4),(pa,listOf vp.toArray vp.length)]) hc ht rfl rfl ab U ah rfl fT (am hm) bf (by with_unfolding_all rfl) H (λf ok G oc aa ar=>Qv aa ar d4 hp hl) (λps'=>FC (zL (a8 1 rfl)) (FC (zR Y) FN)) λv2 d2 {_ _ _ _ _ _ _} O hs aj as=>?_) ?_ (by rw[B.length,u];decide) rfl) λv n' h=>?_
 .obtain ⟨t2,rfl⟩:=d2
  have hb:=Js O (FI hv ap (tk:=t2)) hs aj as B (Ky u rfl) hr2;rw[u] at hb;exact hb
 .intro v n' h
  obtain ⟨h1,G,h2⟩:=h;exact⟨h1,h2 _ (zR H)⟩
 .obtain ⟨D,v1,n1,⟨_,G,e⟩,rfl,rfl,l1⟩:=h
  have J:∀p∈bL c.L o1 o2 o3 o4 o5 (kT (B0 (bp 7)) ps G) qs++n0,@aP Nat _ p.1 D:=λp hp=>l1 p (e p hp);refine cL (z D G _ 0 (sd B _) (FA (λp hp=>kW (P:=λa=>@aP Nat _ a D) (λp hp=>J p (zL hp)) p hp) λp hp=>J p (zR hp))) (FA (λp hp=>zT (e p (zL hp))) (FC (zH) λp hp=>zT (e p (zR hp))))
end
section
open W PyProof Rows
open PyProof.Rows.LCg
theorem LM:yK (PQ vs b) (.int z tk) (λj=>decide (nv vs j*b<z)):=by
 intro prog W0 A Q E s t _ h0 h4 e hq;refine cp e λtk2 u=>?_;clear e;subst u;exact lt_int hq
theorem LL:CG (PQ vs b) (.int z tk) (λj=>!decide (z<nv vs j*b)):=by
 intro prog W0 A Q E s t _ h0 h4 e hq;refine cp e λtk2 u=>?_;clear e;subst u;rw[Bool.not_not] at hq;exact lt_int hq
theorem KZ{c:Fm W0 lawS}{m:Lo}{n0:Ns}{R:Re}{rest:List Stmt}(hc:LawC c)(ht:oW c){o1 o2 o3 o4 o5:Obj}{ps qs:Array Value}{ra vt:Addr}{va vv:List Value}{ep:Nat}{vs:List Int}{most both:Int}{tm tb:Tok}(Y:b8 c.L n0)(J:dZ ps.toList)(aa:nM (ul (v7 (bp 13))) ps.toList=none)
  (d3:o3.data=.cell (some (.int both tb))) (d5:o5.data=.cell (some (.ref vt))) (H:(vt,bz vv)∈n0) (hv:au vv vs) (hl:vs.length=4) (aj:∀x∈vs,0≤x∧x≤5) (hm:m (ae "row")=some (.ref ra)) (ab:m (ae "most")=some (.int most tm)) (O:(ra,listOf va.toArray ep)∈n0) (ap:au va (eh vs 4))
  (e:∀(G:Addr) (tk:Tok),cK c (ci m (ae "low") (.int (fP (λj=>decide (nv vs j*both<5*most)) (eh vs 4) 4 0 4:Nat) tk)) (bL c.L o1 o2 o3 o4 o5 (kT (v7 (bp 13)) ps G) qs++n0) rest R):
  cK c m (bL c.L o1 o2 o3 o4 o5 ps qs++n0) (bp 13::rest) R:=by
 refine b7 (jP (vs:=vs) (i:=4) (aR 4)) λz hr2=>?_;refine dG (Ai (a2:=.int (5*most)) (r:=fP (λj=>decide (nv vs j*both<5*most)) (eh vs 4) 4 0 4) (NK:=[(c.L+1+1+1,o3),(c.L+1+1+1+1+1,o5),(vt,listOf vv.toArray vv.length)]) hc ht rfl rfl Y J aa rfl fT (am hm) (kh bf (ai ab) (fL (by decide))) (by with_unfolding_all rfl) O (λf ok G oc U ar=>Oz U ar d3 d5 hv hl aj) (λps'=>FC (zL (a8 2 rfl)) (FC (zL (a8 0 rfl)) (FC (zR H) FN))) λv2 d2 {_ _ _ _ _ _ _} B hs ah as=>?_) λv n' h=>?_
 .obtain ⟨t2,rfl⟩:=d2
  have hb:=Pb (xv:=.int (5*most) t2) (g:=λj=>decide (nv vs j*both<5*most)) B LM hs ah as ap (Ky z rfl) hr2;rw[z] at hb;exact hb
 .obtain ⟨⟨t,rfl⟩,G,u⟩:=h
  exact cL (e G t) u
theorem KY{c:Fm W0 lawS}{m:Lo}{n0:Ns}{R:Re}{rest:List Stmt}(hc:LawC c)(ht:oW c){o1 o2 o3 o4 o5:Obj}{ps qs:Array Value}{ra vt:Addr}{va vv:List Value}{ep:Nat}{vs:List Int}{most both:Int}{tm tb:Tok}(Y:b8 c.L n0)(J:dZ ps.toList)(aa:nM (ul (v7 (bp 14))) ps.toList=none)
  (d3:o3.data=.cell (some (.int both tb))) (d5:o5.data=.cell (some (.ref vt))) (H:(vt,bz vv)∈n0) (hv:au vv vs) (hl:vs.length=4) (aj:∀x∈vs,0≤x∧x≤5) (hm:m (ae "row")=some (.ref ra)) (ab:m (ae "most")=some (.int most tm)) (O:(ra,listOf va.toArray ep)∈n0) (ap:au va (eh vs 4))
  (e:∀(G:Addr) (tk:Tok),cK c (ci m (ae "high") (.int (fP (λj=>!decide (5*most<nv vs j*both)) (eh vs 4) 4 0 4:Nat) tk)) (bL c.L o1 o2 o3 o4 o5 (kT (v7 (bp 14)) ps G) qs++n0) rest R):
  cK c m (bL c.L o1 o2 o3 o4 o5 ps qs++n0) (bp 14::rest) R:=by
 refine b7 (jP (vs:=vs) (i:=4) (aR 4)) λz hr2=>?_;refine dG (Ai (a2:=.int (5*most)) (r:=fP (λj=>!decide (5*most<nv vs j*both)) (eh vs 4) 4 0 4) (NK:=[(c.L+1+1+1,o3),(c.L+1+1+1+1+1,o5),(vt,listOf vv.toArray vv.length)]) hc ht rfl rfl Y J aa rfl fT (am hm) (kh bf (ai ab) (fL (by decide))) (by with_unfolding_all rfl) O (λf ok G oc U ar=>Oy U ar d3 d5 hv hl aj) (λps'=>FC (zL (a8 2 rfl)) (FC (zL (a8 0 rfl)) (FC (zR H) FN))) λv2 d2 {_ _ _ _ _ _ _} B hs ah as=>?_) λv n' h=>?_
 .obtain ⟨t2,rfl⟩:=d2
  have hb:=Js (xv:=.int (5*most) t2) (g:=λj=>!decide (5*most<nv vs j*both)) B LL hs ah as ap (Ky z rfl) hr2;rw[z] at hb;exact hb
 .obtain ⟨⟨t,rfl⟩,G,u⟩:=h
  exact cL (e G t) u
end
section
open W PyProof Rows Spec PySem.Calls Rows.LCg
noncomputable def PG(i:Int):Value→Bool
 | .int a _=>a==i
 | _=>false
theorem IL(h:au vs xs)(i:Int):vs.toArray.any (PG i)=decide (i∈xs):=by
 rw[List.any_toArray]
 induction h with
 | nil=>rfl
 | cons a t _ u=>
  rw[List.any_cons,u]
  by_cases e:a=i
  .subst e;simp [PG]
  .have:(i=a)=False:=by simp;exact λh=>e h.symm
   simp [PG,this,e]
section
variable {cs:Scope}{c:Fm W0 cs}{sc:Scope}{k:Cx c sc}{m:Lo}{n:Ns}{R:Re}
theorem yk(ht:Tw k m n test (eval test k.env) b)(h1:b=true→Ev k m n body al)(h2:b=false→Ev k m n e al):Ev k m n (.IfExp test body e pos) al:=
 ⟨λQ s hi hq=>wpAny_IfExp (ht.run _ s hi λs' h'=>by
  cases b with
  | true=>exact(h1 rfl).run Q s' h' hq
  | false=>exact(h2 rfl).run Q s' h' hq)⟩
theorem Nm(hl:Ev k m n l (.int i))(hr:Ev k m n r (.val (.ref a)))(hm:(a,listOf vs.toArray ep)∈n)(B:au vs xs)(hb:autoParam (eN .In r=false) zAc):Tw k m n (.Compare l [.In] [r] pos) wh (decide (i∈xs)):=
 ⟨λ_ s hi hq=>bX (hl.run _ s hi λv s1 hv h1=>hr.run _ s1 h1 λv2 s2 G h2=>by
  refine cp hv λt u=>?_
  try clear hv
  subst u;cases G;refine SeqAt.in_listAt (PG i) (cZ _ (h2.get hm) rfl ⟨ep,rfl⟩) (λy J=>?_) ?_
  .have z:y∈vs:=by simpa using J
   obtain ⟨j,hj,e⟩:=lL z
   have H:j<xs.length:=by rw[← B.length];exact hj
   refine cp (B.get j xs[j] (ao H)) λtb hb=>?_;rw[ao hj,e] at hb;cases hb;exact SeqAt.EqAt.int_int _ _ _ _
  .rw[IL B]
   exact aY (hq _ h2)) hb⟩
theorem EF{elt:PE}{x:Str}{scope:Scope}{cl:List (Str×Addr)}(hkind:scope.kind=.function){n1:Ns}{v:Value}{s1:Shared}{xs:List Int}{nn:Nat}{It:Nat→Value→Prop}{kp:Ns}{f:Int→Int}{P:Value→Ns→Prop}(S:tM k m n1 v s1 xs nn It kp)
  (ht:∀C E' mC n2 y t,y∈xs→mC x=some (.int y t)→(∀p∈n1,p∈n2)→Ev (k.comp m scope cl C E' hkind) mC n2 elt (.int (f y)))
  (hP:∀D zs,au zs (xs.map f)→(∀p∈n1,@aP Nat _ p.1 D)→P (.ref D) ((D,bz zs)::n1)):
  ww k m n1 elt x [] scope cl hkind nn It kp (λi out n3=>n3=n1∧au out ((xs.take i).map f)) P where
 hJ:=⟨rfl,.nil⟩
 hkp:=λi out n3 h=>by
  obtain ⟨e,h⟩:=h;subst e;exact⟨S.kp,by rw[h.length,aE,eJ];exact jv ..⟩
 turn:=λi v out n3 C I D oI E' mC hi hv hJ Y H ab ah aa aj hex=>by
  refine b7 hJ λe O=>?_
  try clear hJ
  subst e;refine cp (S.it i v hi hv) λt B=>?_;subst B
  have G:i<xs.length:=by rw[S.l];exact hi
  have hg:xs.getD i 0=xs[i]:=by rw[az,ao G];rfl
  have U:xs.take (i+1)=xs.take i++[xs.getD i 0]:=by rw[qW,ao G,hg];rfl
  have J:xs.getD i 0∈xs:=by rw[hg];exact bG G
  refine(cZ true (λQ s hi hq=>pg (hq s hi)) (λ_=>fx (iL (ht C E' mC _ _ t J Y λp hp=>zT (zT hp))) λv5 n5 h5=>?_) (λh=>nomatch h));refine b7 h5 λu e5=>?_
  try clear h5
  refine cp u λt5 h5=>?_
  try clear u
  subst e5;subst h5;refine⟨n3,λp hp=>hp,H,rfl,?_⟩;rw[U,aX];exact O.append (.cons _ _ .nil)
 done:=λout n3 D hJ h1 h2=>by
  refine b7 hJ λe O=>?_
  try clear hJ
  subst e;rw[← S.l,cP] at O;exact hP D out O h1
 hsz:=aw S.z (by decide)
theorem Do(h:Tw k m n e wh b):Ar k m n e wh (λu n'=>u=b∧n'=n):=⟨λQ s hi hq=>h.run _ s hi λs' h'=>hq _ _ _ ⟨rfl,rfl⟩ h'⟩
theorem xH{e:PE}{wh:M7 Value}{P P':Bool→Ns→Prop}(h:Ar k m n e wh P)(hp:∀b n',P b n'→P' b n'):Ar k m n e wh P':=⟨λQ s hi hq=>h.run _ s hi λb n' s' p h'=>hq _ _ _ (hp _ _ p) h'⟩
theorem AH{x:PE}{rest:List PE}{pos wh}{P1 P:Bool→Ns→Prop}(h:Ar k m n x (eval x k.env) P1)(hr:∀n',P1 true n'→Ar k m n' (.BoolOp .And rest pos) wh P)(hf:∀n',P1 false n'→P false n'):Ar k m n (.BoolOp .And (x::rest) pos) wh P:=⟨λQ s hi hq=>vJ (h.run _ s hi λb n' s' p h'=>by
 cases b with
 | false=>exact hq _ _ _ (hf _ p) h'
 | true=>exact(hr _ p).run _ _ h' hq)⟩
theorem zh{pos wh}{P:Bool→Ns→Prop}(h:P false n):Ar k m n (.BoolOp .Or [] pos) wh P:=⟨λQ s hi hq=>isTrue_or_nil (hq _ _ _ h hi)⟩
theorem Dp{x:PE}{rest:List PE}{pos wh}{P1 P:Bool→Ns→Prop}(h:Ar k m n x (eval x k.env) P1)(hr:∀n',P1 false n'→Ar k m n' (.BoolOp .Or rest pos) wh P)(hf:∀n',P1 true n'→P true n'):Ar k m n (.BoolOp .Or (x::rest) pos) wh P:=⟨λQ s hi hq=>isTrue_or (h.run _ s hi λb n' s' p h'=>by
 cases b with
 | true=>exact hq _ _ _ (hf _ p) h'
 | false=>exact(hr _ p).run _ _ h' hq)⟩
theorem AG{op:CmpOp}{l r:PE}{pos:Pos}{wh:M7 Value}{P:Value→Ns→Prop}{P2:Value→Ns→Value→Ns→Prop}{P':Bool→Ns→Prop}(hl:Er k m n l P)(hr:∀v n1,P v n1→Er k m n1 r (P2 v n1))
  (h:∀v n1 v2 n2,P v n1→P2 v n1 v2 n2→∀(Q:VP) s,k.Is m n2 s→(∀b s',P' b n2→k.Is m n2 s'→Q (.bool b) s')→ay (aq P0 W0) c.A (fi op v v2) Q k.E s) (hm:autoParam (eN op r=false) zAc):Ar k m n (.Compare l [op] [r] pos) wh P':=
 ⟨λQ s hi hq=>bX (hl.run _ s hi λv n1 s1 e i1=>(hr v n1 e).run _ s1 i1 λv2 n2 s2 u i2=>h v n1 v2 n2 e u _ s2 i2 λb z hp i3=>aY (hq _ _ _ hp i3)) hm⟩
end
end
section
open W PyProof Rows
open PyProof.Rows.LCg
noncomputable def O3:List Stmt:=vh P0.main.body 24
noncomputable def LS:Scope:=tw P0.main.body 24
theorem AJ{cs:Scope}{c:Fm W0 cs}{m:Lo}{n:Ns}{e1 e2:PE}{kk:Nat}{pos:Pos}{a b:Int}(h1:Ev c.cx m n e1 (.int a))(h2:Ev c.cx m n e2 (.int b))
  (H:autoParam (∀r,SE c.env e1 r) zAb) (G:autoParam (∀r,SE c.env e2 r) zAb):
  Er c.cx m n (.Tuple [e1,e2] kk pos) (λv n'=>∃D t1 t2,v=.ref D∧n'=(D,dO #[.int a t1,.int b t2])::n∧(∀p∈n,@aP Nat _ p.1 D)):=
 ⟨λQ s hi hq=>vM (uO (k:=c.cx) h1 h2 H G hi λv1 v2 s1 B d2 e=>by
  refine cp B λt1 z=>?_
  try clear B
  subst z;refine cp d2 λt2 u=>?_
  try clear d2
  subst u
  exact iC e.at.1 e.at.2 (λD h' O J hl=>hq _ _ _ (nW D t1 t2 rfl rfl hl) (e.to (tk:=s1.toks) O J)) (by decide:(2:Nat)≤dY))⟩
theorem yd{cs:Scope}{c:Fm W0 cs}{m:Lo}{n:Ns}{R:Re}{rest:List Stmt}{e:PE}{B z:Str}{J H u pos:Pos}{kk:Nat}{P:Value→Ns→Prop}(he:Er c.cx m n e P)(hP:∀v n',P v n'→∃D v1 v2,v=.ref D∧(D,dO #[v1,v2])∈n'∧cK c (ci (ci m B v1) z v2) n' rest R)
  (hs:autoParam (lV [.Tuple [.Name B J,.Name z H] kk u] e pos.line c.env=ck false) zAa) (hw:autoParam (fU [.Tuple [.Name B J,.Name z H] kk u] e c.env=ck none) zAa) (k1:autoParam (c.env.kindOf B=some .local) zAa) (k2:autoParam (c.env.kindOf z=some .local) zAa)
  (hn:autoParam ((da [.Name B J,.Name z H] c.env).map (·.2)=[de (.Name B J) c.env,de (.Name z H) c.env]) zAa) (hl:autoParam ((da [.Name B J,.Name z H] c.env).length=2) zAa) (hf:autoParam ((da [.Name B J,.Name z H] c.env).findIdx? (·.1)=none) zAa):cK c m n (.Assign [.Tuple [.Name B J,.Name z H] kk u] e pos::rest) R:=
 bK ⟨λQ s hi hq=>I7 (he.run _ s hi λv n' s1 hp i1=>by
  refine zG (hP v n' hp) λD v1 v2 O hm Y=>?_;subst O;have G:c.Is m n' s1:=i1;refine unpackN_ G.at.1 G.at.2 (is_tup (vs:=[v1,v2]) G hm) rfl hl hf λh2 F2 N2=>?_;rw[hn]
  exact be (tV (dm (G.to (tk:=s1.toks) F2 N2) (λs3 i3=>be (tV (dm i3 (λs4 U=>fz (hq .next _ _ _ Y U)) k2))) k1))) hs hw⟩
theorem uI{cs:Scope}{c:Fm W0 cs}{m:Lo}{n:Ns}{R:Re}{e:PE}{pos:Pos}{rest:List Stmt}{P:Value→Ns→Prop}(he:Er c.cx m n e P)(h:∀v n',P v n'→R (.ret v) m n'):cK c m n (.Return (some e) pos::rest) R:=
 bK ⟨λQ s hi hq=>iO (he.run _ s hi λv n' s' hv h'=>hq (.ret v) _ _ _ (h v n' hv) h'.lib)⟩
theorem FQ{i t:Nat} : (gc (((i:Nat):Int).fdiv (2 ^ t)) 1 != 0)=bt (i:Int) (t:Int):=by
 unfold bt;rw[bitAnd_m1,bC,bC,iM _ (Int.pow_nonneg (by decide))]
 have e:((i:Nat):Int)/2 ^ t % 2=((i/2 ^ t % 2:Nat):Int):=by simp
 rw[e]
 have:i/2 ^ t % 2=0∨i/2 ^ t % 2=1:=by lia
 rcases this with h|h<;>rw[h]<;>decide
theorem tI(h0:0≤y):(gc (((i:Nat):Int).fdiv (2 ^ y.toNat)) 1 != 0)=bt (i:Int) y:=by
 rw[FQ];unfold bt;rw[bC,bC]
noncomputable def jS(vs:List Int)(sv:List Value)(i:Nat):List Value:=((aU i).filter (λc:Nat=>pW vs (c:Int))).map (λc=>sv.getD c .none)
theorem rY:((aU 4).map λi:Nat=>(i:Int))=[0,1,2,3]:=rfl
theorem JS(h:t∈th i):0≤t∧t<4:=by
 have:=(bY.mp h).1;simp only[ak,bT,or_false] at this;lia
theorem mT(l:List Int):gu l=l.sum:=by
 have h:∀(l:List Int) (a:Int),l.foldl (· + ·) a=a+l.sum:=by
  intro l
  induction l with
  | nil=>intro a;simp
  | cons x r e=>intro a;rw[List.foldl_cons,e,List.sum_cons,kP]
 unfold gu;rw[h,fO]
theorem NO(u:∀x∈vs,0≤x∧x≤5)(t:Int):0≤nv vs t∧nv vs t≤5:=by
 unfold nv;rw[az]
 cases e:vs[t.toNat]? with
 | none=>exact⟨by decide,by decide⟩
 | some x=>exact u x (cq e)
theorem Dz{α:Type}{f:α→Int}(h:∀x,0≤f x∧f x≤5):∀l:List α,0≤(l.map f).sum∧(l.map f).sum≤5*(l.length:Int)
 | []=>by simp
 | x::r=>by
  have a:=h x;have b:=Dz h r;rw[kH,List.sum_cons,gT];exact⟨eQ [f x,(fY f r).sum] 1 Y0 (.a Z0 Z1) 1 Y0 Z1 1 Y0 Z0 rfl b.1 a.1,eQ [f x,(fY f r).sum,r.length] 1 (.a Z0 Z1) (.m 5 (.a Z2 Y1)) 1 Z1 (.m 5 Z2) 1 Z0 (.k 5) rfl b.2 a.2⟩
theorem Ba{vs:List Int}(e:∀x∈vs,0≤x∧x≤5)(i:Int):0≤fM vs i∧fM vs i≤20:=by
 unfold fM;rw[mT];have h:=Dz (NO e) (th i);have l:(th i).length≤4:=bU ..;exact⟨cS [(fY (nv vs) (th i)).sum] 1 Y0 Z0 1 Y0 Z0 rfl h.1,eQ [(fY (nv vs) (th i)).sum,↑((th i).length)] 1 Z0 (.k 20) 5 Z1 (.k 4) 1 Z0 (.m 5 Z1) rfl (d9 l) h.2⟩
theorem FL(e:∀x∈vs,0≤x∧x≤5):∀i,0≤(qJ vs i).1∧(qJ vs i).1≤20
 | 0=>⟨bZ _,(by decide:(0:Int)≤20)⟩
 | i+1=>by
  unfold qJ
  split
  .exact Ba e i
  .exact FL e i
theorem wZ{vs:List Int}{i:Nat}(h:fM vs i*(gu vs+5*(qJ vs i).2) > (qJ vs i).1*(gu vs+5*((th (i:Int)).length:Int))):qJ vs (i+1)=(fM vs i,((th (i:Int)).length:Int)):=if_pos h
theorem Am{vs:List Int}{i:Nat}(h:¬(fM vs i*(gu vs+5*(qJ vs i).2) > (qJ vs i).1*(gu vs+5*((th (i:Int)).length:Int)))):qJ vs (i+1)=qJ vs i:=if_neg h
structure Ra(L:Addr)(N:Ns)(o1:Obj)(vs:List Int)(i:Nat)(m1:Lo)(n1:Ns):Prop where
 h:∃t1 t2 o2 v0,m1 (ae "most")=some (.int (qJ vs i).1 t1)∧m1 (ae "size")=some (.int (qJ vs i).2 t2)∧o2.data=.cell v0∧n1=(L+1+1,o2)::(L+1,o1)::N
theorem FK{c:Fm W0 LS}(ax:c.cl=fQ (c.L+1) LS.names []){m:Lo}{N:Ns}{o1 o2:Obj}{vt:Addr}{vv:List Value}{vs:List Int}{ep:Nat}(d1:o1.data=.cell (some (.ref vt)))(d2:o2.data=.cell none)(c2:(vt,listOf vv.toArray ep)∈N)(hv:au vv vs)(hl:vs.length=4)(b5:∀x∈vs,0≤x∧x≤5)(off:∀p∈N,@aP Nat _ p.1 c.L):
  cK c m ((c.L+1+1,o2)::(c.L+1,o1)::N) O3 (λf m' n'=>∃D t1 t2,f=.ret (.ref D)∧(∀p∈(D,dO #[.int (dc vs) t1,.int (sizeOf vs) t2])::N,p∈n')∧(∀p∈N,@aP Nat _ p.1 D)):=by
 refine yd (AJ bf bf) λv n' h=>?_;obtain ⟨D,t1,t2,rfl,rfl,_⟩:=h;refine⟨D,_,_,rfl,a8 0 rfl,cL (n':=(c.L+1+1,o2)::(c.L+1,o1)::N) ?_ λp hp=>bk 1 hp⟩;have J:ci (ci m (ae "most") (.int 0 t1)) (ae "size") (.int 0 t2) (ae "most")=some (.int 0 t1):=rfl;have H:ci (ci m (ae "most") (.int 0 t1)) (ae "size") (.int 0 t2) (ae "size")=some (.int 0 t2):=rfl;generalize ci (ci m (ae "most") (.int 0 t1)) (ae "size") (.int 0 t2)=m at J H;refine qD (a:=0) (b:=16) (k:=16) (ca:=c.L+1+1) (by rw[ax];rfl) ?hr rfl (by decide) (λI=>Ra c.L N o1 vs) ?h0 ?turn ?done
 case hr=>exact rx cO bf
 case h0=>
  intro I hI;exact⟨t1,t2,o2,none,J,H,d2,rfl⟩
 case done=>
  rintro I m1 n1 hI ⟨u1,u2,o3,v0,J,H,cA,rfl⟩;refine uI (AJ (ai J) (ai H)) ?_;intro v n' a4;refine zG a4 λD w1 w2 bm bl O=>?_;clear a4;subst bm;subst bl;refine(nW D w1 w2 rfl (λp hp=>?_) (λp hp=>O p (zT (zT hp))))
  rcases ak.mp hp with h|h
  .rw[h];exact zH
  .exact zT (zT (zT h))
 case turn=>
  rintro i t m1 n1 I oI hi hI ⟨u1,u2,o3,v0,J,H,cA,rfl⟩;have cC:@aP Nat _ (c.L+1+1) I:=hI (c.L+1+1,o2) (zH);refine(nW o3 (λo'=>(I,oI)::(c.L+1+1,o')::(c.L+1,o1)::N) v0 (.tail (jx cC) (.head ?_)) cA (λo' as=>?_))
  .intro p hp
   rcases ak.mp hp with rfl|hp
   .exact kX (aJ _)
   .exact kX (aO (off p hp) (aW (aJ _)))
  rw[fO] at as
  have mc:(c.L+1+1,o')∈(I,oI)::(c.L+1+1,o')::(c.L+1,o1)::N:=by k_extra "zmm"
  have mv:(c.L+1,o1)∈(I,oI)::(c.L+1+1,o')::(c.L+1,o1)::N:=by k_extra "zmm"
  have mt:(vt,listOf vv.toArray ep)∈(I,oI)::(c.L+1+1,o')::(c.L+1,o1)::N:=by k_extra "zmm"
  have mI:(I,oI)∈(I,oI)::(c.L+1+1,o')::(c.L+1,o1)::N:=by k_extra "zmm"
  have aj:∀p∈(c.L+1+1,o')::(c.L+1,o1)::N,p∈(I,oI)::(c.L+1+1,o')::(c.L+1,o1)::N∧p.1≠I:=λp hp=>by
   refine⟨zT hp,?_⟩
   rcases ak.mp hp with rfl|hp
   .exact kX cC
   .exact kX (hI p (zT hp))
  refine(?_:cK c m1 ((I,oI)::(c.L+1+1,o')::(c.L+1,o1)::N) (.Assign [.Name _ _] (.ListComp (.Name _ _) [⟨.Name _ _,_,[_],0⟩] _ _) _::.Assign [.Name _ _] (.Call (.Name _ _) [.ListComp _ [⟨.Name _ _,.Name _ _,[],0⟩] _ _] [] _) _::.If (.Compare _ [.Gt] [_] _) [.Assign [.Tuple _ _ _] (.Tuple [_,_] _ _) _] [] _::[]) _);generalize c3:(I,oI)::(c.L+1+1,o')::(c.L+1,o1)::N=NN at mc mv mt mI aj ⊢;refine ru (cl:=[(ae "choice",c.L+1+1)]) (P:=λv n'=>∃G B,v=.ref G∧n'=(G,bz B)::NN∧au B (th i)) rfl (jb (a:=0) (b:=4) ?hr2) ?hc1 ?k1 (by rfl) (wN ax rfl)
  case hr2=>exact rx cO bf
  case hc1=>
   intro v N2 s2 a0 i2;refine b7 a0 λe aQ=>?_;clear a0;refine BV aQ λr t2 u z br hr=>?_
   try clear aQ
   subst br;have e':=e.symm;subst e';have hS:=qC (k:=c.cx) (m:=m1) (n:=NN) hr (by decide) (by decide);refine(vu _ _ _ _ hS.p (wO (g:=bt (i:Int)) rfl hS ?_ ?_))
   .intro C E' mC n2 y t hy bh hs2
    rw[rY] at hy
    have y0:0≤y:=by simp only[ak,bT,or_false] at hy;lia
    rw[← tI y0];exact ke (qG (qE (qj (eH (a:=c.L+1+1) (o:=o') rfl (hs2 _ mc) as)) (ai bh) y0) bf)
   .intro D B hz O
    rw[rY] at hz;exact(ir D B rfl rfl hz)
  case k1=>
   intro v n' aM;refine gJ aM λG B bj bi b0=>?_;clear aM;subst bj;subst bi;have bv:(G,bz B)∈(G,bz B)::NN:=zH;have ar:B.length=(th (i:Int)).length:=b0.length;have b4:(th (i:Int)).length≤4:=bU ..;have a5:∀mm nn pos,Ev c.cx mm nn (.Name (ae "sum") pos) (.val (.builtin "sum")):=λmm nn pos=>cO;have cy:∀mm nn pos,Ev c.cx mm nn (.Name (ae "len") pos) (.val (.builtin "len")):=λmm nn pos=>cO;refine dG (Fi (P:=λv n'=>∃Hd zz,v=.ref Hd∧n'=(Hd,bz zz)::(G,bz B)::NN∧au zz ((th (i:Int)).map (nv vs))) (P':=λv n'=>(∃tt,v=.int (fM vs i) tt)∧∀p∈(G,bz B)::NN,p∈n') (a5 _ _ _) (nC (cl:=[(ae "votes",c.L+1)]) rfl (sj (iL (am (v:=.ref G) rfl))) ?hc2 (wN ax rfl)) ?hs2) ?k2
   case hc2=>
    intro v n2 s2 aD i2;refine b7 aD λc0 e2=>?_;clear aD;cases c0;subst e2;have Qt:=gB (G,bz B) mv;have cQ:=gB (G,bz B) mt;have hS:=pC i2 bv b0 (aw b4 (by decide));refine(vu _ _ _ _ hS.p (EF (f:=nv vs) rfl hS ?_ ?_))
    .intro C E' mC n3 y t hy bh cd
     have bb:=JS hy;exact fk (eH (a:=c.L+1) (o:=o1) rfl (cd _ Qt) d1) (ai bh) (cd _ cQ) hv bb.1 (by exact eQ [y,vs.length] 1 (.a Z0 Y1) Z1 1 (.a Z0 Y1) (.k 4) 1 (.k 4) Z1 rfl bb.2 (l9 hl)) (by exact cS [y] 1 (.a Z0 Y1) (.k (2 ^ 63)) 1 (.a Z0 Y1) (.k 4) rfl bb.2)
    .intro D zz hz O
     exact(ir D zz rfl rfl hz)
   case hs2=>
    intro v n2 aa;refine gJ aa λHd zz a7 a6 cU=>?_;clear aa;subst a7;subst a6;refine(EW Hd zz _ zz.length rfl (zH) cU (λt3=>⟨⟨t3,?_⟩,λp hp=>zT hp⟩));unfold fM;rw[mT]
   case k2=>
    intro v n2 Y;refine b7 Y λU cc=>?_;clear Y;refine cp U λt3 bo=>?_
    try clear U
    subst bo;refine cL ?_ cc;have cz:=Ba b5 (i:Int);have cB:=FL b5 i;have cw:(ci (ci m1 (ae "things") (.ref G)) (ae "held") (.int (fM vs i) t3)) (ae "most")=some (.int (qJ vs i).1 u1):=J;have cn:(ci (ci m1 (ae "things") (.ref G)) (ae "held") (.int (fM vs i) t3)) (ae "size")=some (.int (qJ vs i).2 u2):=H;have cM:(vt,listOf vv.toArray ep)∈(G,bz B)::NN:=zT mt;have cD:(c.L+1,o1)∈(G,bz B)::NN:=zT mv;have b6:=λmm pos ah ab=>Ly (pos:=pos) (a5 mm _ ab) (eH (k:=c.cx) (m:=mm) (x:=ae "votes") (pos:=ah) (by refine(?_:c.cl.lookup _=_);rw[ax];rfl) cD d1) cM hv;have O:=λmm pos ah ab (c1:mm (ae "things")=some (.ref G))=>qF (pos:=pos) (cy mm _ ab) (am (k:=c.cx) (pos:=ah) c1) bv (by rw[ar];exact rZ b4 (bR true));refine dz (eD qk (kh (ai rfl) (ec (b6 _ _ _ _) (kh bf (ai cn) (fL (by decide)))) (fL (by exact Ma (cS [fM vs (i:Int)] 1 Y0 Z0 1 Y0 Z0 rfl cz.1) (cS [fM vs (i:Int)] 1 (.a Z0 Y1) (.k 1048576) 1 Z0 (.k 20) rfl cz.2)))) (kh (ai cw) (ec (b6 _ _ _ _) (kh bf (O _ _ _ _ rfl) (fL (by decide)))) (fL (by exact Ma (cS [(qJ vs i).fst] 1 Y0 Z0 1 Y0 Z0 rfl cB.1) (cS [(qJ vs i).fst] 1 (.a Z0 Y1) (.k 1048576) 1 Z0 (.k 20) rfl cB.2))))) ?ht ?he
    case ht=>
     intro hb
     have ap:fM vs i*(gu vs+5*(qJ vs i).2) > (qJ vs i).1*(gu vs+5*((th (i:Int)).length:Int)):=by
      rw[mT,← ar];exact of_decide_eq_true hb
     refine sh (ai rfl) (O _ _ _ _ rfl) λw1 w2=>?_;refine bQ (b9 ⟨zT mI,(c.L+1+1,o')::(c.L+1,o1)::N,λp hp=>⟨zT (aj p hp).1,(aj p hp).2⟩,w1,w2,o',_,?_,?_,as,rfl⟩)
     .refine(?_:some (fn (fM vs i) w1)=some (fn (qJ vs (i+1)).1 w1))
      rw[wZ ap]
     .refine(?_:some (fn (B.length:Nat) w2)=some (fn (qJ vs (i+1)).2 w2))
      rw[wZ ap,ar]
    case he=>
     intro hb
     have ap:¬(fM vs i*(gu vs+5*(qJ vs i).2) > (qJ vs i).1*(gu vs+5*((th (i:Int)).length:Int))):=by
      rw[mT,← ar];exact of_decide_eq_false hb
     refine bQ (b9 ⟨zT mI,(c.L+1+1,o')::(c.L+1,o1)::N,λp hp=>⟨zT (aj p hp).1,(aj p hp).2⟩,u1,u2,o',_,?_,?_,as,rfl⟩)
     .refine cw.trans ?_
      rw[Am ap]
     .refine cn.trans ?_
      rw[Am ap]
theorem LR{n:Ns}{vt:Addr}{vv:List Value}{vs:List Int}{ep:Nat}(e:(vt,listOf vv.toArray ep)∈n)(hv:au vv vs)(hl:vs.length=4)(u:∀x∈vs,0≤x∧x≤5):fg W0 357 [.ref vt] n 9 100 (λv n'=>∃D t1 t2,v=.ref D∧(∀p∈(D,dO #[.int (dc vs) t1,.int (sizeOf vs) t2])::n,p∈n')∧(∀p∈n,@aP Nat _ p.1 D)):=
 tH (body:=O3) (scope:=LS) (binds:=[("votes",.ref vt)]) (by with_unfolding_all rfl) (by with_unfolding_all rfl) (λs X=>dB rfl) rfl (by decide +kernel) rfl rfl rfl λc m B hd hu z Y off _=>by
  obtain ⟨o2,o1,rfl,e2,e1⟩:=JD (n:=ae "choice") (c:=c.L+1+1) (n':=ae "votes") (c':=c.L+1) Y
  exact kZ (FK z e1 e2 e hv hl u off) λf m' n' h=>by
   obtain ⟨D,t1,t2,rfl,h⟩:=h;exact⟨n',⟨D,t1,t2,rfl,h⟩,λ_ h=>h⟩
end
section
open W PyProof Rows
open PyProof.Rows.LCg
theorem Ol(hc:LawC c)
  (B:o5.data=.cell (some (.ref vt))) (u:(vt,bz vv)∈n0) (hv:au vv vs) (hl:vs.length=4) (z:∀x∈vs,0≤x∧x≤5)
  (e:∀(t1 t2:Tok),cK c (ci (ci m (ae "most") (.int (dc vs) t1)) (ae "size") (.int (sizeOf vs) t2)) (bL c.L o1 o2 o3 o4 o5 ps qs++n0) rest R):
  cK c m (bL c.L o1 o2 o3 o4 o5 ps qs++n0) (bp 8::rest) R:=by
 refine yd (Fq (LR (zR u) hv hl z) fT (eH (a:=c.L+1+1+1+1+1) (o:=o5) (by refine(?_:c.cl.lookup _=_);rw[hc.cl];rfl) (zL (a8 0 rfl)) B) (by with_unfolding_all rfl) (aK (bq (by decide) _) hc.hd) (aK (bq (by decide) _) hc.hu)) λv n' h=>?_;obtain ⟨D,t1,t2,rfl,hs,_⟩:=h;exact⟨D,_,_,rfl,hs _ (a8 0 rfl),cL (e t1 t2) λp h=>hs p (bk 1 h)⟩
theorem PX(hl:@aP Nat _ 366 L)(u:b8 L n0):
  xh (L+1+1+1) o3 (bL L o1 o2 o3 o4 o5 ps qs++n0) (λo'=>bL L o1 o2 o' o4 o5 ps qs++n0):=by
 refine BX u.all λU O z J H G B=>?_;refine .tail (jx (aW (aJ _))) (.tail (jx (aJ _)) (.head ?_));intro p hp;have e:p∈(L+1+1,o2)::(L+1,o1)::(364,bS ps)::(256,bS qs)::n0:=hp;simp only[ak] at e
 rcases e with rfl|rfl|rfl|rfl|hp
 .exact kX (aJ _)
 .exact kX (aW (aJ _))
 .exact kX (aO (aO (by decide:(364:Nat)<366) hl) (aN (aJ _) (bx (L+1) 2)))
 .exact kX (aO (aO (by decide:(256:Nat)<366) hl) (aN (aJ _) (bx (L+1) 2)))
 .exact z p hp
theorem A3{c:Fm W0 lawS}(e:Lo)(nn:Ns)(pos:Pos):Ev c.cx e nn (.Name (ae "len") pos) (.val (.builtin "len")):=cO
theorem Fk{cs:Scope}{c:Fm W0 cs}{m:Lo}{n:Ns}{u e:PE}{z:Pos}{l:Addr}{vs:List Value}{ep:Nat}(hl:Ev c.cx m n u (.val (.type "list")))(he:Ev c.cx m n e (.val (.ref l)))(hm:(l,listOf vs.toArray ep)∈n)(hz:vs.length≤1000)
  (c1:autoParam (CC c.env u [e] z) zAa) (s1:autoParam (SE c.env e []) zAa):
  Er c.cx m n (.Call u [e] [] z) (λv n'=>∃D er,v=.ref D∧n'=(D,listOf vs.toArray er)::n∧∀p∈n,@aP Nat _ p.1 D):=
 ⟨λQ s hi hQ=>gq (hl.run _ s hi λv z1 G i1=>by
  cases G;refine callWith_type1 (aI (he.run _ z1 i1 λv z2 d2 i2=>bJ ?_) s1) s1;cases d2
  exact list_copyK i2.at.1 i2.at.2 (cZ _ ((i2.at.2 _ hm).1) rfl ⟨ep,rfl⟩) (λD er h' J H B=>hQ _ _ _ ⟨D,er,rfl,rfl,B⟩ (i2.to J H)) (by rw[aV];exact aw hz (by decide))) c1⟩
theorem Ok{c:Fm W0 lawS}{m:Lo}{n0:Ns}{R:Re}{rest:List Stmt}(hc:LawC c){o1 o2 o3 o4 o5:Obj}{ps qs:Array Value}{wa:Addr}{wv:List Value}{ew:Nat}{sz:Int}{Y:Tok}(J:b8 c.L n0)
  (d3:o3.data=.cell none) (H:(wa,listOf wv.toArray ew)∈n0) (G:wv.length≤1000) (hm:m (ae "wishes")=some (.ref wa)) (U:m (ae "size")=some (.int sz Y))
  (z:∀(o:Obj) (tb:Tok),o.data=.cell (some (.int ((wv.length:Nat)+5*sz) tb))→cK c m (bL c.L o1 o2 o o4 o5 ps qs++n0) rest R):
  cK c m (bL c.L o1 o2 o3 o4 o5 ps qs++n0) (bp 9::rest) R:=by
 refine pF (a:=c.L+1+1+1) (iL (ec (qF (A3 _ _ _) (am hm) (zR H) G) (kh bf (ai U) (fL (by decide))))) (by rw[hc.cl];rfl) λv n' hv=>?_;refine b7 hv λe u=>?_
 try clear hv
 refine cp e λtb B=>?_
 try clear e
 subst B;subst u;exact(nW o3 _ none (PX hc.lo J) d3 (λo' O=>z o' tb O))
theorem K3{c:Fm W0 lawS}{m:Lo}{n:Ns}{R:Re}{rest:List Stmt}{sa:Addr}{sv:List Value}{es:Nat}
  (z:(sa,listOf sv.toArray es)∈n) (u:sv.length≤1000) (hm:m (ae "sets")=some (.ref sa))
  (e:∀(rl:Addr) (er:Nat),(∀p∈n,@aP Nat _ p.1 rl)→cK c (ci m (ae "rows") (.ref rl)) ((rl,listOf sv.toArray er)::n) rest R):
  cK c m n (bp 10::rest) R:=by
 refine dG (Fk cO (am hm) z u) λv n' h=>?_;obtain ⟨D,er,rfl,rfl,l⟩:=h;exact e D er l
theorem Fd(h:Ev k m n e (.int i)):Ev k m n (.UnaryOp .USub e pos) (.int (-i)):=
 ⟨λQ s hi hq=>wpAny_UnaryOp (h.run _ s hi λv s1 hv i1=>by
  refine cp hv λt u=>?_
  try clear hv
  subst u
  exact neg_int (hq _ _ ⟨_,rfl⟩ i1.toks))⟩
theorem LB{cs:Scope}{c:Fm W0 cs}{m:Lo}{n:Ns}{u e:PE}{pos p:Pos}{l:Addr}{vs:List Value}{xs:List Int}{ep:Nat}(hv:Ev c.cx m n u (.val (.ref l)))(he:Ev c.cx m n e (.int (-1)))(hm:(l,listOf vs.toArray ep)∈n)(H:au vs xs)(hz:vs.length≤1000)
  (hs:autoParam (∀(d:Addr),j4 (.Slice none none (some e) p) false (.ref l) (.ref d)=tQ [.ref l,.ref d] (pP (.ref l) (.ref d))) zAe) (ht:autoParam (∀r,eU u (.ref l) r=ck ()) zAe):
  Er c.cx m n (.Subscript u (.Slice none none (some e) p) pos) (λv n'=>∃D ws,v=.ref D∧n'=(D,listOf (bO ws) 0)::n∧au ws xs.reverse∧∀q∈n,@aP Nat _ q.1 D):=
 ⟨λQ s hi hq=>og (hv.run _ s hi λo s1 ho i1=>by
  cases ho;refine y7 (ag (ag (he.run _ s1 i1 λY B J i3=>?_)));obtain ⟨t,rfl⟩:=J
  exact krv_ints i3.at.1 i3.at.2 (cZ _ (i3.get hm) rfl ⟨ep,rfl⟩) (.int _ _) H (λD ws h' U O G z _=>hq _ _ _ (se D ws rfl rfl z G) (i3.to (tk:=B.toks) U O)) (hs _) ht (by rw[aV];exact aw hz (by decide)))⟩
theorem K2{c:Fm W0 lawS}{m:Lo}{n:Ns}{R:Re}{rest:List Stmt}{wa rl:Addr}{wv H:List Value}{ew er:Nat}{B:List Int}
  (U:(wa,listOf wv.toArray ew)∈n) (u:au wv B) (O:B.length≤32) (ab:H.length≤100) (off:∀p∈n,p.1≠rl) (hm:m (ae "wishes")=some (.ref wa)) (ah:m (ae "rows")=some (.ref rl))
  (z:∀(G:List Value) (er2:Nat) (ex:Ns),((B.length≤3∧G=H∧ex=[])∨(3<B.length∧∃wr J e,G=H++[.ref wr]∧ex=[(wr,listOf J.toArray e)]∧au J B.reverse∧(∀p∈n,@aP Nat _ p.1 wr)∧@aP Nat _ rl wr))→cK c m ((rl,listOf G.toArray er2)::(ex++n)) rest R):
  cK c m ((rl,listOf H.toArray er)::n) (bp 11::rest) R:=by
 refine dz (eD qk (qF (A3 _ _ _) (am hm) (zT U) (by rw[u.length];exact rZ O (bR true))) bf) ?h1 ?h2
 case h2=>
  intro hb;have:=of_decide_eq_false hb;refine bQ (z H er [] (.inl (eR ?_ rfl rfl)));rw[u.length] at this;exact nV (cS [B.length] 1 Z0 (.k 3) 1 Z0 (.k 3) rfl (PC this))
 case h1=>
  intro hb;have Y:=of_decide_eq_true hb;rw[u.length] at Y;refine gM (vs:=H) (am ah) (zH) (LB (am hm) (Fd bf) (zT U) u (by rw[u.length];exact rZ O (bR true))) (aw ab (by decide)) λv n' h=>?_;obtain ⟨D,ws,rfl,rfl,aa,l3⟩:=h;have l4:=l3 _ (zH);refine⟨_,.tail (aF l4) (.head off),bQ (cL (z (H++[bF D]) (er+1) [(D,listOf ws.toArray 0)] (.inr ⟨ltN (cS [B.length] 1 (.a (.k 3) Y1) Z0 1 (.a (.k 3) Y1) Z0 rfl Y),D,ws,0,rfl,rfl,aa,λp hp=>l3 p (zT hp),l4⟩)) (iz [1,0] 2 rfl))⟩
end
section
open W PyProof Rows
section
variable {prog:Program}{w:World}{A:Around}{E:VP}{s:Shared}{env:Env}{h₀:Heap}{L D:Addr}{m:Lo}{news:Ns}
theorem AE:∀{own:Ns}{l e:Ns},(∀p∈own,p.1≠d)→Upd d o o' l e→Upd d o o' (own++l) (own++e)
 | [],_,_,_,h=>h
 | _::_,_,_,h,u=>.tail (h _ (zH)) (AE (λp hp=>h p (zT hp)) u)
theorem QL(b:Int):0≤b.fmod 16∧b.fmod 16<16:=by rw[nq _ (by decide)];lia
theorem Ln(b:Int):1≤1+b.fmod 15∧1+b.fmod 15<16:=by rw[nq _ (by decide)];lia
theorem Su(b:Int):0≤b.fmod 5∧b.fmod 5<5:=by rw[nq _ (by decide)];lia
end
end
section
open W PyProof Rows Spec PySem.Calls
noncomputable abbrev two(x y:Sr)(px py:Pos)(it0 it1 ct:PE):List Comprehension:=[⟨.Name x px,it0,[],0⟩,⟨.Name y py,it1,[ct],0⟩]
section
variable {prog:Program}{w:World}{A:Around}{R:Result→Shared→Prop}{s:Shared}{elt it0 it1 ct:PE}{x y:Sr}{px py pos:Pos}{scope:Scope}{env:Env}{it acc:Value}
theorem G8:Ms (.ListComp elt (two x y px py it0 it1 ct) scope pos) 1 it acc env=(do
   f8 it1.pos
   match ← ky it with
   | none=>ck (.done .next)
   | some v=>
    rN (.Name y py) it v
    de (.Name y py) env v
    let mut ok:=true
    for c in [ct] do
     if ok then ok ← isTrue c env (eval c env)
    if ok then
     (do let _ ← call (.builtin "list.append") [acc,← eval elt env])
    Mv (.compLoop (.ListComp elt (two x y px py it0 it1 ct) scope pos) 1 it acc env)):=by rfl
theorem HF(I:Nat→Shared→Prop)
  (turn:∀n s,I n s→ay (aq prog w) A (ky it) (λr s₁=>match r with
   | none=>R (.ok .next) s₁
   | some v=>ay (aq prog w) A (de (.Name y py) env v) (λ_ s₂=>
     ay (aq prog w) A (GQ [ct] true λc r=>if r=true then do let ok ← isTrue c env (eval c env);ck (nP ok) else ck (nP r)) (λok s₃=>
      if ok=true then ay (aq prog w) A (eval elt env) (λx u=>
       ay (aq prog w) A (call (.builtin "list.append") [acc,x]) (λ_ s₅=>∃m,m<n∧I m s₅) (jI (aq prog w) A env λe s'=>R (.error e) s') u) (jI (aq prog w) A env λe s'=>R (.error e) s') s₃
      else ∃m,m<n∧I m s₃) (jI (aq prog w) A env λe s'=>R (.error e) s') s₂) (jI (aq prog w) A env λe s'=>R (.error e) s') s₁) (jI (aq prog w) A env λe s'=>R (.error e) s') s)
  (n:Nat) (h:I n s):
  dH (aq prog w) A (.compLoop (.ListComp elt (two x y px py it0 it1 ct) scope pos) 1 it acc env) R s:=by
 refine codeAny_loop rfl I (λn s O=>?_) n h;refine(?_:ay _ A ((Ms (.ListComp elt (two x y px py it0 it1 ct) scope pos) 1 it acc env).onRaise (λx=>do yP x env;theTreesLotGoes x)) _ _ s);refine wpAny_noted ?_;rw[G8];refine af (gW (af (cg (turn n s O) (λr s₁ B=>?_) λ_ _ h'=>h')))
 cases r with
 | none=>exact ag B
 | some v=>
  refine af (bN (a:=()) (by rfl) ?_);refine af (cg B (λ_ s₂ J=>af (cg J (λok s₃ z=>?_) λ_ _ h'=>h')) λ_ _ h'=>h')
  cases ok with
  | false=>exact ag ⟨rfl,z⟩
  | true=>
   exact af (af (cg z (λx u H=>af (cg H (λ_ s₅ G=>ag (ag ⟨rfl,G⟩)) λ_ _ h'=>h')) λ_ _ h'=>h'))
theorem DA(h0:dH (aq prog w) A (.compLoop (.ListComp elt (two x y px py it0 it1 ct) scope pos) 1 it acc env) R s)
  (h:ay (aq prog w) A (rH it) (λe s'=>dH (aq prog w) A (.compLoop (.ListComp elt (two x y px py it0 it1 ct) scope pos) 1 e acc env) R s')
   (jI (aq prog w) A env λx s'=>R (.error x) s') s):
  dH (aq prog w) A (.compStart (.ListComp elt (two x y px py it0 it1 ct) scope pos) 1 it acc env) R s:=by
 refine Aw ?_;refine(?_:ay _ _ ((compStart (.ListComp elt (two x y px py it0 it1 ct) scope pos) 1 it acc env).onRaise (λx=>do yP x env;f8 theWindowsPlace)) _ _ s);refine wpAny_notedAt ?_;unfold compStart;refine(?_:ay _ _ (ask >>= _) _ _ s);refine af (qN (wpAny_ite ?_))
 split
 .first
   | exact af (ag (ag (And.intro rfl h0)))
   | exact ag (And.intro rfl h0)
 .first
   | exact af (gv (af (gW (af (cg h (λe s' h'=>ag (And.intro rfl h')) λ_ _ x=>x)))))
   | (refine af (gv ?_);refine(?_:ay _ _ (f8 it1.pos >>= _) _ _ s);exact af (gW (af (cg h (λe s' h'=>ag (And.intro rfl h')) λ_ _ x=>x))))
theorem Ha:Ms (.ListComp elt (two x y px py it0 it1 ct) scope pos) 0 it acc env=(do
   f8 it0.pos
   match ← ky it with
   | none=>ck (.done .next)
   | some v=>
    rN (.Name x px) it v
    de (.Name x px) env v
    let z ← eval it1 env
    f8 it1.pos
    let z ← bW it1 env z
    let _ ← runOwn (.compStart (.ListComp elt (two x y px py it0 it1 ct) scope pos) 1 (← gm [z] (rH z)) acc env) env
    Mv (.compLoop (.ListComp elt (two x y px py it0 it1 ct) scope pos) 0 it acc env)):=by rfl
theorem HG(I:Nat→Shared→Prop)(hs:∀z,bW it1 env z=ck z)
  (turn:∀n s,I n s→ay (aq prog w) A (ky it) (λr s₁=>match r with
   | none=>R (.ok .next) s₁
   | some v=>ay (aq prog w) A (de (.Name x px) env v) (λ_ s₂=>
     ay (aq prog w) A (eval it1 env) (λz s₃=>ay (aq prog w) A (rH z) (λi1 B=>
      dH (aq prog w) A (.compStart (.ListComp elt (two x y px py it0 it1 ct) scope pos) 1 i1 acc env) (λr s₅=>r=.ok .next∧∃m,m<n∧I m s₅) B)
       (jI (aq prog w) A env λe s'=>R (.error e) s') s₃) (jI (aq prog w) A env λe s'=>R (.error e) s') s₂) (jI (aq prog w) A env λe s'=>R (.error e) s') s₁) (jI (aq prog w) A env λe s'=>R (.error e) s') s)
  (n:Nat) (h:I n s):
  dH (aq prog w) A (.compLoop (.ListComp elt (two x y px py it0 it1 ct) scope pos) 0 it acc env) R s:=by
 refine codeAny_loop rfl I (λn s U=>?_) n h;refine(?_:ay _ A ((Ms (.ListComp elt (two x y px py it0 it1 ct) scope pos) 0 it acc env).onRaise (λx=>do yP x env;theTreesLotGoes x)) _ _ s);refine wpAny_noted ?_;rw[Ha];refine af (gW (af (cg (turn n s U) (λr s₁ G=>?_) λ_ _ h'=>h')))
 cases r with
 | none=>exact ag G
 | some v=>
  refine af (bN (a:=()) (by rfl) ?_);refine af (cg G (λ_ s₂ O=>af (cg O (λz s₃ J=>af (gW (af (bN (hs z) (af (bA (cg J (λi1 B H=>?_) λ_ _ h'=>h'))))))) λ_ _ h'=>h')) λ_ _ h'=>h');refine af (wpAny_runOwn ?_);refine xd (H:dH (aq prog w) A _ _ _) λr s₅ u=>?_;obtain ⟨rfl,u⟩:=u;exact ag ⟨rfl,u⟩
end
end
section
open W PyProof Rows Spec PySem.Calls LCg
noncomputable def sC(tb:Nat→Nat→Bool)(el:Nat→Nat→Int)(i j:Nat):List Int:=((aU j).filter (tb i)).map (el i)
noncomputable def jB(tb:Nat→Nat→Bool)(el:Nat→Nat→Int)(n1 i:Nat):List Int:=(aU i).flatMap λi=>sC tb el i n1
theorem oO{tb:Nat→Nat→Bool} : sC tb el i (j+1)=if tb i j=true then sC tb el i j++[el i j] else sC tb el i j:=by
 unfold sC;rw[gx,cH,aX];cases h:tb i j<;>simp [h]
theorem jQ{tb:Nat→Nat→Bool} : jB tb el n1 (i+1)=jB tb el n1 i++sC tb el i n1:=by
 unfold jB;rw[gx,List.flatMap_append];simp
end
section
open W PyProof Rows Spec PySem.Calls Rows.LCg
section
variable {cs:Scope}{c:Fm W0 cs}{sc:Scope}{k:Cx c sc}{m:Lo}{n:Ns}
inductive Q3(n:Ns)(D:Addr)(tb:Nat→Nat→Bool)(el:Nat→Nat→Int)(n1 i:Nat):Ns→Prop
 | mk (ys:List Value) (h:au ys (jB tb el n1 i)) (hl:ys.length≤i*n1):Q3 n D tb el n1 i ((D,bz ys)::n)
structure RK(x:Str)(tx:Tok)(tb:Nat→Nat→Bool)(el:Nat→Nat→Int)(n1 i j:Nat)(N:Ns)(m:Lo)(out:List Value)(n:Ns):Prop where
 x:m x=some (.int i tx)
 h:au out (jB tb el n1 i++sC tb el i j)
 hl:out.length≤i*n1+j
 n:n=N
structure Mk(k:Cx c sc)(m:Lo)(n:Ns)(elt it1 ct:PE)(x y:Str)(scope:Scope)(cl:List (Str×Addr))(hkind:scope.kind=.function)(n0 n1:Nat)(tb:Nat→Nat→Bool)(el:Nat→Nat→Int):Prop where
 r:∀C EE mC N,IS (k.comp m scope cl C EE hkind) mC N it1 0 n1
 t:∀C EE mC N i j tx ty,i<n0→j<n1→mC x=some (.int i tx)→mC y=some (.int j ty)→(∀p∈n,p∈N)→Tw (k.comp m scope cl C EE hkind) mC N ct (eval ct (k.comp m scope cl C EE hkind).env) (tb i j)
 e:∀C EE mC N i j tx ty,mC x=some (.int i tx)→mC y=some (.int j ty)→Ev (k.comp m scope cl C EE hkind) mC N elt (.int (el i j))
 xy:x≠y
 x:scope.names.lookup x=some .local
 y:scope.names.lookup y=some .local
 sz:n0*n1≤dY
 sm:dL 0 (n1:Int) 1=true
variable {elt it1 ct:PE}{x y:Str}{px py:Pos}{scope:Scope}{cl:List (Str×Addr)}{hkind:scope.kind=.function}{n0 n1 i:Nat}{tb:Nat→Nat→Bool}{el:Nat→Nat→Int}
theorem JM{cd:sR}{Z:Shared→Prop}{EE:VP}{C D I u:Addr}{fp:List Addr}{St:Nat→Heap→Prop}{oI z:Obj}{s:Shared}{ys:List Value}{mC:Lo}{tx:Tok}(H:Mk k m n elt it1 ct x y scope cl hkind n0 n1 tb el)(W:y9 P0 W0 c.A u fp [u] n1 (λj v=>∃t,v=.int (j:Int) t) St)(hex:∀i h,St i h→∃o,h.get? u=some o)(ah:∀b∈fp,b=u∨∃o,(b,o)∈([]:Ns))(hi:i<n0)(hI:u∉k.exA++[C])(hD:D∉k.exA++[C])(hC:C∉k.exA)(O:u≠D)(U:u≠C)(J:D≠C)(o1:∀p∈(I,oI)::n,p.1≠u)(oD:∀p∈(I,oI)::n,p.1≠D)(oC:∀p∈(I,oI)::n,p.1≠C)
  (hl:∀V:Nat→Shared→Prop,(∀r s,V r s→ay (aq P0 W0) c.A (ky (.ref u)) (λy' s₁=>match y' with|none=>(λr s₅=>r=.ok .next∧Z s₅) (.ok .next:Result) s₁|some v=>ay (aq P0 W0) c.A (de (.Name y py) (k.comp m scope cl C EE hkind).env v) (λ_ s₂=>TL (k.comp m scope cl C EE hkind) elt [ct] D (λs₅=>∃q,q<r∧V q s₅) s₂) (k.comp m scope cl C EE hkind).E s₁) (k.comp m scope cl C EE hkind).E s)→∀r,V r s→dH (aq P0 W0) c.A cd (λr s₅=>r=.ok .next∧Z s₅) s)
  (hz:∀mC ys s,au ys (jB tb el n1 (i+1))→ys.length≤(i+1)*n1→(k.comp m scope cl C EE hkind).Is mC ((I,oI)::(D,bz ys)::n) s→Z s) (G:mC x=some (.int i tx)) (aa:au ys (jB tb el n1 i)) (ab:ys.length≤i*n1)
  (hs:(k.comp m scope cl C EE hkind).Is mC ((u,z)::(I,oI)::(D,bz ys)::n) s) (st:St 0 s.heap):dH (aq P0 W0) c.A cd (λr s₅=>r=.ok .next∧Z s₅) s:=
 Al (k:=k.comp m scope cl C EE hkind) W hex ah hI hD O (λj m out n'=>RK x tx tb el n1 i j ((I,oI)::n) m out n') (λj v m out n'=>RK x tx tb el n1 i j ((I,oI)::n) m out n'∧m y=some v)
  (λj m out n' y=>by
   cases y.n
   exact⟨(λ_ h=>nomatch h),λB=>aw y.hl (aw (bq (aL B) _) (aw (by rw[← Nat.succ_mul];exact lg n1 hi) H.sz)),o1,oD⟩)
  hl
  (λj v out z m n' s Z y i hz=>by
   cases y.n
   exact zU i H.y (FC U (FC J oC)) hC λs5 i5=>hz _ _ s5 ⟨⟨(if_neg H.xy).trans y.x,y.h,y.hl,rfl⟩,if_pos rfl⟩ i5)
  (λj v out z m n' B hv y=>by
   obtain ⟨⟨G,h,hl,e⟩,hy⟩:=y;cases e;obtain ⟨ty,rfl⟩:=hv;have T:=H.t C EE m ((u,z)::(D,bz out)::(I,oI)::n) i j tx ty hi B G hy λp hp=>zT (zT (zT hp));refine⟨tb i j,wE T,λe Q s Y hq=>(H.e C EE m _ i j tx ty G hy).run Q s Y λv s' hv i'=>?_,λe=>⟨G,by rw[oO,e];exact h,aw hl (Nat.le_succ _),rfl⟩⟩;obtain ⟨t,rfl⟩:=hv
   exact hq _ _ _ _ (iz [1,0] 2 rfl) ⟨G,by rw[oO,if_pos e,← jM];exact h.append (.cons _ _ .nil),by rw[aT];exact gY hl,rfl⟩ i')
  (λm out n' s y Y=>by
   cases y.n
   exact⟨rfl,hz m out s (by rw[jQ];exact y.h) (by rw[Nat.succ_mul];exact y.hl) (Y.sub (iz [1,0] 2 rfl))⟩)
  ⟨G,by refine(?_:au ys (_++[]));rw[im];exact aa,ab,rfl⟩ (hs.sub (iz [0,2,1] 3 rfl)) st
noncomputable abbrev TO(k:Cx c sc)(it1:PE)(cd:Value→sR):(Shared→Prop)→Shared→Prop:=λZ s=>ay (aq P0 W0) c.A (eval it1 k.env) (λz s₃=>ay (aq P0 W0) c.A (rH z) (λi1 s₄=>dH (aq P0 W0) c.A (cd i1) (λr s₅=>r=.ok .next∧Z s₅) s₄) k.E s₃) k.E s
theorem GY{it0:PE}{pos:Pos}{cd:sR}{R:Result→Shared→Prop}{EE:VP}{I:Addr}{fp:List Addr}{St:Nat→Heap→Prop}{oI:Obj}{s:Shared}(H:Mk k m n elt it1 ct x y scope cl hkind n0 n1 tb el)(W:y9 P0 W0 c.A I fp [I] n0 (λj v=>∃t,v=.int (j:Int) t) St)(hex:∀i h,St i h→∃o,h.get? I=some o)(as:∀b∈fp,b=I∨∃o,(b,o)∈([]:Ns))(lt:∀p∈n,@aP Nat _ p.1 I)(z:∀a∈k.exA,@aP Nat _ a I)
  (hl:∀V:Nat→Shared→Prop,(∀r s,V r s→ay (aq P0 W0) c.A (ky (.ref I)) (λy' s₁=>match y' with|none=>R (.ok .next) s₁|some v=>ay (aq P0 W0) c.A (de (.Name x px) (k.comp m scope cl (I+2) EE hkind).env v) (λ_ s₂=>TO (k.comp m scope cl (I+2) EE hkind) it1 (λi1=>.compStart (.ListComp elt (two x y px py it0 it1 ct) scope pos) 1 i1 (.ref (I+1)) (fj scope cl (I+2) k.env)) (λs₅=>∃q,q<r∧V q s₅) s₂) (k.comp m scope cl (I+2) EE hkind).E s₁) (k.comp m scope cl (I+2) EE hkind).E s)→∀r,V r s→dH (aq P0 W0) c.A cd R s)
  (fin:∀ys s mC,au ys (jB tb el n1 n0)→(k.comp m scope cl (I+2) EE hkind).Is mC ((I+1,bz ys)::n) s→R (.ok .next) s)
  (hi:(k.comp m scope cl (I+2) EE hkind).Is (λ_=>none) ((I,oI)::(I+1,bz [])::n) s) (st:St 0 s.heap):dH (aq P0 W0) c.A cd R s:=
 Jo W hex as (Kw z) (λi _ n'=>Q3 n (I+1) tb el n1 i n') (λj m n' y=>by
  obtain ⟨ys,_,_⟩:=y
  exact⟨(λ_ h=>nomatch h),FC (Ne.symm MO) λp hp=>aB (lt p hp)⟩) hl (λi v oI mC n' s Z ar hv y i5 hz=>by
  obtain ⟨ys,B,aj⟩:=y;obtain ⟨tx,rfl⟩:=hv;refine zU i5 H.x (FC (Ne.symm NU) (FC (Ne.symm Jg) λp hp=>MS (lt p hp))) (xW z) λs5 i5=>(H.r _ EE _ _).run _ s5 i5 λr t u v s6 i6 ap=>(jA (k:=k.comp m scope cl (I+2) EE hkind) ap H.sm).run _ λI1 ah h7 ab aM aQ W1 U aa Y aD ax G O=>?_;have J:=i6.lt;rw[← Y] at J;have i7:=i6.grow (tk:=ab) (new:=[(I1,ah)]) aa (FC ⟨ax,fu Y.symm⟩ FN);have lC:@aP Nat _ (I+2) I1:=J.2 _ (zR (aA.mpr rfl));have main:=JM (cd:=.compLoop (.ListComp elt (two x y px py it0 it1 ct) scope pos) 1 (.ref I1) (.ref (I+1)) (fj scope cl (I+2) k.env)) (Z:=Z) (EE:=jI (aq P0 W0) c.A (fj scope cl (I+2) k.env) λe s'=>(Except.error e:Result)=.ok .next∧Z s') (py:=py) H W1 U O ar (λh=>c8 I1 (J.2 _ h)) (Kx z) (xW z) (aF (aO (aJ _) lC)) (aF lC) (Ne.symm Jg) (FC (aB (J.1 _ (zH))) λp hp=>aB (J.1 p (zT (zT hp)))) (FC MO λp hp=>PO (lt p hp)) (FC (Ne.symm NU) λp hp=>MS (lt p hp)) (λV hV r=>HF V hV r) (λmC ys s h hl i=>hz _ _ s (.mk ys h hl) i) (if_pos rfl) B aj i7 G
  exact DA main (W1.self 0 _ _ _ G main)) (λmC n' s y i9=>by
  obtain ⟨ys,B,_⟩:=y
  exact fin ys s mC B i9) (Q3.mk (tb:=tb) (el:=el) (n1:=n1) (i:=0) [] (.nil:au [] []) (c7 _)) hi st
theorem Fs{it0:PE}{pos:Pos}(H:Mk k m n elt it1 ct x y scope cl hkind n0 n1 tb el)(he:IS k m n it0 0 n0)(U:dL 0 (n0:Int) 1=true)
  (G:autoParam (fy scope k.env=ck cl) zAa) (J:autoParam (∀y∈scope.names,y.2≠.cell) zAd) (B:autoParam (∀y∈scope.names,y.2=.local→scope.names.lookup y.1=some .local) zAd) (hs:autoParam (∀z,bW it0 k.env z=ck z) zAb) (ab:autoParam (∀C z,bW it1 (fj scope cl C k.env) z=ck z) zAh):
  Er k m n (.ListComp elt (two x y px py it0 it1 ct) scope pos) (λv n'=>∃D ys,v=.ref D∧n'=(D,bz ys)::n∧au ys (jB tb el n1 n0)∧∀p∈n,@aP Nat _ p.1 D):=by
 refine⟨λQ s hi hq=>?_⟩;rw[Gl];refine Ak (cl':=λ_=>cl) (own:=λ_=>[]) hi hkind (jb he) (λz=>O0 J hkind) (λv n2 s1 hp i1=>?_) G B hs;obtain ⟨rfl,r,t,u,z,rfl,hr⟩:=hp
 exact⟨n0,_,_,jA hr U,λI oI fp St s W hex ah lt O hi st=>GY (EE:=jI (aq P0 W0) c.A (fj scope cl (I+2) k.env) λe s'=>sQ (aq P0 W0) c.A k.E none Q (.ref (I+1)) (I+2) (.error e) s') H W hex ah lt O (λV hV r=>HG V (ab _) hV r) (λys s mC Y i9=>by
  obtain ⟨oC,hC,i⟩:=i9
  exact⟨mC,hC.ns (i.get (zH)),λh5 aa=>hq _ _ _ ⟨I+1,ys,rfl,rfl,Y,λp hp=>aW (lt p hp)⟩ (i.drop (tk:=s.toks) (λb ob hb e=>aa.extBut _ _ (λq=>hb (q▸zH)) e) (FC (Ne.symm Jg) λp hp=>MS (lt p hp)) (xW O))⟩) hi st⟩
end
end
section
open W PyProof Rows PySem.Calls
noncomputable def zl(bs:List Int)(i j:Nat):Bool:=gc ((bs.getD j 0).fdiv (2 ^ i)) 1 != 0
theorem AC(hb:(bl,listOf va.toArray ep)∈n)(hi:au va bs)(hl:bs.length=5):fg W0 352 [.ref bl] n 9 100 (λv n'=>∃D o,v=.ref D∧(∃ys,o=bz ys∧au ys (jB (zl bs) (λi j=>5*(i:Int)+(j:Int)) 5 4))∧n'=(D,o)::n∧∀p∈n,@aP Nat _ p.1 D):=
 tH (body:=vh P0.main.body 23) (scope:=tw P0.main.body 23) (binds:=[("ballots",.ref bl)]) (by with_unfolding_all rfl) (by with_unfolding_all rfl) (λs X=>dB rfl) rfl (by decide +kernel) rfl rfl rfl λc m G hd hu B Y off _=>by
  obtain ⟨o,rfl,H⟩:=JE (n:=ae "ballots") (c:=c.L+1) Y;have hm:(bl,listOf va.toArray ep)∈(c.L+1,o)::n:=zT hb;refine mU (Fs (n0:=4) (n1:=5) (tb:=zl bs) (el:=λi j=>5*(i:Int)+(j:Int)) (hkind:=rfl) {r:=λC EE mC N=>rx Fg bf,t:=λC EE mC N i j tx ty h4 h5 z u hN=>ke (qG (qE (fk (eH (a:=c.L+1) (o:=o) rfl (hN _ (zH)) H) (ai u) (hN _ hm) hi (cb j) (by rw[hl];exact gG.mpr h5) (jZ (gG.mpr h5) (by decide))) (ai z) (cb i)) bf),e:=λC EE mC N i j tx ty z u=>ec (kh bf (ai z) (fL (by decide))) (ai u),xy:=by decide,x:=rfl,y:=rfl,sz:=by decide,sm:=rfl} (rx Fg bf) rfl (wN B rfl)) λv n' h=>?_;obtain ⟨D,ys,rfl,rfl,h,l⟩:=h;exact⟨_,⟨D,_,rfl,⟨ys,rfl,h⟩,rfl,λp hp=>l p (zT hp)⟩,FC (zH) λp hp=>zT (zT hp)⟩
end
section
open W PyProof Rows
section
variable {tb:Nat→Nat→Bool}
noncomputable abbrev sK(i j:Nat):Int:=5*(i:Int)+(j:Int)
theorem rn:∀{j:Nat},x∈sC tb sK i j→5*(i:Int)≤x∧x<5*(i:Int)+j
 | 0,h=>by simp [sC] at h
 | j+1,h=>by
  rw[oO] at h
  split at h
  .rcases aC.mp h with h|h
   .have:=rn h;exact⟨cS [i,x] 1 (.m 5 Z0) Z1 1 (.m 5 Z0) Z1 rfl this.1,cS [x,i,j] 1 (.a Z0 Y1) (.a (.m 5 Z1) (.a Z2 Y1)) 1 (.a Z0 Y1) (.a (.m 5 Z1) Z2) rfl this.2⟩
   .have e:=aA.mp h
    simp only[sK] at e;exact⟨eQ [i,x,j] 1 (.m 5 Z0) Z1 1 (.a (.m 5 Z0) Z2) Z1 1 Y0 Z2 rfl (iq e) j0,cS [x,i,j] 1 (.a Z0 Y1) (.a (.m 5 Z1) (.a Z2 Y1)) 1 Z0 (.a (.m 5 Z1) Z2) rfl (gV e)⟩
  .have:=rn h;exact⟨cS [i,x] 1 (.m 5 Z0) Z1 1 (.m 5 Z0) Z1 rfl this.1,cS [x,i,j] 1 (.a Z0 Y1) (.a (.m 5 Z1) (.a Z2 Y1)) 1 (.a Z0 Y1) (.a (.m 5 Z1) Z2) rfl this.2⟩
theorem qB:∀{j:Nat},(sC tb sK i j).Pairwise (· < ·)
 | 0=>by simp [sC]
 | j+1=>by
  rw[oO]
  split
  .refine qX.mpr (eR qB (gS ..) (λa ha b hb=>?_))
   have e:=aA.mp hb;have:=rn ha;simp only[sK] at e;exact Qx e this.right
  .exact qB
theorem AS:∀{i:Nat},x∈jB tb sK 5 i→0≤x∧x<5*(i:Int)
 | 0,h=>by simp [jB] at h
 | i+1,h=>by
  rw[jQ] at h
  rcases aC.mp h with h|h
  .have:=AS h;exact⟨cS [x] 1 Y0 Z0 1 Y0 Z0 rfl this.1,cS [x,i] 1 (.a Z0 Y1) (.m 5 (.a Z1 Y1)) 1 (.a Z0 Y1) (.m 5 Z1) rfl this.2⟩
  .have:=rn h;exact⟨eQ [x,i] 1 Y0 Z0 1 (.m 5 Z1) Z0 5 Y0 Z1 rfl this.1 j0,cS [x,i] 1 (.a Z0 Y1) (.m 5 (.a Z1 Y1)) 1 (.a Z0 Y1) (.a (.m 5 Z1) (.k 5)) rfl this.2⟩
theorem nu:∀{i:Nat},(jB tb sK 5 i).Pairwise (· < ·)
 | 0=>by simp [jB]
 | i+1=>by
  rw[jQ];refine qX.mpr (eR nu qB (λa ha b hb=>?_));have:=AS ha;have:=rn hb;exact eQ [a,b,i] 1 (.a Z0 Y1) Z1 1 (.m 5 Z2) Z1 1 (.a Z0 Y1) (.m 5 Z2) rfl this.1 ((‹0≤a∧a<5*(↑i:Int)›).2)
theorem A7{tb:Nat→Nat→Bool}:∀{j:Nat},(sC tb sK i j).length≤j
 | 0=>by simp [sC]
 | j+1=>by
  rw[oO];have z:(sC tb sK i j).length≤j:=A7
  split
  .rw[aT,df];exact eZ z 1
  .exact dI z
theorem wI:∀{i:Nat},(jB tb sK 5 i).length≤5*i
 | 0=>by simp [jB]
 | i+1=>by
  rw[jQ,aT];have y:(jB tb sK 5 i).length≤5*i:=wI;have z:(sC tb sK i 5).length≤5:=A7;exact nV (eQ [↑((jB tb sK 5 i).length),↑((sC tb sK i 5).length),i] 1 (.a Z0 Z1) (.m 5 (.a Z2 Y1)) 1 Z1 (.k 5) 1 Z0 (.m 5 Z2) rfl (d9 z) (d9 y))
theorem BS:(jB tb sK 5 i).Nodup:=nu.imp λh e=>absurd (e▸h) (om _)
end
noncomputable def gI(i:Nat):List Int:=jB (zl [(i:Int),i,i,i,i]) (λi j=>5*(i:Int)+(j:Int)) 5 4
theorem AQ(i:Nat):(gI i).length≤32∧(gI i).Nodup:=⟨aw wI (by decide),BS⟩
noncomputable def sx(Rw:List (Addr×List Int)):List Value:=Rw.map λq=>.ref q.1
structure qo(n:Ns)(i:Nat)(out:List Value)(n1:Ns)(Rw:List (Addr×List Int))(Wn:Ns):Prop where
 ho:out=sx Rw
 hl:Rw.map (·.2)=(aU i).map gI
 hr:∀q∈Rw,jo Wn q
 hp:Rw.Pairwise (λa b=>@aP Nat _ a.1 b.1)
 hn:n1=Wn++n
 hf:∀p∈Wn,∀q∈n,@aP Nat _ q.1 p.1
theorem qo.start:qo n 0 [] n [] []:=⟨rfl,rfl,(λ_ h=>nomatch h),.nil,rfl,(λ_ h=>nomatch h)⟩
theorem qo.len(h:qo n i out n1 Rw Wn):out.length=i:=by
 have:=congrArg eE h.hl;simp only[aE,db] at this;rw[h.ho,sx,aE,this]
theorem qo.add(h:qo n i out n1 Rw Wn)(e:au ys (gI i))(hl:∀p∈n1,@aP Nat _ p.1 W):
  qo n (i+1) (out++[.ref W]) ((W,bz ys)::n1) (Rw++[(W,gI i)]) ((W,bz ys)::Wn) where
 ho:=by rw[h.ho,sx,sx,aX];rfl
 hl:=by rw[aX,h.hl,gx,aX];rfl
 hr:=λq hq=>by
  rcases aC.mp hq with hq|hq
  .refine hH (h.hr q hq) λva ep h1 h2 h3 h4=>?_
   exact(se va ep (zT h1) h2 h3 h4)
  .rw[aA.mp hq]
   exact(se ys ys.length (zH) e ((AQ i).1) ((AQ i).2))
 hp:=qX.mpr (eR h.hp (gS ..) (λa ha b hb=>by
  rw[aA.mp hb];obtain ⟨va,ep,h1,_⟩:=h.hr a ha
  exact hl _ (by rw[h.hn];exact zL h1)))
 hn:=by rw[h.hn];rfl
 hf:=λp hp q hq=>by
  rcases ak.mp hp with rfl|hp
  .exact hl q (by rw[h.hn];exact zR hq)
  .exact h.hf p hp q hq
theorem GU{cs:Scope}{c:Fm W0 cs}{sc:Scope}{k:Cx c sc}{m:Lo}{n:Ns}{f e:PE}{i kk:Nat}{p z u H:Pos}(hf:Ev k m n f (.val (.ref 352)))(hx:Ev k m n e (.int i))(hd:c.dp+9<aH)(hu:c.un+100<cT)(J:autoParam (∀r,SE k.env e r) zAb)
  (c1:autoParam (CC k.env f [.BinOp (.List [e] p) .Mult (.Constant (.int 5) kk z) u] H) zAa) (c2:autoParam (bV [.BinOp (.List [e] p) .Mult (.Constant (.int 5) kk z) u] k.env=(false,eval (.BinOp (.List [e] p) .Mult (.Constant (.int 5) kk z) u) k.env)::bV [] k.env) zAa):
  Er k m n (.Call f [.BinOp (.List [e] p) .Mult (.Constant (.int 5) kk z) u] [] H) (λv n'=>∃W ys p q,v=.ref W∧n'=(W,bz ys)::p::q::n∧au ys (gI i)∧(∀p∈n,@aP Nat _ p.1 W)∧∀a∈k.exA,@aP Nat _ a W):=
 fx (OS (P1:=λv n'=>∃A B t o,v=.ref A∧n'=(A,listOf [fn i t,.int i t,.int i t,.int i t,.int i t].toArray 0)::(B,o)::n) (U:=λo=>∃ys,o=bz ys∧au ys (gI i)) hf (Fh hx J) (λv1 n1 n2 O sub=>by
  obtain ⟨A,B,t,o,rfl,rfl⟩:=O
  exact AC (bs:=[(i:Int),i,i,i,i]) (sub _ (zH)) (.cons _ _ (.cons _ _ (.cons _ _ (.cons _ _ (.cons _ _ .nil))))) rfl) (by with_unfolding_all rfl) hd hu c1 c2) λv n' h=>by
  obtain ⟨_,_,W,_,⟨A,B,t,o,_,rfl⟩,rfl,⟨ys,rfl,G⟩,rfl,Y,lx⟩:=h;exact⟨W,ys,_,_,rfl,rfl,G,λp hp=>Y p (zT (zT hp)),lx⟩
theorem Ou{c:Fm W0 lawS}{m:Lo}{N:Ns}{R:Re}{rest:List Stmt}(hc:LawC c)
  (B:∀(S:Addr) (Rw:List (Addr×List Int)) (Wn n1:Ns),qo N 16 (sx Rw) n1 Rw Wn→(∀p∈n1,p.1≠S)→(∀p∈N,@aP Nat _ p.1 S)→cK c (ci m (ae "sets") (.ref S)) ((S,bz (sx Rw))::n1) rest R):
  cK c m N (bp 2::rest) R:=by
 refine ru (P:=λv n'=>∃S Rw Wn n1,v=.ref S∧n'=(S,bz (sx Rw))::n1∧qo N 16 (sx Rw) n1 Rw Wn∧(∀p∈n1,p.1≠S)∧(∀p∈N,@aP Nat _ p.1 S)) rfl (jb (a:=0) (b:=16) (rx cO bf)) (λv N1 s1 h i1=>?_) λv n' h=>?_
 .obtain ⟨rfl,r,t,u,z,rfl,hr⟩:=h
  refine⟨16,_,_,λi out n1=>∃Rw Wn,qo N1 i out n1 Rw Wn,jA hr (by decide),⟨[],[],.start⟩,λi out n1 h=>?_,?_,λout n1 D hJ e l2=>?_,by decide⟩
  .obtain ⟨Rw,Wn,h⟩:=h
   exact⟨(λ_ h=>nomatch h),fu h.len⟩
  .intro i v out n1 C I D oI E' mC hi hv hJ Y G O U J aa hex
   obtain ⟨t,rfl⟩:=hv;obtain ⟨Rw,Wn,hJ⟩:=hJ;refine⟨true,λQ s hi hq=>pg (hq s hi),λ_=>?_,λh=>nomatch h⟩;refine fx (GU Jl (ai Y) (aK (bq (by decide) _) hc.hd) (aK (bq (by decide) _) hc.hu)) λv n' h=>?_;obtain ⟨W,ys,p,q,rfl,rfl,H,e,lx⟩:=h;exact⟨(W,bz ys)::n1,iz [3,4,0] 5 rfl,FC ⟨Ne.symm (aB (lx _ (zR (zH)))),Ne.symm (aB (e _ (zH))),Ne.symm (aB (e _ (zT (zH))))⟩ G,_,_,hJ.add H λp hp=>e p (zT (zT hp))⟩
  .obtain ⟨Rw,Wn,hJ⟩:=hJ
   obtain rfl:=hJ.ho;exact⟨D,Rw,Wn,n1,rfl,rfl,hJ,l2,e⟩
 .obtain ⟨S,Rw,Wn,n1,rfl,rfl,hJ,l2,e⟩:=h
  exact B S Rw Wn n1 hJ l2 e
theorem kw_LW11_0:True:=by
 k_with_none
 k_with "zeval Subscript"=>(k_here;refine sf ?_)
 trivial
theorem km_LW11:True:=by
 k_with "zmm"=>first|with_reducible assumption|exact a8 0 rfl|exact a8 1 rfl|exact a8 2 rfl|exact a8 3 rfl|exact a8 4 rfl|exact a8 5 rfl|exact a8 6 rfl|exact a8 7 rfl|exact a8 8 rfl|exact a8 9 rfl|(refine bk 1 ?_;assumption)|(refine bk 2 ?_;assumption)|(refine bk 3 ?_;assumption)|(refine bk 4 ?_;assumption)|(refine bk 5 ?_;assumption)|(refine bk 6 ?_;assumption)|(refine bk 7 ?_;assumption)|(refine bk 8 ?_;assumption)|(refine bk 9 ?_;assumption)|k_extra "zmt"
 k_with "zsu"=>first|exact FN|(refine FC ?_ ?_;(focus k_extra "zmm");k_extra "zsu")|(refine FA ?_ ?_;(focus k_extra "zsu");k_extra "zsu")|(intro p9 hp9;k_extra "zmm")
 trivial
open PyProof.Rows.LCg
theorem Nk(hl:@aP Nat _ 366 L)(u:b8 L n0):
  xh (L+1+1) o2 (bL L o1 o2 o3 o4 o5 ps qs++n0) (λo'=>bL L o1 o' o3 o4 o5 ps qs++n0):=by
 refine BX u.all λU z O J H G B=>?_;refine .tail (jx (aW (aW (aJ _)))) (.tail (jx (aW (aJ _))) (.tail (jx (aJ _)) (.head ?_)));intro p hp;have e:p∈(L+1,o1)::(364,bS ps)::(256,bS qs)::n0:=hp;simp only[ak] at e
 rcases e with rfl|rfl|rfl|hp
 .exact kX (aJ _)
 .exact kX (aO (aO (by decide:(364:Nat)<366) hl) (aN (aJ _) (bx (L+1) 1)))
 .exact kX (aO (aO (by decide:(256:Nat)<366) hl) (aN (aJ _) (bx (L+1) 1)))
 .exact z p hp
theorem Fv{vs:List Int}{sv:List Value}{i:Nat}(h:pW vs (i:Int)=true):jS vs sv (i+1)=jS vs sv i++[sv.getD i .none]:=by
 unfold jS;rw[gx,cH,aX,fC,if_pos h];rfl
theorem Iu{vs:List Int}{sv:List Value}{i:Nat}(h:pW vs (i:Int)=false):jS vs sv (i+1)=jS vs sv i:=by
 unfold jS;rw[gx,cH,aX,fC,if_neg (by rw[h];decide)];exact im _
theorem Fw{sv:List Value}(i:Nat):(jS vs sv i).length≤i:=by
 unfold jS;rw[aE];exact aw (bU ..) (by rw[db];exact aR _)
theorem LG(vs:List Int)(c:Int):decide (uD vs c++pD vs c=[])=pW vs c:=by
 unfold pW;generalize uD vs c=a;generalize pD vs c=b;cases a<;>cases b<;>rfl
theorem tY(h:t∈dF vs):t∈eh vs 4:=gA h
theorem tZ:(dF vs).length≤4:=by
 unfold dF;rw[eV,(jP (vs:=vs) (i:=4) (aR 4)).1];exact jy 4 (fP (λj=>!decide (2<nv vs j)) (eh vs 4) 4 0 4)
theorem KW{c:Fm W0 lawS}{m:Lo}{n0:Ns}{R:Re}{rest:List Stmt}
  (u:∀(ra:Addr),(∀p∈n0,@aP Nat _ p.1 ra)→cK c (ci m (ae "due") (.ref ra)) ((ra,listOf ([]:List Value).toArray 0)::n0) rest R):
  cK c m n0 (bp 15::rest) R:=by
 refine dG (Fj) ?_;intro v n' e;refine fJ e λra B z h=>?_;clear e;subst B;subst z;exact u ra h
structure Pt(L dl:Addr)(o1 o3 o4 o5:Obj)(ps qs:Array Value)(n0:Ns)(vs:List Int)(sv:List Value)(m:Lo)(i:Nat)(m1:Lo)(n1:Ns):Prop where
 hm:∀x,x≠ae "lacking"→m1 x=m x
 hn:∃oC v0 ed,oC.data=.cell v0∧n1=bL L o1 oC o3 o4 o5 ps qs++(dl,listOf (jS vs sv i).toArray ed)::n0
theorem KU{c:Fm W0 lawS}{m:Lo}{n0:Ns}{R:Re}{rest:List Stmt}(hc:LawC c){o1 o2 o3 o4 o5:Obj}{ps qs:Array Value}{v2:Option Value}{ra wa sa dl:Addr}{va wv sv:List Value}{ea ew es:Nat}{vs:List Int}{th' tl':Tok}(d2:o2.data=.cell v2)(hof:b8 c.L ((dl,listOf ([]:List Value).toArray 0)::n0))(hdl:∀p∈n0,p.1≠dl)
  (hra:(ra,listOf va.toArray ea)∈n0) (hia:au va (eh vs 4)) (hwa:(wa,listOf wv.toArray ew)∈n0) (hiw:au wv (dF vs)) (hsa:(sa,listOf sv.toArray es)∈n0) (hsl:sv.length=16)
  (m1:m (ae "row")=some (.ref ra)) (m2:m (ae "wanted")=some (.ref wa)) (m3:m (ae "sets")=some (.ref sa)) (m4:m (ae "due")=some (.ref dl)) (m5:m (ae "high")=some (.int (gr vs:Nat) th')) (m6:m (ae "low")=some (.int (jj vs:Nat) tl'))
  (hnext:∀(m':Lo) (oC:Obj) (v0:Option Value) (ed:Nat),(∀x,x≠ae "lacking"→m' x=m x)→oC.data=.cell v0→cK c m' (bL c.L o1 oC o3 o4 o5 ps qs++(dl,listOf (jS vs sv 16).toArray ed)::n0) rest R):
  cK c m (bL c.L o1 o2 o3 o4 o5 ps qs++(dl,listOf ([]:List Value).toArray 0)::n0) (bp 16::rest) R:=by
 refine qD (a:=0) (b:=16) (k:=16) (ca:=c.L+1+1) (by rw[hc.cl];rfl) ?hr rfl (by decide) (λI=>Pt c.L dl o1 o3 o4 o5 ps qs n0 vs sv m) ?h0 ?turn ?done
 case hr=>exact rx cO bf
 case h0=>
  intro I hI;exact⟨λ_ _=>rfl,o2,v2,0,d2,rfl⟩
 case done=>
  rintro I m' n1 hI ⟨hm',oC,v0,ed,hd,rfl⟩;exact hnext m' oC v0 ed hm' hd
 case turn=>
  rintro i t m' n1 I oI hi16 hI ⟨hm',oC,v0,ed,hd,rfl⟩
  have hIa:∀p∈bL c.L o1 oC o3 o4 o5 ps qs++(dl,listOf (jS vs sv i).toArray ed)::n0,p.1≠I:=λp hp=>by
   rcases aC.mp hp with h|h
   .exact kW (P:=λa=>a≠I) (λp hp=>kX (hI p (zL hp))) p h
   .rcases ak.mp h with rfl|h
    .exact kX (hI (dl,listOf ([]:List Value).toArray 0) (by k_extra "zmm"))
    .exact kX (hI p (by k_extra "zmm"))
  have hof':b8 c.L ((dl,listOf (jS vs sv i).toArray ed)::n0):=λp hp=>by
   rcases ak.mp hp with rfl|hp
   .exact hof (dl,listOf ([]:List Value).toArray 0) (zH)
   .exact hof.tail p hp
  refine(nW oC (λo'=>(I,oI)::(bL c.L o1 o' o3 o4 o5 ps qs++(dl,listOf (jS vs sv i).toArray ed)::n0)) v0 (.tail (Ne.symm (hIa (c.L+1+1,oC) (by k_extra "zmm"))) (Nk hc.lo hof')) hd (λo' ho'=>?_));rw[fO] at ho'
  have hIb:∀p∈bL c.L o1 o' o3 o4 o5 ps qs++(dl,listOf (jS vs sv i).toArray ed)::n0,p.1≠I:=λp hp=>by
   rcases aC.mp hp with h|h
   .exact kW (P:=λa=>a≠I) (λp hp=>hIa p (zL hp)) p h
   .exact hIa p (zR h)
  refine(?_:cK c m' ((I,oI)::(bL c.L o1 o' o3 o4 o5 ps qs++(dl,listOf (jS vs sv i).toArray ed)::n0)) _ _)
  have mc:(c.L+1+1,o')∈(I,oI)::(bL c.L o1 o' o3 o4 o5 ps qs++(dl,listOf (jS vs sv i).toArray ed)::n0):=by k_extra "zmm"
  have mra:(ra,listOf va.toArray ea)∈(I,oI)::(bL c.L o1 o' o3 o4 o5 ps qs++(dl,listOf (jS vs sv i).toArray ed)::n0):=by k_extra "zmm"
  have mwa:(wa,listOf wv.toArray ew)∈(I,oI)::(bL c.L o1 o' o3 o4 o5 ps qs++(dl,listOf (jS vs sv i).toArray ed)::n0):=by k_extra "zmm"
  have msa:(sa,listOf sv.toArray es)∈(I,oI)::(bL c.L o1 o' o3 o4 o5 ps qs++(dl,listOf (jS vs sv i).toArray ed)::n0):=by k_extra "zmm"
  have hnl:∀x,x≠ae "lacking"→m' x=m x:=hm';refine b7 (jP (vs:=vs) (i:=4) (aR 4)) λhr1 hr2=>?_
  have hvl:va.length≤1000:=by rw[hia.length,hr1];decide
  generalize hNN:(I,oI)::(bL c.L o1 o' o3 o4 o5 ps qs++(dl,listOf (jS vs sv i).toArray ed)::n0)=NN at mc mra mwa msa ⊢;have e1:m' (ae "row")=some (.ref ra):=(hm' _ (by decide)).trans m1;have e2:m' (ae "wanted")=some (.ref wa):=(hm' _ (by decide)).trans m2;have e3:m' (ae "sets")=some (.ref sa):=(hm' _ (by decide)).trans m3;have e4:m' (ae "due")=some (.ref dl):=(hm' _ (by decide)).trans m4;have e5:m' (ae "high")=some (.int (gr vs:Nat) th'):=(hm' _ (by decide)).trans m5;have e6:m' (ae "low")=some (.int (jj vs:Nat) tl'):=(hm' _ (by decide)).trans m6;have hfr:=sd hia (gr vs);have hup:=B5 hia (jj vs);have hwl:=tZ (vs:=vs);refine ru (cl:=[(ae "choice",c.L+1+1)]) (PS:=λv n1 _=>∃l zs,v=.ref l∧(l,listOf zs.toArray 0)∈n1∧au zs ((eh vs 4).drop (gr vs)++dF vs)∧∀p∈NN,p∈n1) (P:=λv n'=>∃Lk zs,v=.ref Lk∧au zs (uD vs i)∧∀p∈(Lk,bz zs)::NN,p∈n') rfl (sj (P:=λv n1=>∃l zs,v=.ref l∧(l,listOf zs.toArray 0)∈n1∧au zs ((eh vs 4).drop (gr vs)++dF vs)∧∀p∈NN,p∈n1) ?it) ?h1 ?k1 (by rfl) (kr hc rfl)
  case it=>
   refine wV (P:=λv n1=>∃D,v=.ref D∧n1=(D,listOf (jE va.toArray.toList (some ((gr vs:Nat):Int)) none).toArray 0)::NN∧∀q∈NN,@aP Nat _ q.1 D) (P2:=λv n2=>v=.ref wa) (oR (am e1) mra hvl (oG (ai e5)) mJ rfl) (λv n1 p1=>fx (iL (am e2)) λv5 n5 h5=>⟨h5.1,λp hp=>h5.2▸hp⟩) ?_;intro v n1 v2 n2 zo51 zo54 hsub;refine fJ zo51 λD zo52 zo53 hlt=>?_;clear zo51;subst zo52;subst zo53;subst zo54;refine(Lf D wa _ wv 0 ew rfl rfl (zH) (hsub _ (zT mwa)) ?_ (λD2 hlt2=>⟨D2,_,rfl,zH,hfr.append hiw,λp hp=>zT (hsub p (zT hp))⟩));rw[hfr.length,hiw.length,eV];exact nV (g5 [↑((eh vs 4).length-gr vs),↑((dF vs).length),↑((eh vs 4).length)] 1 (.a Z0 Z1) (.k 1000) 1 Z1 (.k 4) 1 Z2 (.k 4) 1 Z0 Z2 rfl (d9 hwl) (vX hr1) P8)
  case h1=>
   intro v n1 s1 zo55 i1;refine hH zo55 λl zs zo56 hml hzs hsub=>?_;clear zo55;subst zo56;have hS:=pC i1 hml hzs (by rw[aT,eV];exact nV (g5 [↑((eh vs 4).length-gr vs),↑((dF vs).length),↑((eh vs 4).length)] 1 (.a Z0 Z1) (.k 1000) 1 Z1 (.k 4) 1 Z2 (.k 4) 1 Z0 Z2 rfl (d9 hwl) (vX hr1) P8));refine(vu _ _ _ _ hS.p (wO (g:=λy=>!bt (i:Int) y) rfl hS ?_ ?_))
   .intro C E' mC n2 y t hy hmC hs2
    have y0:0≤y:=(hr2 y ((aC.mp hy).elim (λh=>gA h) tY)).1;rw[← tI y0];exact qt (ke (qG (qE (qj (eH (a:=c.L+1+1) (o:=o') rfl (hs2 _ (hsub _ mc)) ho')) (ai hmC) y0) bf))
   .intro D zs2 hz2 hlt
    refine(ir D zs2 rfl hz2 (λp hp=>?_))
    rcases ak.mp hp with h|h
    .rw[h];exact zH
    .exact zT (hsub p h)
  case k1=>
   intro v n' zo57;refine gJ zo57 λLk zs zo58 hzs hsub=>?_;clear zo57;subst zo58;refine cL (n':=(Lk,bz zs)::NN) ?_ hsub;have f1:ci m' (ae "lacking") (.ref Lk) (ae "row")=some (.ref ra):=e1;have f6:ci m' (ae "lacking") (.ref Lk) (ae "low")=some (.int (jj vs:Nat) tl'):=e6
   have hzl:zs.length≤8:=by
    rw[hzs.length];refine aw (bU ..) ?_;rw[aT,eV];exact nV (g5 [↑((eh vs 4).length-gr vs),↑((dF vs).length),↑((eh vs 4).length)] 1 (.a Z0 Z1) (.k 8) 1 Z1 (.k 4) 1 Z2 (.k 4) 1 Z0 Z2 rfl (d9 hwl) (vX hr1) P8)
   have hul:(pD vs (i:Int)).length≤4:=aw (bU ..) (by rw[eJ];exact nV (eQ [↑(min (jj vs) (eh vs 4).length),↑((eh vs 4).length)] 1 Z0 (.k 4) 1 Z1 (.k 4) 1 Z0 Z1 rfl (vX hr1) Rj));refine tC (P:=λb n'=>b=pW vs (i:Int)∧∀p∈NN,p∈n') (GX (P:=λv n1=>∃a xs',v=.ref a∧(a,listOf xs'.toArray 0)∈n1∧au xs' (uD vs (i:Int)++pD vs (i:Int))∧∀p∈NN,p∈n1) (P2:=λv n2=>∃D,v=.ref D∧(D,listOf (([]:List Value)).toArray 0)∈n2) (by have:=hc.hu;exact zJ this (bR true)) ?el (λv n1 p1=>fx (Fj) ?er) ?cmp) ?yes ?no
   case er=>
    intro v2 n2 zo59;refine fJ zo59 λD zo60 zo61 h=>?_;clear zo59;subst zo60;subst zo61;exact⟨(c9 D rfl (zH)),λp hp=>zT hp⟩
   case cmp=>
    intro v n1 v2 n2 zo62 zo64 hsub2;refine hH zo62 λa xs' zo63 hma hxs hs1=>?_;clear zo62;subst zo63;refine fK zo64 λD zo65 hmD=>?_;clear zo64;subst zo65;exact(OD a D xs' [] _ [] 0 0 rfl rfl hma hmD hxs (.nil) (LG vs i) (λp hp=>hsub2 _ (hs1 p hp)))
   case el=>
    refine wV (P:=λv n1=>v=.ref Lk∧n1=(Lk,bz zs)::NN) (P2:=λv2 n2=>∃Ex zs2,v2=.ref Ex∧(Ex,bz zs2)∈n2∧au zs2 (pD vs (i:Int))) (iL (am rfl)) (λv n1 p1=>?_) ?_
    .refine b7 p1 λ_ e9=>?_
     try clear p1
     subst e9;refine nC (cl:=[(ae "choice",c.L+1+1)]) (PS:=λv n1 _=>∃D,v=.ref D∧n1=(D,listOf (jE va.toArray.toList none (some ((jj vs:Nat):Int))).toArray 0)::(Lk,bz zs)::NN∧∀q∈(Lk,bz zs)::NN,@aP Nat _ q.1 D) rfl (sj (oR (am f1) (zT mra) hvl mJ (oG (ai f6)) rfl)) ?_ (kr hc rfl);intro v n1 s1 zo66 i1;refine fJ zo66 λD zo67 zo68 hlt=>?_;clear zo66;subst zo67;subst zo68;have hS:=pC i1 (zH) hup (by rw[eJ];exact nV (eQ [↑(min (jj vs) (eh vs 4).length),↑((eh vs 4).length)] 1 Z0 (.k 1000) 1 Z1 (.k 4) 1 Z0 Z1 rfl (vX hr1) Rj));refine(vu _ _ _ _ hS.p (wO (g:=bt (i:Int)) rfl hS ?_ ?_))
     .intro C E' mC n2 y t hy hmC hs2
      have y0:0≤y:=(hr2 y (gz hy)).1;rw[← tI y0];exact ke (qG (qE (qj (eH (a:=c.L+1+1) (o:=o') rfl (hs2 _ (zT (zT mc))) ho')) (ai hmC) y0) bf)
     .intro D2 zs2 hz2 hlt2
      exact⟨(ir D2 zs2 rfl (zH) hz2),λp hp=>zT (zT hp)⟩
    .intro v n1 v2 n2 zo69 zo72 hsub2
     refine b7 zo69 λzo70 zo71=>?_;clear zo69;subst zo70;subst zo71;refine gJ zo72 λEx zs2 zo73 hmE hz2=>?_;clear zo72;subst zo73;refine(Lf Lk Ex zs zs2 zs.length zs2.length rfl rfl (zH) hmE (by rw[hz2.length];exact rZ (Nat.add_le_add hzl hul) (bR true)) (λD hlt=>⟨D,_,rfl,zH,hzs.append hz2,λp hp=>zT (hsub2 p (zT hp))⟩))
   case no=>
    intro n' zo74;refine b7 zo74 λhb hsub2=>?_;clear zo74;refine bQ (b9 ⟨hsub2 _ (by rw[← hNN];exact zH),bL c.L o1 o' o3 o4 o5 ps qs++(dl,listOf (jS vs sv i).toArray ed)::n0,λp hp=>⟨hsub2 p (by rw[← hNN];exact zT hp),hIb p hp⟩,λx hx=>(if_neg hx).trans (hm' x hx),o',_,ed,ho',?_⟩);rw[Iu hb.symm]
   case yes=>
    intro n' zo75;refine b7 zo75 λhb hsub2=>?_;clear zo75;refine cL (n':=NN) ?_ hsub2;subst hNN;have hkk:=mQ (m:=ci m' (ae "lacking") (.ref Lk)) (ks:=[(ae "due",.ref dl),(ae "sets",.ref sa)]) (eR e4 e3 trivial);refine⟨λQ s hi hq=>?_⟩;rw[← hkk] at hi;obtain ⟨h1,tk1,rfl,F1,N1⟩:=hi;have BB:=c.B;have XX:=c.X;have TT:=c.T;dsimp only [Fm.cx,Fm.A,Fm.env]
    k_steps
    refine iF ?_;refine' Ev.run (k:=c.cx) (uM (x:=sv.getD i .none) (am (v:=.ref sa) rfl) (qj (eH (a:=c.L+1+1) (o:=o') (by refine(?_:c.cl.lookup _=_);rw[hc.cl];rfl) mc ho')) msa (by rw[bC,az,ao (pV hsl hi16)];rfl) (cb i) (cS [i] 1 (.a Z0 Y1) (.k (2 ^ 63)) 1 (.a Z0 Y1) (.k 16) rfl (d9 hi16))) _ _ ⟨_,_,rfl,F1,N1⟩ ?_;rintro v s2 rfl i2;obtain ⟨h2,tk2,rfl,F2,N2⟩:=i2
    k_steps
    refine iF ?_;have hK:=uB (o1:=o1) (o2:=o') (o3:=o3) (o4:=o4) (o5:=o5) (ps:=ps) (qs:=qs) hof';have hIdl:I≠dl:=Ne.symm (hIb (dl,listOf (jS vs sv i).toArray ed) (by k_extra "zmm"));have N3:ba c.h₀ c.L h2 ((dl,listOf (jS vs sv i).toArray ed)::(I,oI)::(bL c.L o1 o' o3 o4 o5 ps qs++n0)):=cm N2 (by k_extra "zsu");refine append_K F2 N3 (.head (λp hp=>?_)) (λh3 F3 N4=>?_) (by rw[aV];exact aw (Fw i) (aw (aL hi16) (by decide)))
    .rcases ak.mp hp with rfl|hp
     .exact hIdl
     .rcases aC.mp hp with h|h
      .exact hK p h
      .exact hdl p h
    rw[List.push_toArray,← Fv hb.symm] at N4
    k_steps
    rw[hkk] at F3;refine hq .next _ ((I,oI)::(bL c.L o1 o' o3 o4 o5 ps qs++(dl,listOf (jS vs sv (i+1)).toArray (ed+1))::n0)) _ (b9 (R:=FR (md c rest R) I oI (Pt c.L dl o1 o3 o4 o5 ps qs n0 vs sv m) (i+1)) ⟨zH,bL c.L o1 o' o3 o4 o5 ps qs++(dl,listOf (jS vs sv (i+1)).toArray (ed+1))::n0,λp hp=>⟨zT hp,?_⟩,λx hx=>(if_neg hx).trans (hm' x hx),o',_,ed+1,ho',rfl⟩) ⟨_,_,rfl,F3,cm N4 λp hp=>?_⟩
    .rcases aC.mp hp with h|h
     .exact hIb p (zL h)
     .rcases ak.mp h with rfl|h
      .exact Ne.symm hIdl
      .exact hIb p (by k_extra "zmm")
    .revert p;k_extra "zsu"
end
section
open W PyProof Rows
open PyProof.Rows.LCg
noncomputable def OW:List Stmt:=vh P0.main.body 25
noncomputable def LJ:Scope:=tw P0.main.body 25
theorem Fy{c:Fm W0 LJ}(aD:c.cl=fQ (c.L+1) LJ.names []){m:Lo}{N:Ns}{o1 o2:Obj}{vt ta:Addr}{vv tv:List Value}{vs ts:List Int}{ep et:Nat}(d1:o1.data=.cell (some (.ref vt)))(d2:o2.data=.cell (some (.ref ta)))(aM:(vt,listOf vv.toArray ep)∈N)(aQ:(ta,listOf tv.toArray et)∈N)(hv:au vv vs)(hl:vs.length=4)(ht:au tv ts):
  cK c m ((c.L+1+1,o2)::(c.L+1,o1)::N) OW (λf m' n'=>∃t,f=.ret (.int (jm vs ts) t)∧(∀p∈N,p∈n')):=by
 have ax:∀mm nn pos,Ev c.cx mm nn (.Name (ae "sum") pos) (.val (.builtin "sum")):=λmm nn pos=>cO
 have mt:(vt,listOf vv.toArray ep)∈(c.L+1+1,o2)::(c.L+1,o1)::N:=by k_extra "zmm"
 have as:(ta,listOf tv.toArray et)∈(c.L+1+1,o2)::(c.L+1,o1)::N:=by k_extra "zmm"
 have m1:(c.L+1,o1)∈(c.L+1+1,o2)::(c.L+1,o1)::N:=by k_extra "zmm"
 have m2:(c.L+1+1,o2)∈(c.L+1+1,o2)::(c.L+1,o1)::N:=by k_extra "zmm"
 have U:∀p∈N,p∈(c.L+1+1,o2)::(c.L+1,o1)::N:=λp hp=>zT (zT hp);generalize (c.L+1+1,o2)::(c.L+1,o1)::N=NN at mt as m1 m2 U ⊢;refine uI (P:=λv n'=>(∃t,v=.int (jm vs ts) t)∧∀p∈NN,p∈n') (Fi (P:=λv n'=>∃D Y,v=.ref D∧n'=(D,bz Y)::NN∧au Y ([0,1,2,3].map λt=>if t∈ts then 5-nv vs t else nv vs t)) (ax _ _ _) (nC (cl:=[(ae "votes",c.L+1),(ae "things",c.L+1+1)]) rfl (jb (a:=0) (b:=4) ?hr) ?hc (wN aD rfl)) ?hs) ?hret
 case hret=>
  intro v n' O;refine b7 O λJ h=>?_;clear O;refine cp J λt ar=>?_
  try clear J
  subst ar;exact(c9 t rfl (λp hp=>h p (U p hp)))
 case hs=>
  intro v n' H;refine gJ H λD Y ah ab hz=>?_;clear H;subst ah;subst ab;refine(EW D Y _ Y.length rfl (zH) hz (λt=>⟨⟨t,?_⟩,λp hp=>zT hp⟩));unfold jm;rw[mT]
 case hr=>exact rx cO bf
 case hc=>
  intro v n1 s1 G i1;refine b7 G λaa B=>?_;clear G;subst aa;refine BV B λr t u z ap hr=>?_
  try clear B
  subst ap;have hS:=qC (k:=c.cx) (m:=m) (n:=n1) hr (by decide) (by decide);refine(vu _ _ _ _ hS.p (EF (f:=λt=>if t∈ts then 5-nv vs t else nv vs t) rfl hS ?_ ?_))
  .intro C E' mC n2 y t hy aj hs2
   rw[rY] at hy
   have e:0≤y∧y<4:=by simp only[ak,bT,or_false] at hy;lia
   refine yk (Nm (ai aj) (eH (a:=c.L+1+1) (o:=o2) rfl (hs2 _ m2) d2) (hs2 _ as) ht) (λhb=>?_) (λhb=>?_)
   .rw[if_pos (of_decide_eq_true hb)]
    exact jl bf (fk (eH (a:=c.L+1) (o:=o1) rfl (hs2 _ m1) d1) (ai aj) (hs2 _ mt) hv e.1 (by exact eQ [y,vs.length] 1 (.a Z0 Y1) Z1 1 (.a Z0 Y1) (.k 4) 1 (.k 4) Z1 rfl e.2 (l9 hl)) (by exact cS [y] 1 (.a Z0 Y1) (.k (2 ^ 63)) 1 (.a Z0 Y1) (.k 4) rfl e.2))
   .rw[if_neg (of_decide_eq_false hb)]
    exact fk (eH (a:=c.L+1) (o:=o1) rfl (hs2 _ m1) d1) (ai aj) (hs2 _ mt) hv e.1 (by exact eQ [y,vs.length] 1 (.a Z0 Y1) Z1 1 (.a Z0 Y1) (.k 4) 1 (.k 4) Z1 rfl e.2 (l9 hl)) (by exact cS [y] 1 (.a Z0 Y1) (.k (2 ^ 63)) 1 (.a Z0 Y1) (.k 4) rfl e.2)
  .intro D Y hz a0
   rw[rY] at hz;exact(ir D Y rfl rfl hz)
theorem Fx(e:(vt,listOf vv.toArray ep)∈n)(u:(ta,listOf G.toArray J)∈n)(hv:au vv vs)(hl:vs.length=4)(ht:au G H):fg W0 362 [.ref vt,.ref ta] n 9 100 (λv n'=>(∃t,v=.int (jm vs H) t)∧∀p∈n,p∈n'):=
 tH (body:=OW) (scope:=LJ) (binds:=[("votes",.ref vt),("things",.ref ta)]) (by with_unfolding_all rfl) (by with_unfolding_all rfl) (λs X=>dB rfl) rfl (by decide +kernel) rfl rfl rfl λc m B hd hu z Y off _=>by
  obtain ⟨o2,o1,rfl,e2,e1⟩:=JD (n:=ae "things") (c:=c.L+1+1) (n':=ae "votes") (c':=c.L+1) Y
  exact kZ (Fy z e1 e2 e u hv hl ht) λf m' n' h=>by
   obtain ⟨t,rfl,h⟩:=h;exact⟨n',⟨⟨t,rfl⟩,h⟩,λ_ h=>h⟩
end
section
theorem EH:∀{a b:List Int},a.Pairwise (· < ·)→b.Pairwise (· < ·)→(∀x,x∈a↔x∈b)→a=b
 | [],[],_,_,_=>rfl
 | [],y::q,_,_,h=>nomatch (h y).mpr (zH)
 | x::r,[],_,_,h=>nomatch (h x).mp (zH)
 | x::r,y::q,ha,hb,h=>by
  refine b7 (dW.mp ha) λa1 a2=>?_;refine b7 (dW.mp hb) λb1 b2=>?_
  have e:x=y:=by
   rcases ak.mp ((h x).mp (zH)) with h1|h1
   .exact h1
   .rcases ak.mp ((h y).mpr (zH)) with h2|h2
    .exact h2.symm
    .have:=b1 x h1
     have:=a1 y h2;lia
  subst e;rw[EH a2 b2 λz=>⟨λhz=>?_,λhz=>?_⟩]
  .rcases ak.mp ((h z).mp (zT hz)) with h1|h1
   .have:=a1 z hz;exact pd (PK this (Eq.symm h1))
   .exact h1
  .rcases ak.mp ((h z).mpr (zT hz)) with h1|h1
   .have:=b1 z hz;exact pd (PK this (Eq.symm h1))
   .exact h1
theorem uy{a:List Int}(h:a.Pairwise (·≤·))(n:a.Nodup):a.Pairwise (· < ·):=by
 induction a with
 | nil=>exact .nil
 | cons x r z=>
  refine b7 (dW.mp h) λh1 h2=>?_;refine b7 (wy.mp n) λn1 n2=>?_
  exact .cons (λy u=>by
   have:=h1 y u;have:x≠y:=λe=>n1 (e▸u)
   exact Int.lt_iff_le_and_ne.mpr ⟨h1 y u,this⟩) (z h2 n2)
theorem JW(ws:List Int):(DE ws).Pairwise (· < ·):=List.Pairwise.filter _ (by decide)
theorem Hh{ws:List Int}(h4:∀t∈ws,0≤t∧t<4)(x:Int):x∈DE ws↔x∈ws:=by
 unfold DE;rw[bY];constructor
 .intro h;exact of_decide_eq_true h.2
 .intro h
  have:=h4 x h;refine⟨?_,decide_eq_true h⟩;simp only[ak,bT,or_false];lia
theorem Kz{ns ws:List Int}(hp:ns.Perm ws)(hs:ns.Pairwise (·≤·))(hn:ws.Nodup)(h4:∀t∈ws,0≤t∧t<4):ns=DE ws:=
 EH (uy hs (hp.nodup_iff.mpr hn)) (JW ws) λx=>by rw[Hh h4,hp.mem_iff]
end
section
open W PyProof Rows
open PyProof.Rows.LCg
theorem vz(hc:LawC c)(G:(c.L+1+1+1+1+1,o5)∈N)(H:o5.data=.cell (some (.ref vt)))(e:(vt,listOf vv.toArray ep)∈N)(u:(ta,listOf z.toArray et)∈N)(hv:au vv vs)(hl:vs.length=4)(ht:au z B)(hm:m (ae "things")=some (.ref ta)):
  Er c.cx m N (.Call (.Name (ae "_law_differences") Y) [.Name (ae "votes") U,.Name (ae "things") O] [] J) (λv n'=>(∃t,v=.int (jm vs B) t)∧∀p∈N,p∈n'):=
 fx (Fp (Fx e u hv hl ht) fT (eH (a:=c.L+1+1+1+1+1) (o:=o5) (by refine(?_:c.cl.lookup _=_);rw[hc.cl];rfl) G H) (am hm) (by with_unfolding_all rfl) (aK (bq (by decide) _) hc.hd) (aK (bq (by decide) _) hc.hu)) λv n' h=>h
theorem vy(hc:LawC c)(G:(c.L+1+1+1+1+1,o5)∈N)(H:o5.data=.cell (some (.ref vt)))(e:(vt,listOf vv.toArray ep)∈N)(u:(ta,listOf z.toArray et)∈N)(hv:au vv vs)(hl:vs.length=4)(ht:au z B)(hm:m (ae "wanted")=some (.ref ta)):
  Er c.cx m N (.Call (.Name (ae "_law_differences") Y) [.Name (ae "votes") U,.Name (ae "wanted") O] [] J) (λv n'=>(∃t,v=.int (jm vs B) t)∧∀p∈N,p∈n'):=
 fx (Fp (Fx e u hv hl ht) fT (eH (a:=c.L+1+1+1+1+1) (o:=o5) (by refine(?_:c.cl.lookup _=_);rw[hc.cl];rfl) G H) (am hm) (by with_unfolding_all rfl) (aK (bq (by decide) _) hc.hd) (aK (bq (by decide) _) hc.hu)) λv n' h=>h
theorem uA{c:Fm W0 lawS}(e:Lo)(nn:Ns)(pos:Pos):Ev c.cx e nn (.Name (ae "sorted") pos) (.val (.builtin "sorted")):=cO
theorem BM{c:Fm W0 lawS}{m:Lo}{N:Ns}{e:PE}{p1 p2:Pos}{ta:Addr}{Y:List Value}{G:List Int}{et:Nat}(he:Ev c.cx m N e (.val (.ref ta)))(H:(ta,listOf Y.toArray et)∈N)(ht:au Y G)(hz:G.length<64)
  (h2:autoParam (SE c.env e []) zAa):Er c.cx m N (.Call (.Name (ae "sorted") p1) [e] [] p2) (λv n'=>∃D B ns ez,v=.ref D∧n'=(D,listOf B.toArray ez)::N∧au B ns∧ns.Perm G∧ns.Pairwise (·≤·)):=
 oU (P:=λv n'=>v=.ref ta∧n'=N) (uA _ _ _) (fx (iL he) λv n' h=>⟨h.1,h.2⟩) (λv n' p Q s hi hq=>by
  refine b7 p λz u=>?_
  try clear p
  subst z;subst u;have hg:=hi.at.2 _ H;refine sorted_N hi.at.1 hi.at.2 (cZ _ hg.1 rfl ⟨et,rfl⟩) ht (by rw[ht.length];exact hz) λh5 B ns e5 F5 N5 U O J=>?_
  exact hq _ _ _ (zW _ B ns e5 rfl rfl U O J) (hi.to (tk:=s.toks) F5 N5)) rfl h2
theorem KR{c:Fm W0 lawS}{m:Lo}{n0:Ns}{R:Re}{rest:List Stmt}(hc:LawC c){o1 o2 o3 o4 o5:Obj}{ps qs:Array Value}{v2:Option Value}{vt wa:Addr}{vv wv:List Value}{ew:Nat}{vs:List Int}(d2:o2.data=.cell v2)(c4:b8 c.L n0)
  (d5:o5.data=.cell (some (.ref vt))) (cU:(vt,bz vv)∈n0) (hv:au vv vs) (hl:vs.length=4) (dj:(wa,listOf wv.toArray ew)∈n0) (cw:au wv (dF vs)) (cM:(dF vs).Nodup)
  (m2:m (ae "wanted")=some (.ref wa)) (cz:∀i:Nat,i<16→th (i:Int)=DE (dF vs)∨jm vs (dF vs)<jm vs (th (i:Int)))
  (b0:∀(m':Lo) (oC:Obj) (v0:Option Value),(∀x,x≠ae "things"→m' x=m x)→oC.data=.cell v0→cK c m' (bL c.L o1 oC o3 o4 o5 ps qs++n0) rest R):
  cK c m (bL c.L o1 o2 o3 o4 o5 ps qs++n0) (bp 18::rest) R:=by
 refine qD (a:=0) (b:=16) (k:=16) (ca:=c.L+1+1) (by rw[hc.cl];rfl) ?hr rfl (by decide) (λI _ m' n'=>(∀x,x≠ae "things"→m' x=m x)∧∃oC v0,oC.data=.cell v0∧n'=bL c.L o1 oC o3 o4 o5 ps qs++n0) ?h0 ?turn ?done
 case hr=>exact rx cO bf
 case h0=>
  intro I hI;exact⟨λ_ _=>rfl,o2,v2,d2,rfl⟩
 case done=>
  intro I m' n1 hI ax;refine b7 ax λaM as=>?_;clear ax;refine pU as λoC v0 hd b6=>?_
  try clear as
  subst b6;exact b0 m' oC v0 aM hd
 case turn=>
  intro i t m' n1 I oI cy hI ar;refine b7 ar λaM ap=>?_;clear ar;refine pU ap λoC v0 hd b5=>?_
  try clear ap
  subst b5
  have cD:∀o':Obj,∀p∈bL c.L o1 o' o3 o4 o5 ps qs++n0,p.1≠I:=λo' p hp=>by
   rcases aC.mp hp with h|h
   .exact kW (P:=λa=>a≠I) (λp hp=>kX (hI p (zL hp))) p h
   .exact kX (hI p (zR h))
  refine(nW oC (λo'=>(I,oI)::(bL c.L o1 o' o3 o4 o5 ps qs++n0)) v0 (.tail (Ne.symm (cD oC (c.L+1+1,oC) (by k_extra "zmm"))) (Nk hc.lo c4)) hd (λo' bv=>?_));rw[fO] at bv;have dg:=cD o';refine(?_:cK c m' ((I,oI)::(bL c.L o1 o' o3 o4 o5 ps qs++n0)) _ _)
  have mc:(c.L+1+1,o')∈(I,oI)::(bL c.L o1 o' o3 o4 o5 ps qs++n0):=by k_extra "zmm"
  have m5:(c.L+1+1+1+1+1,o5)∈(I,oI)::(bL c.L o1 o' o3 o4 o5 ps qs++n0):=by k_extra "zmm"
  have bo:(wa,listOf wv.toArray ew)∈(I,oI)::(bL c.L o1 o' o3 o4 o5 ps qs++n0):=by k_extra "zmm"
  have br:(vt,listOf vv.toArray vv.length)∈(I,oI)::(bL c.L o1 o' o3 o4 o5 ps qs++n0):=zT (zR cU);have dp:∀x,x≠ae "things"→m' x=m x:=aM;generalize cC:(I,oI)::(bL c.L o1 o' o3 o4 o5 ps qs++n0)=NN at mc m5 bo br ⊢;refine ru (cl:=[(ae "choice",c.L+1+1)]) (P:=λv n'=>∃Th O,v=.ref Th∧n'=(Th,bz O)::NN∧au O (th (i:Int))) rfl (jb (a:=0) (b:=4) ?hr2) ?hc1 ?k1 (by rfl) (kr hc rfl)
  case hr2=>exact rx cO bf
  case hc1=>
   intro v n1 s1 aj i1;refine b7 aj λbl ah=>?_;clear aj;subst bl;refine BV ah λr t u z b4 hr=>?_
   try clear ah
   subst b4;have hS:=qC (k:=c.cx) (m:=m') (n:=n1) hr (by decide) (by decide);refine(vu _ _ _ _ hS.p (wO (g:=bt (i:Int)) rfl hS ?_ ?_))
   .intro C E' mC n2 y t hy c6 hs2
    rw[rY] at hy
    have y0:0≤y:=by simp only[ak,bT,or_false] at hy;lia
    rw[← tI y0];exact ke (qG (qE (qj (eH (a:=c.L+1+1) (o:=o') rfl (hs2 _ mc) bv)) (ai c6) y0) bf)
   .intro D O hz dd
    rw[rY] at hz;exact(ir D O rfl rfl hz)
  case k1=>
   intro v n' ab;refine gJ ab λTh O bj bi cn=>?_;clear ab;subst bj;subst bi;have cd:(Th,bz O)∈(Th,bz O)::NN:=zH;have B:∀p∈NN,p∈(Th,bz O)::NN:=λp hp=>zT hp;have c5:∀p∈NN,p∈(Th,bz O)::NN:=B;have cc:ci m' (ae "things") (.ref Th) (ae "wanted")=some (.ref wa):=(aM _ (by decide)).trans m2;have cQ:(dF vs).length≤4:=tZ;refine tC (P:=λb n'=>b=false∧∀p∈NN,p∈n') ?test ?yes ?no
   case yes=>
    intro n' aa;refine b7 aa λh _=>?_;clear aa;cases h
   case no=>
    intro n' Y;refine b7 Y λ_ aD=>?_;clear Y;exact bQ (b9 ⟨aD _ (by rw[← cC];exact zH),bL c.L o1 o' o3 o4 o5 ps qs++n0,λp hp=>⟨aD p (by rw[← cC];exact zT hp),dg p hp⟩,λx hx=>(if_neg hx).trans (aM x hx),o',_,bv,rfl⟩)
   case test=>
    refine AH (P1:=λb n'=>b = !decide (th (i:Int)=DE (dF vs))∧∀p∈(Th,bz O)::NN,p∈n') ?c1 (λn' G=>?c2) (λn' G=>⟨rfl,λp hp=>G.2 p (B p hp)⟩)
    case c1=>
     refine AG (P:=λv n1=>v=.ref Th∧n1=(Th,bz O)::NN) (P2:=λv n1 v2 n2=>∃D J ez,v2=.ref D∧n2=(D,listOf J.toArray ez)::n1∧au J (DE (dF vs))) (iL (am rfl)) (λv n1 G=>?_) (λv n1 v2 n2 G p2 Q s hi hq=>?_)
     .refine b7 G λ_ bh=>?_
      try clear G
      subst bh;refine fx (BM (am cc) (B _ bo) cw (uw cQ (bR true))) ?_;intro v2 n2 U;refine zF U λD J ns ez bb a7 aQ c3 c0=>?_;clear U;subst bb;subst a7;rw[Kz c3 c0 cM (λt ht=>(jP (vs:=vs) (i:=4) (aR 4)).2 t (tY ht))] at aQ;exact(nW D J ez rfl rfl aQ)
     .refine b7 G λa6 a5=>?_
      try clear G
      subst a6;subst a5;refine zG p2 λD J ez a4 a0 aQ=>?_
      try clear p2
      subst a4;subst a0;exact ne_intsK (cZ _ ((hi.at.2 _ (zT cd)).1) rfl ⟨_,rfl⟩) cn (cZ _ ((hi.at.2 _ (zH)).1) rfl ⟨_,rfl⟩) aQ (by have:=hc.hu;refine(?_:c.un+64<cT);exact zJ this (bR true)) (hq _ s ⟨rfl,λp hp=>zT hp⟩ hi)
    case c2=>
     refine b7 G λcB H=>?_
     try clear G
     have cA:¬th (i:Int)=DE (dF vs):=by
      intro e;rw[decide_eq_true e] at cB;cases cB
     have dd:=(cz i cy).resolve_left cA;refine AH (P1:=λb bm=>b=false∧∀p∈NN,p∈bm) ?_ (λbm p2=>by cases p2.1) (λbm p2=>⟨rfl,p2.2⟩);refine AG (P:=λv n1=>(∃t,v=.int (jm vs (th (i:Int))) t)∧∀p∈n',p∈n1) (P2:=λv n1 v2 n2=>(∃t,v2=.int (jm vs (dF vs)) t)∧∀p∈n1,p∈n2) (vz hc (H _ (B _ m5)) d5 (H _ (B _ br)) (H _ cd) hv hl cn rfl) (λv n1 G=>vy hc (G.2 _ (H _ (B _ m5))) d5 (G.2 _ (H _ (B _ br))) (G.2 _ (H _ (B _ bo))) hv hl cw cc) (λv n1 v2 n2 G p2 Q s hi hq=>?_);obtain ⟨⟨t1,rfl⟩,G⟩:=G;obtain ⟨⟨t2,rfl⟩,p2⟩:=p2;refine le_int ?_;rw[decide_eq_false (by lia)];exact hq false s ⟨rfl,λp hp=>p2 p (G p (H p (B p hp)))⟩ hi
end
section
open W PyProof Rows
open PyProof.Rows.LCg
section
variable {cs:Scope}{c:Fm W0 cs}{sc:Scope}{k:Cx c sc}{m:Lo}{n:Ns}{R:Re}
theorem Fc{pos}(hl:Ev k m n l (.int a))(hr:Ev k m n r (.flt x))(hm:a.natAbs<2 ^ 1023):Ev k m n (.BinOp l .Sub r pos) (.flt (mz (bE a) x)):=
 ⟨λ_ s hi hq=>dX (hl.run _ s hi λv s1 hv h1=>hr.run _ s1 h1 λv2 s2 B h2=>by
  refine cp hv λt z=>?_
  try clear hv
  subst z;refine cp B λu e=>?_
  try clear B
  subst e
  exact sub_if_fits hm (hq _ _ ⟨_,rfl⟩ h2.toks))⟩
theorem G0{pos wh}(hl:Ev k m n l (.flt x))(hr:Ev k m n r (.int a))(hm:autoParam (eN .NotEq r=false) zAc):Tw k m n (.Compare l [.NotEq] [r] pos) wh (fG x a != some dh):=
 ⟨λ_ s hi hq=>bX (hl.run _ s hi λv s1 hv h1=>hr.run _ s1 h1 λv2 s2 B h2=>by
  refine cp hv λt z=>?_
  try clear hv
  subst z;refine cp B λu e=>?_
  try clear B
  subst e
  exact ne_fi (aY (hq _ h2))) hm⟩
end
noncomputable def Hr(k:Nat):UInt64:=if (2:Int)<(k:Int) then mz (bE 3) (xu k) else xu k
noncomputable def sJ(k:Nat):Int:=if 5-(k:Int)<(k:Int) then 5-(k:Int) else (k:Int)
theorem Kh:∀k,k<6→(fG (fW (fW (bE 2) (Hr k)) (bE (5-sJ k))) (3*sJ k) != some dh)=false:=by decide +kernel
theorem Lv(h:k<6):0≤sJ k∧sJ k≤5:=by
 unfold sJ
 split<;>lia
theorem Lu{c:Fm W0 lawS}{m:Lo}{N:Ns}(hc:LawC c){o5:Obj}{vt:Addr}{vv:List Value}{vs:List Int}{ep:Nat}{i k:Nat}{J:Tok}{p1 p2 p3 p4 p5 p6 Y U O z:Pos}{kk:Nat}(m5:(c.L+1+1+1+1+1,o5)∈N)(d5:o5.data=.cell (some (.ref vt)))(B:(vt,listOf vv.toArray ep)∈N)(hv:au vv vs)(hl:vs.length=4)(u:i<4)(hk:vs.getD i 0=(k:Int))(hm:m (ae "thing")=some (.int (i:Int) J)):
  Er c.cx m N (.Call (.Name (ae "min") p1) [.Subscript (.Name (ae "votes") p2) (.Name (ae "thing") p3) p4,.BinOp (.Constant (.int 5) kk p5) .Sub (.Subscript (.Name (ae "votes") p6) (.Name (ae "thing") Y) U) O] [] z) (λv n'=>(∃t,v=.int (sJ k) t)∧n'=N):=by
 have e:∀pa H G,Ev c.cx m N (.Subscript (.Name (ae "votes") pa) (.Name (ae "thing") H) G) (.int (k:Int)):=λpa H G=>by
  rw[← hk];exact fk (eH (a:=c.L+1+1+1+1+1) (o:=o5) (by refine(?_:c.cl.lookup _=_);rw[hc.cl];rfl) m5 d5) (ai hm) B hv (cb i) (Le (pV hl u)) (cS [i] 1 (.a Z0 Y1) (.k (2 ^ 63)) 1 (.a Z0 Y1) (.k 4) rfl (d9 u))
 exact iL (Fe cO (e _ _ _) (jl bf (e _ _ _)))
theorem Lz(hf:Ev k m n f (.val (.builtin "isinstance")))(h1:Ev k m n e1 (.flt x))(h2:Ev k m n e2 (.val (.type "float")))
  (c1:autoParam (CC k.env f [e1,e2] pos) zAa) (c2:autoParam (SE k.env e1 [e2]) zAa) (c3:autoParam (SE k.env e2 []) zAa):Ev k m n (.Call f [e1,e2] [] pos) (.val (.bool true)):=
 ⟨λQ s hi hQ=>gq (hf.run _ s hi λv s1 u i1=>by
  cases u;refine callWith_builtin1 (aI (h1.run _ s1 i1 λv1 s2 d2 i2=>aI (h2.run _ s2 i2 λv2 z e i3=>bJ ?_) c3) c2) c2 (hplain:=by rw[show _=_ from c3];rfl);obtain ⟨t1,rfl⟩:=d2;cases e
  exact PySem.IsiPair.float_float (hQ _ _ rfl i3)) c1⟩
theorem K7{c:Fm W0 lawS}{m:Lo}{N:Ns}{f:UInt64}{e:PE}{u:Pos}{z H G B:Pos}(he:Ev c.cx m N (.Subscript (.Name (ae "points") z) e u) (.flt f)):
  Tw c.cx m N (.Call (.Name (ae "isinstance") H) [.Subscript (.Name (ae "points") z) e u,.Name (ae "float") G] [] B) (eval (.Call (.Name (ae "isinstance") H) [.Subscript (.Name (ae "points") z) e u,.Name (ae "float") G] [] B) c.env) true:=nr (Lz cO he cO)
theorem KQ{c:Fm W0 lawS}{m:Lo}{n0:Ns}{R:Re}{rest:List Stmt}(hc:LawC c){o1 o2 o3 o4 o5:Obj}{ps qs:Array Value}{vt pa:Addr}{vv vp:List Value}{vs:List Int}{ks:List Nat}
  (d4:o4.data=.cell (some (.ref pa))) (d5:o5.data=.cell (some (.ref vt))) (bl:(vt,bz vv)∈n0) (bo:(pa,bz vp)∈n0) (hp:jp vp ks) (bh:ks.length=4) (a7:vs=ks.map oZ) (br:∀k∈ks,k≤5) (hv:au vv vs)
  (aM:∀(m':Lo),(∀x,x≠ae "thing"→x≠ae "fewer"→x≠ae "off"→m' x=m x)→cK c m' (bL c.L o1 o2 o3 o4 o5 ps qs++n0) rest R):
  cK c m (bL c.L o1 o2 o3 o4 o5 ps qs++n0) (bp 19::rest) R:=by
 have bb:vs.length=4:=by rw[a7,aE,bh]
 refine uJ (a:=0) (b:=4) (k:=4) ?hr rfl (by decide) (λI _ m' n'=>(∀x,x≠ae "thing"→x≠ae "fewer"→x≠ae "off"→m' x=m x)∧n'=bL c.L o1 o2 o3 o4 o5 ps qs++n0) ?h0 ?turn ?done
 case hr=>exact rx cO bf
 case h0=>
  intro I hI;exact⟨λ_ _ _ _=>rfl,rfl⟩
 case done=>
  intro I m' n1 hI J;refine b7 J λaQ ar=>?_;clear J;subst ar;exact aM m' aQ
 case turn=>
  intro i t m' n1 I oI U hI H;refine b7 H λaQ ap=>?_;clear H;subst ap;rw[fO];refine b7 (EM a7 br i) λk6 a0=>?_;refine cp (hp.at bh (t:=(i:Int)) (cb i) (cS [i] 1 (.a Z0 Y1) (.k 4) 1 (.a Z0 Y1) (.k 4) rfl (d9 U))) λtp aD=>?_;rw[bC] at aD;generalize ks.getD i 0=k at k6 a0 aD
  have m5:(c.L+1+1+1+1+1,o5)∈(I,oI)::(bL c.L o1 o2 o3 o4 o5 ps qs++n0):=by k_extra "zmm"
  have m4:(c.L+1+1+1+1,o4)∈(I,oI)::(bL c.L o1 o2 o3 o4 o5 ps qs++n0):=by k_extra "zmm"
  have as:(vt,listOf vv.toArray vv.length)∈(I,oI)::(bL c.L o1 o2 o3 o4 o5 ps qs++n0):=zT (zR bl);have a6:(pa,listOf vp.toArray vp.length)∈(I,oI)::(bL c.L o1 o2 o3 o4 o5 ps qs++n0):=zT (zR bo)
  have bj:∀p∈bL c.L o1 o2 o3 o4 o5 ps qs++n0,p∈(I,oI)::(bL c.L o1 o2 o3 o4 o5 ps qs++n0)∧p.1≠I:=λp hp=>⟨zT hp,kX (hI p hp)⟩
  have mI:(I,oI)∈(I,oI)::(bL c.L o1 o2 o3 o4 o5 ps qs++n0):=zH;generalize (I,oI)::(bL c.L o1 o2 o3 o4 o5 ps qs++n0)=NN at m5 m4 as a6 bj mI ⊢
  have bm:∀mm (O:mm (ae "thing")=some (.int (i:Int) t)) pa pb pc,Ev c.cx mm NN (.Subscript (.Name (ae "votes") pa) (.Name (ae "thing") pb) pc) (.int (k:Int)):=λmm O pa pb pc=>by
   rw[← a0];exact fk (eH (a:=c.L+1+1+1+1+1) (o:=o5) (by refine(?_:c.cl.lookup _=_);rw[hc.cl];rfl) m5 d5) (ai O) as hv (cb i) (Le (pV bb U)) (cS [i] 1 (.a Z0 Y1) (.k (2 ^ 63)) 1 (.a Z0 Y1) (.k 4) rfl (d9 U))
  have ax:∀mm (O:mm (ae "thing")=some (.int (i:Int) t)) a5 pb pc,Ev c.cx mm NN (.Subscript (.Name (ae "points") a5) (.Name (ae "thing") pb) pc) (.flt (xu k)):=λmm O a5 pb pc=>
   uN (eH (a:=c.L+1+1+1+1) (o:=o4) (by refine(?_:c.cl.lookup _=_);rw[hc.cl];rfl) m4 d4) (ai O) a6 ⟨tp,by rw[bC];exact aD⟩ (cb i) (cS [i] 1 (.a Z0 Y1) (.k (2 ^ 63)) 1 (.a Z0 Y1) (.k 4) rfl (d9 U))
  have bi:=Lv k6;have bv:(5-sJ k).natAbs<2 ^ 1023:=aK (RF (cS [sJ k] 1 Y0 (.s (.k 5) Z0) 1 Z0 (.k 5) rfl bi.2) (cS [sJ k] 1 (.s (.k 5) Z0) (.k 5) 1 Y0 Z0 rfl bi.1):(5-sJ k).natAbs≤5) (by decide +kernel);refine dG (Lu hc m5 d5 as hv bb U a0 rfl) ?_;intro v n' G;refine b7 G λB aj=>?_;clear G;refine cp B λtf a4=>?_
  try clear B
  subst a4;subst aj;refine rq (y:=Hr k) (yk (eD qk (bm _ rfl _ _ _) bf) (λhb=>?_) (λhb=>?_)) λto=>?_
  .unfold Hr
   rw[if_pos (of_decide_eq_true hb)];exact Fc bf (ax _ rfl _ _ _) (by decide +kernel)
  .unfold Hr
   rw[if_neg (of_decide_eq_false hb)];exact ax _ rfl _ _ _
  refine tC (P:=λb e=>b=false∧e=n') ?test ?yes ?no
  case yes=>
   intro e z;refine b7 z λh _=>?_;clear z;cases h
  case no=>
   intro e u;refine b7 u λ_ ah=>?_;clear u;subst ah;exact bQ (b9 ⟨mI,bL c.L o1 o2 o3 o4 o5 ps qs++n0,bj,λx h1 h2 h3=>(if_neg h3).trans ((if_neg h2).trans ((if_neg h1).trans (aQ x h1 h2 h3))),rfl⟩)
  case test=>
   refine Dp (P1:=λb e=>b=false∧e=n') (xH (Do (qt (K7 (ax _ rfl _ _ _)))) λb e h=>⟨h.1,h.2⟩) (λe Y=>?_) (λe Y=>by cases Y.1);refine b7 Y λ_ ab=>?_
   try clear Y
   subst ab;refine Dp (P1:=λb n'=>b=false∧n'=e) (xH (Do (G0 (yj (yi bf (mX rfl) (by decide +kernel)) (jl bf (ai (i:=sJ k) rfl)) bv) (kh bf (ai (i:=sJ k) rfl) (fL (by decide))))) λb n' h=>⟨h.1.trans (Kh k k6),h.2⟩) (λn' Y=>?_) (λn' Y=>by cases Y.1);refine b7 Y λ_ aa=>?_
   try clear Y
   subst aa;exact zh ⟨rfl,rfl⟩
end
section
open W PyProof.Rows
noncomputable def oE(a:Addr):M7 PySem.Fin:=do
 let items ← gH (.ref a)
 lX (.ref a) λ_=>#[]
 let before ← seqEpoch a
 let fM ← newTuple items.toList
 let keyStore ← newList []
 gm [fM,keyStore] do
  rule "list.sort.reverse"
  let kind ← if items.size<2 then ck general' else keyKind' items
  let ((),s) ← (if items.size<2 then ck () else sortRuns').run (ot kind (items.zip items).reverse #[] 7 none)
  let sorted:=(arrOf s).map (·.2)
  let touched:=(← seqEpoch a) != before
  lX (.ref a) λ_=>sorted.reverse
  if let some e:=failedOf s then rule "list.sort.comparison-raised";throw e
  if touched then rule "list.sort.modified";raiseError "ValueError" "list modified during sort"
  ret .none
theorem J5(a:Addr):Builtin.«list.sort» ⟨[.ref a],[(PySem.Str.ofString "reverse",.bool true)]⟩=oE a:=rfl
theorem J4(a:Addr):Builtin.«list.sort» ⟨[.ref a],[(PySem.Str.ofString "key",.none),(PySem.Str.ofString "reverse",.bool true)]⟩=oE a:=rfl
section
variable {prog:Program}{w:World}{A:Around}{E:VP}{s:Shared}{h₀:Heap}{L a:Addr}{m:Lo}{news:Ns}{vs:List Value}
theorem DM{n:Nat}{P:PySem.Fin→Shared→Prop}(F:Fr h₀ L s.heap m)(N:ba h₀ L s.heap news)(ho:s.heap.get? a=some (cE "list" vs.toArray n))(ab:a≠L)(ah:h₀.get? a=none)(ar:∀p∈news,p.1≠a)(O:vs.length<64)
  (h1:vs.length<2→∀c h',Fr h₀ L h' m→ba h₀ L h' ((a,cE "list" vs.toArray c)::news)→P (.done (.ret .none)) {s with heap:=h'})
  (h2:2≤vs.length→∀e1 h',Fr h₀ L h' m→ba h₀ L h' ((a,cE "list" #[] e1)::news)→ay (aq prog w) A (keyKind' vs.toArray) (λκ s'=>(kas_sort vs.length).kasWp (kas_ask prog w A κ vs.reverse)
   (λp aa=>KasFin h₀ L m a e1 ((p.toList.map λi=>vs.reverse.getD i Value.none).reverse) (λs3=>P (.done (.ret .none)) s3) aa) s') (λ_ _=>False) {s with heap:=h'}):
  ay (aq prog w) A (oE a) P E s:=by
 have s1:=cu s.heap a (bI λ_=>(#[]:Array Value))
 obtain ⟨e1,ap⟩:∃e1,(s.heap.update a (bI λ_=>(#[]:Array Value))).get? a=some (cE "list" #[] e1):=⟨_,fA ho λ_=>#[]⟩
 have F3:Fr h₀ L (((s.heap.update a (bI λ_=>(#[]:Array Value))).push (cE "tuple" vs.toArray 0)).push (cE "list" #[] 0)) m:=((kas_fr F s1 ab ah).push _).push _
 have N2:ba h₀ L (((s.heap.update a (bI λ_=>(#[]:Array Value))).push (cE "tuple" vs.toArray 0)).push (cE "list" #[] 0)) news:=
  (kas_news N s1 ar).grown λb x e=>aG _ (aG _ e)
 have N3:ba h₀ L (((s.heap.update a (bI λ_=>(#[]:Array Value))).push (cE "tuple" vs.toArray 0)).push (cE "list" #[] 0)) ((a,cE "list" #[] e1)::news):=λp hp=>by
  rcases ak.mp hp with rfl|hp
  .exact(eR (aG _ (aG _ ap)) ab ah)
  .exact N2 p hp
 unfold oE;refine af (listItems_at ho rfl ?_);refine af (pY ho rfl ?_ (by rw[aV,eK];exact rZ (aL O) (bR true)) (c7 _));refine af (sW ap rfl ?_);refine af (wpAny_newTuple ?_ (by refine(?_:vs.length≤_);rw[eK];exact rZ (aL O) (bR true)));refine af (vi ?_ (c7 _));refine bA ?_;refine(?_:ay (aq prog w) A _ P E {s with heap:=((s.heap.update a (bI λ_=>(#[]:Array Value))).push (cE "tuple" vs.toArray 0)).push (cE "list" #[] 0)});refine af (gv ?_)
 by_cases J:vs.length<2
 .have H:vs.toArray.size<2:=by rw[aV];exact J
  rw[if_pos H,if_pos H];refine af (ag ?_);refine af (ag ?_);dsimp only
  have G:((arrOf (ot general' (vs.toArray.zip vs.toArray).reverse #[] 7 none)).map (·.2)).reverse=vs.toArray:=by
   refine(?_:((vs.toArray.zip vs.toArray).reverse.map (·.2)).reverse=vs.toArray);apply oq.mp;rw[kI,vg,kI,oo,vk,Df];exact JH (aR _)
  rw[G];have na:=N3 (a,cE "list" #[] e1) (zH);have s2:=cu (((s.heap.update a (bI λ_=>(#[]:Array Value))).push (cE "tuple" vs.toArray 0)).push (cE "list" #[] 0)) a (bI λ_=>vs.toArray)
  obtain ⟨c2,hc2⟩:∃c2,((((s.heap.update a (bI λ_=>(#[]:Array Value))).push (cE "tuple" vs.toArray 0)).push (cE "list" #[] 0)).update a (bI λ_=>vs.toArray)).get? a=some (cE "list" vs.toArray c2):=⟨_,fA na.1 λ_=>vs.toArray⟩
  refine af (sW na.1 rfl ?_);refine af (pY na.1 rfl ?_ (c7 _) (by rw[aV,eK];exact rZ (aL J) (bR true)));simp only[bne_self_eq_false,g9,if_false];refine ag (h1 J c2 _ (F3.change s2 na.2.1 na.2.2) λp hp=>?_)
  rcases ak.mp hp with rfl|hp
  .exact(eR hc2 ab ah)
  .exact⟨s2.extBut _ _ (ar p hp) (N2 p hp).1,(N2 p hp).2⟩
 .have aj:2≤vs.length:=cJ J
  have H:¬vs.toArray.size<2:=by rw[aV];exact J
  rw[if_neg H,if_neg H];refine af (cg (h2 aj e1 _ F3 N3) (λκ s0 ask=>?_) λ_ _ x=>x.elim);have aD:vs.reverse.length=vs.length:=bg
  have ax:(vs.toArray.zip vs.toArray).reverse=rL vs.reverse:=by
   unfold rL;apply oq.mp;rw[kI,oo,oo];rw[Gs,Gs,List.reverse_zipWith rfl]
  rw[ax];rw[kas_ask_eq] at ask
  have aQ:ot κ (rL vs.reverse) #[] 7 none=kas_st κ (rL vs.reverse) (bO (aU vs.reverse.length)):=by
   have e:=kas_range (rL vs.reverse);rw[pairsOf_size] at e;refine(?_:ot κ (rL vs.reverse) #[] 7 none=ot κ ((bO (aU vs.reverse.length)).map (kas_item (rL vs.reverse))) #[] 7 none);rw[e]
  rw[← aD] at ask aj O
  have run:=kas_runs (E:=E) (Q:=λ_ B s'=>∃p:Array Nat,p.size=vs.reverse.length∧arrOf B=p.map (kas_item (rL vs.reverse))∧failedOf B=none∧KasFin h₀ L m a e1 ((p.toList.map λi=>vs.reverse.getD i Value.none).reverse) (λaa=>P (.done (.ret .none)) aa) s')
   aj O (λp' B s' a1 a2 a3 a4=>(OJ p' a1 a2 a3 a4)) ask
  rw[← aQ] at run;refine af (cg run ?_ λ_ _ e=>e);intro Y s' z;obtain ⟨⟨⟩,B⟩:=Y;refine sI z λp hp aM hf u=>?_;clear z;refine hH u λas g F' N' U k=>?_
  try clear u
  dsimp only;refine hH U.split λpre post e0 hg x1 x2=>?_;rw[e0] at N';have na:=N' (a,cE "list" #[] e1) (zR (.head _))
  have G:((arrOf B).map (·.2)).reverse=bO ((p.toList.map λi=>vs.reverse.getD i Value.none).reverse):=by
   apply oq.mp;rw[aM,kI,Array.map_map,vg]
   congr 1
   exact rR λi _=>by refine(?_:(kas_item (rL vs.reverse) i).2=_);rw[kas_item_eq]
  have hsz:(bO ((p.toList.map λi=>vs.reverse.getD i Value.none).reverse)).size=vs.reverse.length:=by rw[aV,bg,aE,Dh,hp]
  rw[G];have s2:=cu s'.heap a (bI λ_=>bO ((p.toList.map λi=>vs.reverse.getD i Value.none).reverse))
  obtain ⟨c2,hc2⟩:∃c2,(s'.heap.update a (bI λ_=>bO ((p.toList.map λi=>vs.reverse.getD i Value.none).reverse))).get? a=some (cE "list" (bO ((p.toList.map λi=>vs.reverse.getD i Value.none).reverse)) c2):=⟨_,fA na.1 λ_=>bO ((p.toList.map λi=>vs.reverse.getD i Value.none).reverse)⟩
  refine af (sW na.1 rfl ?_);refine af (pY na.1 rfl ?_ (c7 _) (aw (fu hsz) (by rw[eK];exact rZ (aL O) (bR true))));rw[hf];simp only[bne_self_eq_false,g9,if_false];refine ag (k _ c2 (kas_fr F' s2 na.2.1 na.2.2) ?_);rw[hg];exact Mw N' x1 x2 s2 hc2
theorem zX(l:List Value):((aU l.length).map λi=>l.getD i Value.none)=l:=by
 refine ou (by simp) λi h1 h2=>?_;simp only[cG,mE,az,ao h2,GN]
theorem ug(F:Fr h₀ L s.heap m)(N:ba h₀ L s.heap news)(hl:s.heap.IsList l vs.toArray)(J:vs.length<64)
  (aj:gX "sorted" ⟨[.ref l],kw⟩) (ah:∀x,gX "list.sort" ⟨[.ref x],kw⟩) (ht:∀x,Builtin.«list.sort» ⟨[.ref x],kw⟩=oE x)
  (hk:2≤vs.length→∀h' (Q':SortKind→Shared→Prop),Fr h₀ L h' m→ba h₀ L h' news→Q' κ {s with heap:=h'}→ay (aq prog w) A.in1.in1 (keyKind' vs.toArray) Q' (λ_ _=>False) {s with heap:=h'})
  (hc:∀i j h' tk (C:Bool→Shared→Prop),i<vs.length→j<vs.length→Fr h₀ L h' m→ba h₀ L h' news→(∀b tk',R i j b→C b {s with heap:=h',toks:=tk'})→
   ay (aq prog w) A.in1.in1 (I6 κ (vs.reverse.getD i Value.none) (vs.reverse.getD j Value.none)) C (λ_ _=>False) {s with heap:=h',toks:=tk})
  (h:∀D p c h' tk,P vs.length p→(2≤vs.length→Good R lt vs.length→tL lt p vs.length)→(∀q∈news,q.1<D)→Fr h₀ L h' m→ba h₀ L h' ((D,listOf ((p.toList.map λi=>vs.reverse.getD i Value.none).reverse).toArray c)::news)→Q (.ref D) {s with heap:=h',toks:=tk}):
  ay (aq prog w) A (call (.builtin "sorted") [.ref l] kw) Q E s:=by
 refine call_function_entry_kw kind_sorted plain_sorted entry_sorted aj ?_;unfold Builtin.«sorted»;refine af (m:=checkCount "sorted" 1 1 _) (ag ?_);refine af (collect_list hl ?_ (by rw[eK];exact rZ (aL J) (bR true)));refine af (vi ?_ (by rw[eK];exact rZ (aL J) (bR true)))
 have hsz:((s.heap.push (cE "list" #[] 0)).update s.heap.objs.size (bI (·++vs.toArray))).objs.size=s.heap.objs.size+1:=by
  rw[Heap.size_update,size_push']
 have Y:(((s.heap.push (cE "list" #[] 0)).update s.heap.objs.size (bI (·++vs.toArray))).push (cE "list" vs.toArray 0)).get? (s.heap.objs.size+1)=some (cE "list" vs.toArray 0):=by
  rw[← hsz];exact a9 _ rfl
 have keep:∀b o,s.heap.get? b=some o→(((s.heap.push (cE "list" #[] 0)).update s.heap.objs.size (bI (·++vs.toArray))).push (cE "list" vs.toArray 0)).get? b=some o:=λb o q=>by
  have u:b<s.heap.objs.size:=bM q;rw[I4 _ _ _ (by rw[hsz];exact aB (aW u)),Heap.get?_update_ne _ _ _ _ (aB u),I4 _ _ _ (aB u)];exact q
 have hL:L<s.heap.objs.size:=F.ns.lt;have hD:∀q∈news,q.1<s.heap.objs.size+1:=λq hq=>aW (bM (N q hq).1);refine(?_:ay _ _ _ _ _ {s with heap:=((s.heap.push (cE "list" #[] 0)).update s.heap.objs.size (bI (·++vs.toArray))).push (cE "list" vs.toArray 0)});rw[hsz];refine af (bA (wpAny_call_entry_kw Bx (c9 _ Y rfl) Az ?body (ah _)))
 case body=>
  have ab:=ht (s.heap.objs.size+1);refine(?_:ay (aq prog w) A.in1.in1 (Builtin.«list.sort» ⟨[.ref (s.heap.objs.size+1)],kw⟩) _ _ _);rw[ab]
  refine DM (s:={s with heap:=((s.heap.push (cE "list" #[] 0)).update s.heap.objs.size (bI (·++vs.toArray))).push (cE "list" vs.toArray 0)})
   (F.kept keep) (N.grown keep) Y (aF (aW hL)) (Dd (aw F.above (dI (aL hL))))
   (λp hp=>aB (hD p hp)) J (λu c h' F' N'=>?_) (λh2 e1 h' F' N'=>?_)
  .refine(c9 _ rfl (ag (c9 _ rfl (h _ (bO (aU vs.length)) c h' s.toks (C6 _) (λh2=>by exact pd (wP u h2)) hD F' ?_))))
   have e:((bO (aU vs.length)).toList.map λi=>vs.reverse.getD i Value.none).reverse=vs:=by
    have e2:=zX vs.reverse;rw[bg] at e2;rw[List.toList_toArray,e2,Df]
   rw[e];exact N'
  .refine cg (hk h2 h' (λU s'=>U = κ∧s' = {s with heap:=h'}) F' (λp hp=>N' p (.tail _ hp)) ⟨rfl,rfl⟩) (λU s' aa=>?_) λ_ _ x=>x
   refine b7 aa λH G=>?_
   try clear aa
   subst H;subst G;refine tg (n:=vs.length) (R:=R) (I:=λs'=>∃O tk,s' = {s with heap:=O,toks:=tk}∧Fr h₀ L O m∧ba h₀ L O ((s.heap.objs.size+1,cE "list" #[] e1)::news)) (λi j hi hj C s1 hI hC=>?_) (λp s1 hp hI=>?_) (uE (lt:=lt) h2) (ir h' s.toks rfl F' N')
   .refine gJ hI λh1 tk B F1 N1=>?_
    try clear hI
    subst B;exact hc i j h1 tk C hi hj F1 (λp hp=>N1 p (.tail _ hp)) λb tk' hR=>hC b _ hR (ir h1 tk' rfl F1 N1)
   .refine gJ hI λh1 tk z F1 N1=>?_
    try clear hI
    subst z;refine KasFin.intro F1 N1 (UpdF.head (λq hq=>aB (hD q hq))) λh3 c F3 N3=>?_;exact(c9 _ rfl (ag (c9 _ rfl (h _ p c h3 tk hp.1 (λ_=>hp.2) hD F3 N3))))
end
noncomputable def ls:List Int→List Int→Bool
 | [],[]=>false
 | [],_::_=>true
 | _::_,[]=>false
 | x::xs,y::ys=>if x=y then ls xs ys else decide (x<y)
noncomputable abbrev IsL(h:Heap)(l:Addr)(vs:List Value)(n:Nat):Prop:=h.get? l=some {cls:=.type "list",dict:=none,data:=.seq vs.toArray n,slots:=#[]}
theorem li{M:Model}{A:Around}{E:VP}{s:Shared}{Q:Array Value→Shared→Prop}(hl:IsL s.heap l vs n)(h:Q vs.toArray s):ay M A (gH (.ref l)) Q E s:=by
 unfold gH;exact af (af (n4 hl (ag (ag h))))
noncomputable abbrev Cu(l b:Addr)(i:Nat)(c:Int):M7 Fin:=Builtin.«list.__eq__.loop» ⟨[.ref l,.ref b,jf i,jf c],[]⟩
theorem KI{i:Nat}{M:Model}{A:Around}{E:VP}{s:Shared}{Q:Fin→Shared→Prop}(hl:IsL s.heap l vs n)(hb:IsL s.heap b us n2)(h:vs.toArray[(i:Int).toNat]?=none∨∃x,vs.toArray[(i:Int).toNat]?=some x∧us.toArray[(i:Int).toNat]?=none)(hq:Q (.done (.ret (.bool (decide (vs.length<us.length))))) s):ay M A (Cu l b i 0) Q E s:=by
 refine af (li hl (af (li hb ?_)))
 rcases h with h|⟨x,h,h2⟩
 .rw[h]
  exact af (li hl (af (li hb (ag hq))))
 .rw[h,h2]
  exact af (li hl (af (li hb (ag hq))))
theorem HC{i:Nat}{prog:Program}{w:World}{A:Around}{E:VP}{s:Shared}{Q:Fin→Shared→Prop}(hl:IsL s.heap l vs n)(hb:IsL s.heap b us n2)(h1:vs.toArray[(i:Int).toNat]?=some (.int x t))(h2:us.toArray[(i:Int).toNat]?=some (.int y u))(z:x=y→Q (.again (.builtin "list.__eq__.loop" ⟨[.ref l,.ref b,jf ((i:Int)+1),jf 0],[]⟩)) s)(hn:x≠y→Q (.done (.ret (.bool (decide (x<y))))) s):ay (aq prog w) A (Cu l b i 0) Q E s:=by
 refine af (li hl (af (li hb ?_)));rw[h1,h2];refine af (hU ?_)
 by_cases e:x=y
 .exact PySem.W.KFB.if_so (beq_iff_eq.mpr e) (ag (z e))
 .refine PySem.W.KFB.if_not (beq_eq_false_iff_ne.mpr e) (af (li hl (af (li hb ?_))))
  rw[h1,h2];exact af ((wpAny_lt_int (ag (hn e)):ay _ _ (fi .Lt (.int x t) (.int y u)) _ _ _))
theorem yC{c:Int}{C:Nat→Nat→Bool}{D:Int→Int→Bool}{G:List Int→List Int→Bool}
  (hC:∀m n i,C (m+i) (n+i)=C m n) (h0:∀ys,G [] ys=C 0 ys.length) (h1:∀x xs,G (x::xs) []=C (x::xs).length 0) (h2:∀x xs ys,G (x::xs) (x::ys)=G xs ys) (h3:∀x y xs ys,x≠y→G (x::xs) (y::ys)=D x y)
  (he:∀{M:Model}{A:Around}{E:VP}{s:Shared}{Q:Fin→Shared→Prop}{i:Nat},IsL s.heap l vs n→IsL s.heap b us n2→(vs.toArray[(i:Int).toNat]?=none∨∃x,vs.toArray[(i:Int).toNat]?=some x∧us.toArray[(i:Int).toNat]?=none)→Q (.done (.ret (.bool (C vs.length us.length)))) s→ay M A (Cu l b i c) Q E s)
  (hs:∀{prog:Program}{w:World}{A:Around}{E:VP}{s:Shared}{Q:Fin→Shared→Prop}{i:Nat}{x y:Int}{t u:Tok},IsL s.heap l vs n→IsL s.heap b us n2→vs.toArray[(i:Int).toNat]?=some (.int x t)→us.toArray[(i:Int).toNat]?=some (.int y u)→(x=y→Q (.again (.builtin "list.__eq__.loop" ⟨[.ref l,.ref b,jf ((i:Int)+1),jf c],[]⟩)) s)→(x≠y→Q (.done (.ret (.bool (D x y)))) s)→ay (aq prog w) A (Cu l b i c) Q E s)
  {prog:Program}{w:World}{R:Result→Shared→Prop}{s:Shared} (hl:IsL s.heap l vs n) (hb:IsL s.heap b us n2) (O:au U xs):
  ∀{B:List Value}{ys:List Int} (_:au B ys) (i:Nat) (_:vs.drop i=U) (_:us.drop i=B) (_:vs.length=U.length+i) (_:us.length=B.length+i) (A:Around),R (.ok (.ret (.bool (G xs ys)))) s→
   dH (aq prog w) A (.builtin "list.__eq__.loop" ⟨[.ref l,.ref b,jf i,jf c],[]⟩) R s:=by
 have z:∀{ws:List Value}{wd}{i:Nat},ws.drop i=wd→ws.toArray[(i:Int).toNat]?=wd[0]?:=λ{ws wd i} e=>by
  rw[CX,bC,← e,sG];rfl
 have Y:∀{ws:List Value}{v wd}{i:Nat},ws.drop i=v::wd→ws.drop (i+1)=wd:=λ{ws v wd i} e=>by
  rw[← Nd,e];rfl
 induction O with
 | nil=>
  intro B ys H i e1 e2 J l2 A hR;refine eM m7 (he hl hb (.inl (z e1)) ?_);rw[J,l2,hC,H.length];exact h0 ys▸hR
 | cons x t O ih=>
  intro B ys H i e1 e2 J l2 A hR
  cases H with
  | nil=>
   refine eM m7 (he hl hb (.inr ⟨_,z e1,z e2⟩) ?_);rw[J,l2,hC,(IntsAre.cons x t O).length];exact h1 x _▸hR
  | cons y u H=>
   refine eM m7 (hs hl hb (z e1) (z e2) (λe=>?_) λe=>h3 x y _ _ e▸hR);subst e;exact⟨iH mZ _,ih H (i+1) (Y e1) (Y e2) (by rw[J];exact fN _ _) (by rw[l2];exact fN _ _) A (h2 x _ _▸hR)⟩
theorem Oh:∀ys,ls [] ys=decide (0<ys.length)
 | []=>rfl
 | _::ys=>(decide_eq_true (gE _)).symm
theorem Qu(x xs):ls (x::xs) []=decide ((x::xs).length<0):=(decide_eq_false (xq _)).symm
theorem Og(x xs ys):ls (x::xs) (x::ys)=ls xs ys:=if_pos rfl
theorem Of(x y xs ys)(h:x≠y):ls (x::xs) (y::ys)=decide (x<y):=if_neg h
theorem A0(l b:Addr)(vs us:List Value)(xs ys:List Int)(n n2:Nat)(u:au vs xs)(e:au us ys):Meets (Builtin.«list.__lt__» ⟨[.ref l,.ref b],[]⟩)
   (λ_ R s=>s.heap.get? l=some {cls:=.type "list",dict:=none,data:=.seq vs.toArray n,slots:=#[]}∧s.heap.get? b=some {cls:=.type "list",dict:=none,data:=.seq us.toArray n2,slots:=#[]}∧
    R (.ok (.ret (.bool (ls xs ys)))) s):=by
 intro prog w A R s ⟨hl,hb,h⟩;refine af (bN (a:=(.ref l,[.ref b])) (by kernel_rfl) (af (lz (show s.TypeIs (.ref b) "list" from ⟨_,hb,rfl⟩) xA (PySem.W.KFB.if_not (by rfl) (PySem.W.KFB.if_not (by rfl) (ag ?_))))));exact⟨iH mZ _,yC (C:=λm n=>decide (m<n)) (G:=ls) (λm n i=>decide_eq_decide.mpr AA) Oh Qu Og Of KI HC hl hb u e 0 rfl rfl rfl rfl A h⟩
section
variable {prog:Program}{w:World}{A:Around}{E:VP}{s:Shared}{l b:Addr}{vs us:List Value}{xs ys:List Int}{n n2:Nat}
theorem LP(hu:A.units<cT)(hl:s.heap.get? l=some (listOf vs.toArray n))(hb:s.heap.get? b=some (listOf us.toArray n2))(u:au vs xs)(e:au us ys)(h:Q (.bool (ls xs ys)) s):
  ay (aq prog w) A (fi .Lt (.ref l) (.ref b)) Q E s:=by
 refine(?_:ay (aq prog w) A (je .Lt (.ref l) (.ref b)) Q E s);exact IT (c9 _ hl rfl) (c9 _ hb rfl) PySem.F.slot_list_lt PySem.F.entry_list_lt (PySem.F.args_list_lt_2 _ _) (A0 l b vs us xs ys n n2 u e) (nB hl hb (λz=>nomatch z) h) hu
theorem Kg(hu:A.units<cT)(hl:s.heap.get? l=some (listOf vs.toArray n))(hb:s.heap.get? b=some (listOf us.toArray n2))(u:au vs xs)(e:au us ys)(h:Q (ls xs ys) s):
  ay (aq prog w) A (oneLt' true (.ref l) (.ref b)) Q E s:=by
 rw[oneLt'_eq];refine af (wpAny_cRoomFor hu ?_);refine af (hZ (T:="list") (c9 _ hl rfl) PySem.F.slot_list_lt (call_meets PySem.F.slot_list_lt (c9 _ hl rfl) PySem.F.entry_list_lt (PySem.F.args_list_lt_2 _ _) (A0 l b vs us xs ys n n2 u e) (eR hl hb ?_)));exact aY h
end
noncomputable def AP(K:Frag):Bool:=match K.lookup oa with
 | some ⟨_,_,.dict es _,_⟩=>(nsFind es gP).isNone
 | _=>false
theorem uh{K:Frag}{h:Heap}(X:K.In h)(hN:h.NoLimit)(hk:AP K=true):∃mc,h.Ns oa mc∧mc gP=none:=by
 unfold AP at hk
 split at hk
 .rename_i es ep sl hl
  refine fK hN λmc hn _=>?_
  try clear hN
  refine(c9 mc hn ?_);refine Ht hn λo es' e ho hd _ hf=>?_
  try clear hn
  have:=X _ _ hl;rw[ho] at this;cases this;cases hd;rw[← hf];exact Option.isNone_iff_eq_none.mp hk
 .cases hk
section
variable {prog:Program}{w:World}{A:Around}{E:VP}{s:Shared}{mc:Lo}
theorem told(hn:s.heap.Ns oa mc)(hm:mc gP=none)(h:Q false s):ay (aq prog w) A (sharingNotTold t) Q E s:=by
 unfold sharingNotTold;refine af (wpAny_nsGet hn ?_);rw[hm];exact ag h
theorem zt(hn:s.heap.Ns oa mc)(hm:mc gP=none)(ht:t≠0)(hu:u≠0)(h:∀e,Q e s):ay (aq prog w) A (isSame (.float p t) (.float q u)) Q E s:=by
 refine(?_:ay (aq prog w) A (qp (p==q&&!Float64.isNaN p) t u) Q E s);unfold qp
 have h0:¬((t==0||u==0)=true):=by simp [ht,hu]
 rw[if_neg h0]
 by_cases e:(t==u)=true
 .rw[if_pos e];exact ag (h _)
 .rw[if_neg e]
  by_cases e2:(!(p==q&&!Float64.isNaN p))=true
  .rw[if_pos e2];exact ag (h _)
  .rw[if_neg e2]
   refine af (told hn hm ?_);refine af (told hn hm ?_);refine af (gv ?_);exact af (qN (ag (h _)))
theorem wn(hn:s.heap.Ns oa mc)(hm:mc gP=none)(ht:t≠0)(hu:u≠0)(h:∀e,(a=b→cV a a=some dh→e=true)→Q e s):
  ay (aq prog w) A (yQ (.float a t) (.float b u)) Q E s:=by
 unfold yQ;refine(?_:ay _ _ (if (ju a t==ju b u)=true then _ else _) Q E s)
 by_cases z:(ju a t==ju b u)=true
 .rw[if_pos z]
  exact af (gv (ag (h true λ_ _=>rfl)))
 .rw[if_neg z]
  refine af (zt hn hm ht hu λe=>?_)
  cases e with
  | true=>exact ag (h true λ_ _=>rfl)
  | false=>
   refine af (yW ?_:ay _ _ (fi .Eq (.float a t) (.float b u)) _ _ _);exact aY (h _ λe1 e2=>by rw[← e1,e2];rfl)
theorem yq(hu:A.units+64<cT)(hl:s.heap.get? x=some (listOf vs.toArray n))(hb:s.heap.get? y=some (listOf us.toArray n2))(G:au vs xs)(B:au us ys)
  (h:∀e,(x=y→e=true)→(x≠y→e=decide (xs=ys))→Q e s):ay (aq prog w) A (yQ (.ref x) (.ref y)) Q E s:=by
 unfold yQ;refine bA ?_;refine(?_:ay _ _ (if (bF x==bF y)=true then _ else _) Q E s)
 by_cases u:x=y
 .subst u
  rw[if_pos (by simp)];exact af (gv (ag (h true (λ_=>rfl) λz=>absurd rfl z)))
 .rw[if_neg (by simpa using u)]
  refine af (eq_intsK (cZ _ hl rfl ⟨n,rfl⟩) G (cZ _ hb rfl ⟨n2,rfl⟩) B hu ?_:ay _ _ (fi .Eq (.ref x) (.ref y)) _ _ _);exact aY (h _ (λz=>absurd z u) λ_=>rfl)
theorem BU(h:∀e,Q e s):ay (aq prog w) A (oneLt' true (.float a t) (.float b u)) Q E s:=by
 rw[oneLt'_eq];refine af (rE rfl ?_);refine af (hZ (sU s a t) PySem.F.slot_float_lt (call_meets PySem.F.slot_float_lt (sU s a t) PySem.F.entry_float_lt (PySem.F.args_float_lt_2 _ _) (AutoFloatG5.float___lt___float_float_0 a t b u).meets ?_));exact aY (h _)
noncomputable def Dr(f:UInt64)(t:Tok)(a:Addr):Obj:={cls:=.type "tuple",data:=.seq #[.float f t,.ref a]}
theorem JO(hu:A.units+64<cT)(hn:s.heap.Ns oa mc)(hm:mc gP=none)(h1:k1≠0)(h2:k2≠0)
  (H:s.heap.get? x=some (Dr u k1 a1)) (G:s.heap.get? y=some (Dr B k2 a2)) (hl:s.heap.get? a1=some (listOf vs.toArray n)) (hb:s.heap.get? a2=some (listOf us.toArray n2)) (hi:au vs xs) (hj:au us ys)
  (h:∀b,(u=B→cV u u=some dh→(a1=a2→b=false)∧(a1≠a2→xs≠ys→b=ls xs ys))→Q b s):ay (aq prog w) A (I6 (tuples' true) (.ref x) (.ref y)) Q E s:=by
 refine kat_lt H rfl G rfl ?_;refine(?_:KatLex prog w A true _ Q [(ju u k1,ju B k2),(bF a1,bF a2)] 0 s);refine My (wn hn hm h1 h2 λe he=>?_)
 cases e with
 | false=>exact kat_no (BU λb=>h b λe1 e2=>absurd (he e1 e2) (by decide))
 | true=>
  refine kat_yes (My (yq hu hl hb hi hj λe h3 h4=>?_))
  cases e with
  | false=>
   have hne:a1≠a2:=λz=>absurd (h3 z) (by decide);refine kat_no (kat_one _ _ (LP (C9 hu) hl hb hi hj (h _ λ_ _=>⟨λz=>absurd z hne,λ_ _=>rfl⟩)))
  | true=>
   refine kat_yes (kat_nil (h _ λ_ _=>⟨λ_=>rfl,λz1 z2=>absurd (of_decide_eq_true (h4 z1).symm) z2⟩))
theorem Hb{h:Heap}{outs:List (Addr×(Addr×List Int))}{scr:Addr×List Int→UInt64}(ho:∀o∈outs,∃tk,h.get? o.1=some (Dr (scr o.2) tk o.2.1)):∃fs,KatTups h (refsOf outs) fs∧(∀v∈fs,∃f t,v=ju f t)∧fs.length=outs.length:=by
 induction outs with
 | nil=>exact(cZ [] (.nil) (λ_ h=>nomatch h) rfl)
 | cons o r z=>
  refine fJ (z λo u=>ho o (zT u)) λfs h1 h2 h3=>?_;refine cp (ho o (zH)) λtk e=>?_;exact(cZ (.float (scr o.2) tk::fs) (.cons e rfl rfl rfl h1) (zC ⟨(ro _ _ rfl),h2⟩) (by simp [h3]))
end
theorem qA:∀xs:List Int,ls xs xs=false
 | []=>rfl
 | x::xs=>by simp [ls,qA xs]
theorem r8:∀{xs ys:List Int},xs≠ys→ls xs ys=false→ls ys xs=true
 | [],[],h,_=>absurd rfl h
 | [],_::_,_,h=>by simp [ls] at h
 | _::_,[],_,_=>rfl
 | x::xs,y::ys,h,h2=>by
  unfold ls at h2 ⊢
  by_cases e:x=y
  .subst e
   simp only[if_true] at h2 ⊢;exact r8 (λz=>h (by rw[z])) h2
  .rw[if_neg e] at h2
   rw[if_neg (Ne.symm e)];have:=of_decide_eq_false h2;exact decide_eq_true (by omega)
theorem pu:∀{xs ys u:List Int},ls xs ys=true→ls ys u=true→ls xs u=true
 | [],[],_,h,_=>by simp [ls] at h
 | [],_::_,[],_,h=>by simp [ls] at h
 | [],_::_,_::_,_,_=>rfl
 | _::_,[],_,h,_=>by simp [ls] at h
 | _::_,_::_,[],_,h=>by simp [ls] at h
 | x::xs,y::ys,z::u,h1,h2=>by
  unfold ls at h1 h2 ⊢
  by_cases e:x=y
  .subst e
   rw[if_pos rfl] at h1
   by_cases e2:x=z
   .subst e2
    rw[if_pos rfl] at h2 ⊢;exact pu h1 h2
   .rw[if_neg e2] at h2 ⊢
    exact h2
  .rw[if_neg e] at h1
   have G:=of_decide_eq_true h1
   by_cases e2:y=z
   .subst e2
    rw[if_neg e];exact h1
   .rw[if_neg e2] at h2
    have B:=of_decide_eq_true h2;rw[if_neg (by exact λhh=>(qz (g5 [z,x,y] 2 Y0 (.k (-1)) 1 Z0 Z1 1 (.a Z2 Y1) Z0 1 (.a Z1 Y1) Z2 rfl (iq hh) B G)))];exact decide_eq_true (by exact jZ G B)
theorem mG(l:List (Addr×α)):(refsOf l).reverse=refsOf l.reverse:=by unfold refsOf;rw[vk]
noncomputable abbrev vC:=Addr×(Addr×List Int)
noncomputable def rl(outs:List vC)(i:Nat):List Int:=((outs[i]?).map (·.2.2)).getD []
theorem Nz(hp:P outs.length p)(h:tL (λi j=>ls (rl outs i) (rl outs j)) p outs.length)(d:vC):(p.toList.map λi=>outs.getD i d).Pairwise (λa b=>ls a.2.2 b.2.2=true):=by
 rw[ce];intro i j hi hj H
 have u:p.toList.length=outs.length:=by rw[hp.list.length_eq,db]
 simp only[aE] at hi hj
 have e:∀(k:Nat) (hk:k<(p.toList.map λi=>outs.getD i d).length),((p.toList.map λi=>outs.getD i d)[k]).2.2=rl outs (p.getD k 0):=by
  intro k hk;simp only[aE] at hk;have z:k<outs.length:=pV (Eq.symm u) hk
  have B:k<p.size:=by rw[hp.size];exact z
  have G:=hp.lt z
  have e1:p.toList[k]'hk=p.getD k 0:=by
   rw[qV];simp [Gw,B]
  rw[cG,e1];unfold rl;rw[az,ao G];rfl
 rw[e i (by simpa using hi),e j (by simpa using hj)];exact h i j H (pV (Eq.symm u) hj)
noncomputable def wt(scr:Addr×List Int→UInt64)(outs outs2:List vC):Prop:=
 outs2.Perm outs∧((∀o∈outs,∀o'∈outs,scr o.2=scr o'.2)→(∀o∈outs,cV (scr o.2) (scr o.2)=some dh)→(outs.map (·.2.1)).Nodup→(∀o∈outs,∀o'∈outs,o.2.1≠o'.2.1→o.2.2≠o'.2.2)→
  outs2.Pairwise (λa b=>ls b.2.2 a.2.2=true))
noncomputable def RJ(scr:Addr×List Int→UInt64)(outs:List vC)(i j:Nat)(b:Bool):Prop:=
 i<outs.length∧j<outs.length∧∀o o',outs[i]?=some o→outs[j]?=some o'→(scr o.2=scr o'.2→cV (scr o.2) (scr o.2)=some dh→(o.2.1=o'.2.1→b=false)∧(o.2.1≠o'.2.1→o.2.2≠o'.2.2→b=ls o.2.2 o'.2.2))
theorem Lj(h1:∀o∈outs,∀o'∈outs,scr o.2=scr o'.2)(h2:∀o∈outs,cV (scr o.2) (scr o.2)=some dh)(h3:(outs.map (·.2.1)).Nodup)(h4:∀o∈outs,∀o'∈outs,o.2.1≠o'.2.1→o.2.2≠o'.2.2):
  Good (RJ scr outs) (λi j=>ls (rl outs i) (rl outs j)) outs.length:=by
 have B:∀i j (hi:i<outs.length) (hj:j<outs.length),i≠j→outs[i].2.1≠outs[j].2.1:=by
  intro i j hi hj hne e;have:=ce.mp h3
  rcases sY hne with z|z
  .exact this i j (by simpa using hi) (by simpa using hj) z (by simp [e])
  .exact this j i (by simpa using hj) (by simpa using hi) z (by simp [e])
 have u:∀i (hi:i<outs.length),rl outs i=outs[i].2.2:=λi hi=>by unfold rl;rw[ao hi];rfl
 refine⟨⟨λi j hi hj hne hf=>?_,λi j k a b=>pu a b⟩,?_⟩
 .try dsimp only at hf ⊢
  rw[u i hi,u j hj] at hf;rw[u i hi,u j hj];exact r8 (h4 _ (bG hi) _ (bG hj) (B i j hi hj hne)) hf
 .rintro i j b ⟨hi,hj,h⟩
  have:=h _ _ (ao hi) (ao hj) (h1 _ (bG hi) _ (bG hj)) (h2 _ (bG hi))
  try dsimp only
  rw[u i hi,u j hj]
  by_cases e:i=j
  .subst e
   rw[this.1 rfl,qA]
  .exact this.2 (B i j hi hj e) (h4 _ (bG hi) _ (bG hj) (B i j hi hj e))
theorem BN{its:List Value}{n:Nat}(h:its.length≤n):(slicePick its.toArray none (some (n:Int)) none).toList=its:=by
 have e:sliceBounds none (some (n:Int)) none its.toArray.size=(((0:Nat):Int),((its.length:Nat):Int),1):=by
  rw[aV];unfold sliceBounds;simp;lia
 rw[kmk_pick_nat its.toArray e];simp
section
variable {prog:Program}{A:Around}{E:VP}{s:Shared}{h₀:Heap}{L:Addr}{m:Lo}{news:Ns}
theorem Hp{t2:Tok}{t3:Tok}(z:s.heap.get? x=some (dO #[.int a t1,.int b t2]))(u:s.heap.get? y=some (dO #[.int c t3,.int d t4]))(h:Q (uk (a,b) (c,d)) s):ay (aq prog W0) A (I6 (tuples' true) (.ref x) (.ref y)) Q E s:=by
 refine kat_lt z rfl u rfl ?_;refine My (hU ?_)
 by_cases e:a=c
 .subst e
  rw[beq_self_eq_true];refine kat_yes (My (hU ?_))
  by_cases e2:b=d
  .subst e2
   rw[beq_self_eq_true];refine kat_yes (kat_nil ?_)
   have:uk (a,b) (a,b)=false:=by simp [uk]
   rw[this] at h;exact h
  .rw[beq_eq_false_iff_ne.mpr e2]
   refine kat_no (kat_one _ _ (lt_int ?_))
   have:uk (a,b) (a,d)=decide (b<d):=by simp [uk]
   rw[this] at h;exact h
 .rw[beq_eq_false_iff_ne.mpr e]
  refine kat_no (oneLt_int ?_)
  have:uk (a,b) (c,d)=decide (a<c):=by simp [uk,e]
  rw[this] at h;exact h
theorem DR(h1:uk p q=true)(h2:uk q r=true):uk p r=true:=by
 unfold uk at *;simp only[io,dE,decide_eq_true_eq] at *
 rcases h1 with a|⟨a,b⟩<;>rcases h2 with c|⟨c,d⟩
 .exact .inl (jZ a c)
 .exact .inl (c▸a)
 .exact .inl (a▸c)
 .exact .inr ⟨a.trans c,jZ b d⟩
theorem Ho(hne:p≠q)(h:uk p q=false):uk q p=true:=by
 obtain ⟨a,b⟩:=p;obtain ⟨c,d⟩:=q;unfold uk at *;simp only[Bool.or_eq_false_iff,Bool.and_eq_false_iff,decide_eq_false_iff_not,io,dE,decide_eq_true_eq] at *;have:¬(a=c∧b=d):=λe=>hne (by rw[e.1,e.2])
 rcases JJ c a with g|g|g
 .exact .inl g
 .exact .inr ⟨g,(JJ d b).resolve_right λz=>z.elim (λe=>this ⟨g.symm,e.symm⟩) λz=>h.2.elim (λw=>w g.symm) λw=>w z⟩
 .exact absurd g h.1
noncomputable def dP:Addr×(Int×Int):=(0,(0,0))
noncomputable def MQ(ps:List (Addr×(Int×Int)))(i j:Nat):Bool:=uk (ps.getD i dP).2 (ps.getD j dP).2
theorem OO(hn:(ps.map (·.2)).Nodup):Good (λi j b=>b=MQ ps i j) (MQ ps) ps.length:=by
 refine⟨⟨λi j hi hj hne hf=>?_,λi j k a b=>DR a b⟩,λi j b h=>h⟩;refine Ho (λe=>?_) hf;rw[az,az,ao hi,ao hj] at e;have z:ps[i].2=ps[j].2:=e;have:=ce.mp hn
 rcases sY hne with u|u
 .exact this i j (by simpa using hi) (by simpa using hj) u (by simpa using z)
 .exact this j i (by simpa using hj) (by simpa using hi) u (by simpa using z.symm)
theorem R0(hp:P ps.length p)(h:tL (MQ ps) p ps.length):(p.toList.map λi=>ps.getD i dP).Pairwise (λa b=>uk a.2 b.2=true):=by
 rw[ce];intro i j hi hj B
 have z:p.toList.length=ps.length:=by rw[hp.list.length_eq,db]
 simp only[aE] at hi hj
 have e:∀(k:Nat) (hk:k<p.toList.length),p.toList[k]'hk=p.getD k 0:=by
  intro k hk
  have u:k<p.size:=by simpa using hk
  rw[qV];simp [Gw,u]
 rw[cG,cG,e i hi,e j hj];exact h i j B (pV (Eq.symm z) hj)
theorem zx{h:Heap}{ps:List (Addr×(Int×Int))}(ho:∀o∈ps,∃t u,h.get? o.1=some (dO #[.int o.2.1 t,.int o.2.2 u])):∃fs,KatTups h (refsOf ps) fs∧(∀v∈fs,∃i t,v=fn i t)∧fs.length=ps.length:=by
 induction ps with
 | nil=>exact(cZ [] (.nil) (λ_ h=>nomatch h) rfl)
 | cons o r B=>
  refine fJ (B λo z=>ho o (zT z)) λfs h1 h2 h3=>?_;refine ut (ho o (zH)) λt u e=>?_;exact(cZ (.int o.2.1 t::fs) (.cons e rfl rfl rfl h1) (zC ⟨(ro _ _ rfl),h2⟩) (by simp [h3]))
theorem wG{l:Addr}{ps:List (Addr×(Int×Int))}{Q:VP}(F:Fr h₀ L s.heap m)(N:ba h₀ L s.heap news)(hl:s.heap.IsList l (refsOf ps).toArray)(h2:2≤ps.length)(Y:ps.length<64)
  (ho:∀o∈ps,∃t u,(o.1,dO #[.int o.2.1 t,.int o.2.2 u])∈news) (hn:(ps.map (·.2)).Nodup)
  (h:∀D ps' c h' tk,ps'.Perm ps→ps'.Pairwise (λa b=>uk a.2 b.2=true)→(∀q∈news,q.1<D)→Fr h₀ L h' m→ba h₀ L h' ((D,listOf (refsOf ps').toArray c)::news)→Q (.ref D) {s with heap:=h',toks:=tk}):
  ay (aq prog W0) A (call (.builtin "sorted") [.ref l]) Q E s:=by
 have hz:(refsOf ps).length=ps.length:=by simp [refsOf]
 refine kat_sorted F N hl (Db hz h2) (HD hz Y) λD e1 h' F' N' hD=>?_;refine fJ (zx (h:=h') (ps:=ps) (λo U=>let ⟨t,u,hm⟩:=ho o U;⟨t,u,(N' _ (zT hm)).1⟩)) λfs t1 t2 t3=>?_;refine kat_kind (T:=.type "int") (fs:=fs) t1 (C9 (HD (mu 0 1) (pV t3 (bB h2)))) (λv hv=>?_) (by decide) ?_
 .refine ut (t2 v hv) λi t G=>?_
  subst G;exact .now
 .rw[hz]
  refine tg (n:=ps.length) (R:=λi j b=>b=MQ ps i j) (I:=λs'=>∃H tk,s' = {s with heap:=H,toks:=tk}∧Fr h₀ L H m∧ba h₀ L H ((D,cE "list" #[] e1)::news)) (λi j hi hj C s1 J hC=>?_) (λp s1 hp J=>?_) (uE (lt:=MQ ps) h2) (ir h' s.toks rfl F' N')
  .refine gJ J λh1 tk B F1 O=>?_
   try clear J
   subst B;refine(?_:ay (aq prog W0) _ (I6 (tuples' true) ((refsOf ps).getD i Value.none) ((refsOf ps).getD j Value.none)) C (λ_ _=>False) _);rw[gZ ps hi,gZ ps hj];refine ut (ho _ (bG hi)) λu1 u2 e=>?_;refine ut (ho _ (bG hj)) λu3 u4 e'=>?_;refine Hp (O _ (zT e)).1 (O _ (zT e')).1 (hC _ _ ?_ (ir h1 tk rfl F1 O));unfold MQ;rw[az,az,ao hi,ao hj];rfl
  .refine gJ J λh1 tk z F1 O=>?_
   try clear J
   subst z;rw[pj ps dP hp.1];exact KasFin.intro F1 O (UpdF.head (λq hq=>aB (hD q hq))) λh3 c F3 N3=>h D _ c h3 tk (po ps _ hp.1) (R0 hp.1 (hp.2 (OO hn))) hD F3 N3
end
end
section
theorem Aa{α:Type}{r:α→α→Prop}(u:∀x y,r x y→¬r y x):∀{a b:List α},a.Pairwise r→b.Pairwise r→(∀x,x∈a↔x∈b)→a=b
 | [],[],_,_,_=>rfl
 | [],y::q,_,_,h=>nomatch (h y).mpr (zH)
 | x::s,[],_,_,h=>nomatch (h x).mp (zH)
 | x::s,y::q,ha,hb,h=>by
  refine b7 (dW.mp ha) λa1 a2=>?_;refine b7 (dW.mp hb) λb1 b2=>?_
  have e:x=y:=by
   rcases ak.mp ((h x).mp (zH)) with h1|h1
   .exact h1
   .rcases ak.mp ((h y).mpr (zH)) with h2|h2
    .exact h2.symm
    .exact absurd (a1 y h2) (u _ _ (b1 x h1))
  subst e;rw[Aa u a2 b2 λz=>⟨λhz=>?_,λhz=>?_⟩]
  .rcases ak.mp ((h z).mp (zT hz)) with h1|h1
   .rw[h1] at hz;exact absurd (a1 x hz) (λk=>u _ _ k k)
   .exact h1
  .rcases ak.mp ((h z).mpr (zT hz)) with h1|h1
   .rw[h1] at hz;exact absurd (b1 x hz) (λk=>u _ _ k k)
   .exact h1
theorem Ka(p q:Int×Int)(h:uk p q=true):¬uk q p=true:=by
 unfold uk at *;simp only[io,dE,decide_eq_true_eq] at *;lia
theorem A8:∀{l:List (Int×Int)},zV l=true→l.Pairwise (λp q=>uk p q=true)
 | [],_=>.nil
 | [x],_=>gS ..
 | p::q::r,h=>by
  unfold zV at h;rw[dE] at h;have e:=A8 h.2;refine .cons (λz hz=>?_) e
  rcases ak.mp hz with rfl|hz
  .exact h.1
  .exact DR h.1 ((dW.mp e).1 z hz)
theorem ny(xs:List Int)(i:Nat)(x:Int):(uG xs i x).Perm (x::xs):=by
 unfold uG;refine List.perm_middle.trans (List.Perm.cons _ ?_);rw[CW]
theorem vR(vs:List Int):(eh vs 4).Perm [3,2,1,0]:=
 (ny _ _ _).trans (.cons _ ((ny _ _ _).trans (.cons _ ((ny _ _ _).trans (.cons _ (ny _ _ _))))))
theorem row_end{vs:List Int}{P:List (Int×Int)}(hi:zV ((eh vs 4).map λt=>(nv vs t,-t))=true)(hp:P.Perm (xP vs))(hs:P.Pairwise (λp q=>uk p q=true)):P.map (λp=>-p.2)=eh vs 4:=by
 have e:P=(eh vs 4).map λt=>(nv vs t,-t):=by
  refine Aa Ka hs (A8 hi) λx=>?_;rw[hp.mem_iff];have h2:((eh vs 4).map λt=>(nv vs t,-t)).Perm ([3,2,1,0].map λt=>(nv vs t,-t)):=(vR vs).map _;rw[h2.mem_iff];unfold xP;simp only[kH,List.map_nil,ak,bT,or_false];constructor<;>(rintro (h|h|h|h)<;>simp [h])
 rw[e,iQ]
 have:((λp:Int×Int=>-p.2) ∘ λt=>(nv vs t,-t))=id:=by funext t;simp
 rw[this,List.map_id]
theorem xR(vs:List Int):(xP vs).Nodup:=by
 unfold xP;simp [wy]
theorem zu(vs:List Int):(eh vs 4).Nodup:=(vR vs).nodup_iff.mpr (by decide)
theorem wB(vs:List Int):(dF vs).Nodup:=(zu vs).sublist (List.drop_sublist ..)
end
section
open W PyProof Rows
theorem kw_LW14_0:True:=by
 k_with_none
 k_with "zeval ListComp"=>(k_here;refine sf ?_)
 trivial
theorem km_LW14:True:=by
 k_with "zmt"=>first|with_reducible assumption|with_reducible exact zH|(with_reducible refine zR ?_;k_extra "zmt")|(with_reducible refine zL ?_;k_extra "zmt")|(with_reducible refine zT ?_;k_extra "zmt")
 k_with "zmm"=>first|with_reducible assumption|exact a8 0 rfl|exact a8 1 rfl|exact a8 2 rfl|exact a8 3 rfl|exact a8 4 rfl|exact a8 5 rfl|exact a8 6 rfl|exact a8 7 rfl|exact a8 8 rfl|exact a8 9 rfl|(refine bk 1 ?_;assumption)|(refine bk 2 ?_;assumption)|(refine bk 3 ?_;assumption)|(refine bk 4 ?_;assumption)|(refine bk 5 ?_;assumption)|(refine bk 6 ?_;assumption)|(refine bk 7 ?_;assumption)|(refine bk 8 ?_;assumption)|(refine bk 9 ?_;assumption)|k_extra "zmt"
 k_with "zsu"=>first|exact FN|(refine FC ?_ ?_;(focus k_extra "zmm");k_extra "zsu")|(refine FA ?_ ?_;(focus k_extra "zsu");k_extra "zsu")|(intro p9 hp9;k_extra "zmm")
 trivial
open PyProof.Rows.LCg
section
variable {cs:Scope}{c:Fm W0 cs}{sc:Scope}{k:Cx c sc}{m:Lo}{n:Ns}{R:Re}
theorem Ij(h1:Ev k m n e1 (.int a))(h2:Ev k m n e2 (.int b))
  (J:autoParam (∀r,SE k.env e1 r) zAb) (H:autoParam (∀r,SE k.env e2 r) zAb):
  Er k m n (.Tuple [e1,e2] kk pos) (λv n'=>∃D t1 t2,v=.ref D∧n'=(D,dO #[.int a t1,.int b t2])::n∧(∀p∈n,@aP Nat _ p.1 D)∧(∀x∈k.exA,@aP Nat _ x D)):=
 ⟨λQ s hi hq=>vM (uO h1 h2 J H hi λv1 v2 s1 G d2 i1=>by
  refine cp G λt1 z=>?_
  try clear G
  subst z;refine cp d2 λt2 u=>?_
  try clear d2
  subst u;refine hH (k.opn i1) λm0 ex O F N cl=>?_;refine iC F N (λD h' Y U hl=>hq _ _ _ (HT D t1 t2 rfl rfl (λp hp=>hl p (zR hp)) (λx B=>?_)) (cl h' s1.toks _ Y (cm U λp hp=>?_))) (by decide:(2:Nat)≤dY)
  .rw[← O] at B
   refine fK (eg.mp B) λp hp e=>?_;subst e;exact hl p (zL hp)
  .revert p;k_extra "zsu")⟩
end
noncomputable def MN(vs:List Int)(i:Nat):List (Int×Int):=(aU i).map λt:Nat=>(nv vs (t:Int),-(t:Int))
structure SG(N:Ns)(vs:List Int)(i:Nat)(out:List Value)(n3:Ns)(ps:List (Addr×(Int×Int)))(Wn:Ns):Prop where
 o:out=refsOf ps
 v:ps.map (·.2)=MN vs i
 t:∀o∈ps,∃t u,(o.1,dO #[.int o.2.1 t,.int o.2.2 u])∈Wn
 n:n3=Wn++N
theorem DV(he:e=ch (ch (ch (sE (bp 20)) 1) 0) 0)(hc:LawC c)(d5:o5.data=.cell (some (.ref vt)))(m5:(c.L+1+1+1+1+1,o5)∈N)(ap:(vt,bz vv)∈N)(hv:au vv vs)(hl:vs.length=4):
  Er c.cx m N e (λv n'=>∃D ps Wn,v=.ref D∧(∀p∈(D,bz (refsOf ps))::(Wn++N),p∈n')∧ps.map (·.2)=MN vs 4∧(∀o∈ps,∃t u,(o.1,dO #[.int o.2.1 t,.int o.2.2 u])∈Wn)):=by
 subst he;refine nC (cl:=[(ae "votes",c.L+1+1+1+1+1)]) rfl (jb (a:=0) (b:=4) ?hr) ?h (kr hc rfl)
 case hr=>exact rx cO bf
 case h=>
  intro v N1 s1 O i1;refine b7 O λe J=>?_;clear O;refine BV J λr t u z ab hr=>?_
  try clear J
  subst ab;have e':=e.symm;subst e';refine⟨4,_,_,λi out n3=>∃ps Wn,SG N vs i out n3 ps Wn,jA hr (by decide),⟨[],[],rfl,rfl,(λ_ h=>nomatch h),rfl⟩,λi out n3 h=>?_,?_,λout n3 D hJ l1 l2=>?_,by decide⟩
  .obtain ⟨ps,Wn,h⟩:=h
   refine⟨(λ_ h=>nomatch h),?_⟩;have:=congrArg eE h.v;rw[aE] at this;unfold MN at this;rw[aE,db] at this;rw[h.o,refsOf,aE,this];exact aR _
  .intro i v out n3 C I D oI E' mC aj H G hx ah ax aD as aM hex
   refine cp H λt aa=>?_;clear H;subst aa;refine ut G λps Wn hJ=>?_;clear G
   have h5:(c.L+1+1+1+1+1,o5)∈(I,oI)::(D,bz out)::n3:=by rw[hJ.n];simp [m5]
   have ht:(vt,listOf vv.toArray vv.length)∈(I,oI)::(D,bz out)::n3:=zT (zT (by rw[hJ.n];exact zR ap));refine(cZ true (λQ s hi hq=>pg (hq s hi)) (λ_=>?_) (λh=>nomatch h));refine fx (Ij (fk (eH (a:=c.L+1+1+1+1+1) (o:=o5) rfl h5 d5) (ai hx) ht hv (cb i) (Le (pV hl aj)) (cS [i] 1 (.a Z0 Y1) (.k (2 ^ 63)) 1 (.a Z0 Y1) (.k 4) rfl (d9 aj))) (Fd (ai hx))) ?_;intro v n' B;refine Ht B λW t1 t2 Y U hW hX=>?_;clear B;subst Y;subst U;have ar:@aP Nat _ C W:=hX C (zR (aA.mpr rfl));refine⟨(W,dO #[.int (vs.getD (ML i) 0) t1,.int (-(i:Int)) t2])::n3,λp hp=>?_,λp hp=>?_,ps++[(W,(nv vs (i:Int),-(i:Int)))],(W,dO #[.int (vs.getD (ML i) 0) t1,.int (-(i:Int)) t2])::Wn,?_,?_,λo ho=>?_,?_⟩
   .revert p;k_extra "zsu"
   .rcases ak.mp hp with rfl|hp
    .exact(eR (jx ar) (jx (hW (I,oI) (by k_extra "zmm"))) (jx (hW (D,bz out) (by k_extra "zmm"))))
    .exact ah p hp
   .rw[hJ.o,refsOf,refsOf,aX]
    rfl
   .rw[aX,hJ.v,MN,MN,gx,aX]
    rfl
   .rcases aC.mp ho with ho|ho
    .refine ut (hJ.t o ho) λt u h=>?_
     exact(ro t u (zT h))
    .rw[aA.mp ho]
     exact(ro t1 t2 (zH))
   .rw[hJ.n];rfl
  .obtain ⟨ps,Wn,hJ⟩:=hJ
   refine⟨D,ps,Wn,rfl,λp hp=>?_,hJ.v,hJ.t⟩;rw[← hJ.n,← hJ.o] at hp;exact hp
theorem vT(vs:List Int):MN vs 4=xP vs:=rfl
theorem Ey{prog:Program}{A:Around}{h₀:Heap}{L:Addr}{m:Lo}{env:Env}{x z:Str}{px pos:Pos}{scope:Scope}{cl:List (Str×Addr)}{s:Shared}{ax:Addr}{its:Array Value}{Fin:List Value→Ns→Prop}{news:Ns}{ps:List (Addr×(Int×Int))}
  (H:its=(refsOf ps).toArray) (ho:∀o∈ps,∃t u,(o.1,dO #[.int o.2.1 t,.int o.2.2 u])∈news) (S:Nb h₀ ax its news) (Y:∀C,(fj scope cl C env).scope.kind=.function) (aa:∀C,(fj scope cl C env).kindOf z=some .local)
  (hd:(z==("__debug__" : Sr))=false) (hF:∀ys,au ys (ps.map λo=>-o.2.2)→Fin ys news):
  ∀(k i:Nat) (ys:List Value),i+k=ps.length→au ys ((ps.take i).map λo=>-o.2.2)→LCp.CompRestP prog W0 A h₀ L m env (.UnaryOp .USub (.Name z px) pos) x z scope cl s (Nb h₀ ax its) (λi v=>its[i]?=some v) Fin k i ys news:=by
 intro k
 induction k with
 | zero=>
  intro i ys hi J;have e:i=ps.length:=vn (cS [i,ps.length] 1 Z0 Z1 1 (.a Z0 Y0) Z1 rfl (vX hi)) (cS [ps.length,i] 1 Z0 Z1 1 Z0 (.a Z1 Y0) rfl (l9 hi));subst e;rw[cP] at J;exact hF ys J
 | succ k ih=>
  intro i ys hi J;refine xp λv hv=>?_
  have U:(refsOf ps)[i]?=some v:=by rw[H] at hv;simpa using hv
  refine fK (mH U) λo G B=>?_;subst B;refine ut (ho o (cq G)) λt u hm=>?_;refine(EV o.1 _ _ _ _ rfl hm rfl rfl (λI oI C oC D m₂ h tk E' hC hx O F N off ne=>?_));refine wpAny_UnaryOp (LCgL.ld_own N (zT (zH)) hC O ?_ (Y C) (aa C) hd);refine neg_int ?_;refine CompEnd.intro F N news (λp hp=>hp) off S (ih (i+1) _ (Pg hi) ?_);rw[fo,G,Option.toList_some,aX];exact J.append (.cons _ _ .nil)
theorem KP{c:Fm W0 lawS}{m:Lo}{n0:Ns}(hc:LawC c){o1 o2 o3 o4 o5:Obj}{ps qs:Array Value}{vt ra:Addr}{vv va:List Value}{ea:Nat}{vs:List Int}
  (d5:o5.data=.cell (some (.ref vt))) (hvt:(vt,bz vv)∈n0) (hv:au vv vs) (hl:vs.length=4) (hra:(ra,listOf va.toArray ea)∈n0) (hia:au va (eh vs 4)) (hm:m (ae "row")=some (.ref ra)) (hinc:zV ((eh vs 4).map λt=>(nv vs t,-t))=true):
  cK c m (bL c.L o1 o2 o3 o4 o5 ps qs++n0) (bp 20::[]) (λf m' n'=>f=.ret (.bool true)∧∀p∈bL c.L o1 o2 o3 o4 o5 ps qs++n0,p∈n'):=by
 refine(?_:cK c m _ (.Return (some (.Compare (.Name _ _) [.Eq] [.ListComp (.UnaryOp .USub (.Name _ _) _) [⟨.Tuple [.Name _ _,.Name _ _] _ _,.Call (.Name _ _) [_] [] _,[],0⟩] _ _] _)) _::[]) _);have hkk:=mQ (m:=m) (ks:=[(ae "row",.ref ra)]) ⟨hm,trivial⟩;refine⟨λQ s hi hq=>?_⟩;rw[← hkk] at hi;obtain ⟨h1,tk1,rfl,F1,N1⟩:=hi;have BB:=c.B;have XX:=c.X;have TT:=c.T;dsimp only [Fm.cx,Fm.A,Fm.env]
 k_steps
 refine iF ?_;refine LCp.ListComp_P (cl:=[]) F1 (by rfl) (by decide) (by rfl) (by decide) (by rfl) (by rfl) (by decide) ?_;refine' Er.run (k:=c.cx) (P:=λv n'=>∃(D:Addr) (ps':List (Addr×(Int×Int))) (ez:Nat) (Wn:Ns),v=.ref D∧(∀p∈(D,listOf (refsOf ps').toArray ez)::(Wn++(bL c.L o1 o2 o3 o4 o5 ps qs++n0)),p∈n')∧(∀o∈ps',∃t u,(o.1,dO #[.int o.2.1 t,.int o.2.2 u])∈Wn)∧ps'.length=4∧ps'.map (λo=>-o.2.2)=eh vs 4) (oU (uA _ _ _) (DV (m:=zS [(ae "row",.ref ra)] m) (N:=bL c.L o1 o2 o3 o4 o5 ps qs++n0) rfl hc d5 (zL (by k_extra "zmm")) (zR hvt) hv hl) ?hcall) _ _ ⟨_,_,rfl,F1,N1⟩ ?kk
 case hcall=>
  intro v n' zo305 Q s hi hq;refine Ht zo305 λD pp Wn zo306 hsub hpp htt=>?_;clear zo305;subst zo306
  have hp4:pp.length=4:=by
   have:=congrArg eE hpp;rw[aE] at this;exact this
  refine wG hi.at.1 hi.at.2 ⟨_,(hi.at.2 _ (hsub _ (zH))).1,rfl,_,rfl⟩ (Db hp4 (gy 2 2)) (R5 hp4 (bR true)) (λo ho=>let ⟨t,u,h⟩:=htt o ho;⟨t,u,hsub _ (zT (zL h))⟩) (by rw[hpp,vT];exact xR vs) λD2 ps' ez h' tk' hperm hpw hD F' N'=>?_;refine hq _ ((D2,listOf (refsOf ps').toArray ez)::n') _ (zW D2 ps' ez Wn rfl (λp hp=>?_) (λo ho=>htt o (hperm.mem_iff.mp ho)) (by rw[hperm.length_eq,hp4]) ?_) (hi.to F' N')
  .rcases ak.mp hp with h|h
   .rw[h];exact zH
   .exact zT (hsub p (zT h))
  .have e:=row_end (vs:=vs) (P:=ps'.map (·.2)) hinc (by rw[← vT,← hpp];exact hperm.map _) (jL.mpr hpw)
   rw[iQ] at e;exact e
 intro v n' s' zo307 i2;refine zF zo307 λD ps' ez Wn zo308 hsub htt hp4 hrow=>?_;clear zo307;subst zo308;obtain ⟨h2,tk2,rfl,F2,N2⟩:=i2;have hmD:=hsub (D,listOf (refsOf ps').toArray ez) (zH);refine' CR (its:=(refsOf ps').toArray) (k:=ez) rfl F2 N2 hmD (by rw[aV,refsOf,aE,hp4];decide) ?_;intro g7;refine' Ey rfl (λo ho=>let ⟨t,u,h⟩:=htt o ho;⟨t,u,hsub _ (zT (zL h))⟩) (Or.inr ⟨listOf (refsOf ps').toArray ez,hmD,rfl,_,rfl⟩) (by intro _;rfl) (by intro _;rfl) (by decide) ?_ _ 0 [] (by simp [refsOf]) .nil;intro ys hys OUT h7 tk7 F7 N7 off7;rw[hrow] at hys;have hmr:(ra,listOf va.toArray ea)∈n':=hsub _ (zT (zR (zR hra)));rw[hkk] at F7
 have hlib:c.Is m ((OUT,bz ys)::n') {c.s with heap:=h7,toks:=tk7}:=⟨_,_,rfl,F7,N7⟩
 refine eq_intsK (vs:=va) (us:=ys) (ns:=eh vs 4) (ms:=eh vs 4) (cZ _ ((N7 _ (zT hmr)).1) rfl ⟨ea,rfl⟩) hia (cZ _ ((N7 _ (zH)).1) rfl ⟨_,rfl⟩) hys (by have:=hc.hu;refine(?_:c.un+64<cT);exact zJ this (bR true)) ?_;rw[decide_eq_true rfl];exact hq (.ret (.bool true)) m ((OUT,bz ys)::n') _ ⟨rfl,λp hp=>zT (hsub p (zT (zR hp)))⟩ hlib.lib
end
section
noncomputable def nJ(t n:Nat):UInt64:=ji (fW 4611686018427387904 (bE (t:Int))) (bE (n:Int))
noncomputable def J8(t n:Nat):UInt64:=lH false (2*t) n
noncomputable def sv(x:UInt64):Nat:=match vH x with
 | .fin false m e=>m*2 ^ (e+1074).toNat
 | _=>0
noncomputable def K9(x:UInt64):Bool:=match vH x with
 | .fin false _ e=>decide (-1074≤e)
 | _=>false
theorem tu(h:K9 x=true):∃m e,vH x=.fin false m e∧-1074≤e:=by
 unfold K9 at h
 split at h
 .rename_i m e hd
  exact⟨m,e,hd,of_decide_eq_true h⟩
 .cases h
theorem No(h1:c≤e)(h0 : -1074≤c):(e+1074).toNat=(e-c).toNat+(c+1074).toNat:=by
 rw[← Int.toNat_add (dU h1) (by exact cS [c] 1 Y0 (.a Z0 (.k 1074)) 1 (.k (-1074)) Z0 rfl h0),← kP,ni]
theorem LN(z:K9 x=true)(u:K9 y=true):cV x y=some (compare (sv x) (sv y)):=by
 obtain ⟨m,e,ex,z⟩:=tu z;obtain ⟨k,f,B,u⟩:=tu u;unfold sv cV;rw[ex,B];simp only[Float64.align,M8,g9,if_false]
 congr 1
 have h1:=No (Int.min_le_left e f) (Int.le_min.mpr ⟨z,u⟩);have h2:=No (Int.min_le_right e f) (Int.le_min.mpr ⟨z,u⟩);rw[h1,h2,Nat.pow_add,Nat.pow_add,← eG,← eG];generalize m*2 ^ (e-min e f).toNat=a;generalize k*2 ^ (f-min e f).toNat=b;have hp:0<2 ^ (min e f+1074).toNat:=Nat.pow_pos (by decide);generalize 2 ^ (min e f+1074).toNat=p at hp
 rcases jY a b with h|h|h
 .have:=fc h hp
  rw[Int.compare_eq_lt.mpr (by omega),gF.mpr this]
 .subst h
  rw[Int.compare_eq_eq.mpr rfl,eu.mpr rfl]
 .have:=fc h hp
  rw[JK.mpr (by omega),nO.mpr this]
noncomputable def xS:List (Nat×Nat):=[(0,1),(0,2),(0,3),(0,4),(0,5),(0,6),(0,7),(0,8),(0,9),(0,10),(0,11),(0,12),(0,13),(0,14),(0,15),(0,16),(0,17),(0,18),(0,19),(0,20),(0,21),(0,22),(0,23),(0,24),(0,25),(0,26),(0,27),(0,28),(0,29),(0,30),(0,31),(0,32),(0,33),(0,34),(0,35),(0,36),(0,37),(0,38),(0,39),(0,40),(1,40),(1,39),(1,38),(1,37),(1,36),(1,35),(1,34),(1,33),(1,32),(1,31),(1,30),(1,29),(1,28),(1,27),(1,26),(1,25),(1,24),(1,23),(1,22),(1,21),(1,20),(2,40),(2,39),(1,19),(2,38),(2,37),(1,18),(2,36),(2,35),(1,17),(2,34),(2,33),(1,16),(2,32),(2,31),(1,15),(2,30),(2,29),(1,14),(2,28),(2,27),(3,40),(1,13),(2,26),(3,39),(3,38),(2,25),(3,37),(1,12),(2,24),(3,36),(3,35),(2,23),(3,34),(1,11),(2,22),(3,33),(3,32),(2,21),(3,31),(1,10),(2,20),(3,30),(4,40),(4,39),(3,29),(2,19),(4,38),(3,28),(4,37),(1,9),(2,18),(3,27),(4,36),(4,35),(3,26),(2,17),(4,34),(3,25),(4,33),(1,8),(2,16),(3,24),(4,32),(5,40),(5,39),(4,31),(3,23),(5,38),(2,15),(4,30),(5,37),(3,22),(4,29),(5,36),(1,7),(2,14),(3,21),(4,28),(5,35),(5,34),(4,27),(3,20),(6,40),(5,33),(2,13),(4,26),(6,39),(5,32),(3,19),(6,38),(4,25),(5,31),(6,37),(1,6),(2,12),(3,18),(4,24),(5,30),(6,36),(6,35),(5,29),(4,23),(7,40),(3,17),(6,34),(5,28),(7,39),(2,11),(4,22),(6,33),(7,38),(5,27),(3,16),(6,32),(7,37),(4,21),(5,26),(6,31),(7,36),(1,5),(2,10),(3,15),(4,20),(5,25),(6,30),(7,35),(8,40),(8,39),(7,34),(6,29),(5,24),(4,19),(8,38),(7,33),(3,14),(6,28),(8,37),(5,23),(7,32),(2,9),(4,18),(6,27),(8,36),(9,40),(7,31),(5,22),(8,35),(3,13),(6,26),(9,39),(7,30),(4,17),(8,34),(9,38),(5,21),(6,25),(7,29),(8,33),(9,37),(1,4),(2,8),(3,12),(4,16),(5,20),(6,24),(7,28),(8,32),(9,36),(10,40),(10,39),(9,35),(8,31),(7,27),(6,23),(5,19),(10,38),(9,34),(4,15),(8,30),(7,26),(10,37),(3,11),(6,22),(9,33),(11,40),(8,29),(5,18),(10,36),(7,25),(9,32),(11,39),(2,7),(4,14),(6,21),(8,28),(10,35),(11,38),(9,31),(7,24),(5,17),(10,34),(8,27),(11,37),(3,10),(6,20),(9,30),(12,40),(10,33),(7,23),(11,36),(4,13),(8,26),(12,39),(9,29),(5,16),(10,32),(11,35),(6,19),(12,38),(7,22),(8,25),(9,28),(10,31),(11,34),(12,37),(13,40),(1,3),(2,6),(3,9),(4,12),(5,15),(6,18),(7,21),(8,24),(9,27),(10,30),(11,33),(12,36),(13,39),(13,38),(12,35),(11,32),(10,29),(9,26),(8,23),(7,20),(14,40),(13,37),(6,17),(12,34),(11,31),(5,14),(10,28),(14,39),(9,25),(13,36),(4,11),(8,22),(12,33),(11,30),(7,19),(14,38),(10,27),(13,35),(3,8),(6,16),(9,24),(12,32),(15,40),(14,37),(11,29),(8,21),(13,34),(5,13),(10,26),(15,39),(12,31),(7,18),(14,36),(9,23),(11,28),(13,33),(15,38),(2,5),(4,10),(6,15),(8,20),(10,25),(12,30),(14,35),(16,40),(15,37),(13,32),(11,27),(9,22),(16,39),(7,17),(14,34),(12,29),(5,12),(10,24),(15,36),(13,31),(8,19),(16,38),(11,26),(14,33),(17,40),(3,7),(6,14),(9,21),(12,28),(15,35),(16,37),(13,30),(10,23),(17,39),(7,16),(14,32),(11,25),(15,34),(4,9),(8,18),(12,27),(16,36),(17,38),(13,29),(9,20),(18,40),(14,31),(5,11),(10,22),(15,33),(16,35),(11,24),(17,37),(6,13),(12,26),(18,39),(13,28),(7,15),(14,30),(15,32),(8,17),(16,34),(17,36),(9,19),(18,38),(19,40),(10,21),(11,23),(12,25),(13,27),(14,29),(15,31),(16,33),(17,35),(18,37),(19,39),(1,2),(2,4),(3,6),(4,8),(5,10),(6,12),(7,14),(8,16),(9,18),(10,20),(11,22),(12,24),(13,26),(14,28),(15,30),(16,32),(17,34),(18,36),(19,38),(20,40)]
noncomputable def RL(p q:Nat×Nat):Prop:=(p.1*q.2<q.1*p.2∧sv (nJ p.1 p.2)<sv (nJ q.1 q.2))∨(p.1*q.2=q.1*p.2∧nJ p.1 p.2=nJ q.1 q.2)
noncomputable def Qa(p q:Nat×Nat):Bool:=(pZ (p.1*q.2) (q.1*p.2)&&pZ (sv (nJ p.1 p.2)) (sv (nJ q.1 q.2)))||(ii (p.1*q.2) (q.1*p.2)&&ii (nJ p.1 p.2).toNat (nJ q.1 q.2).toNat)
noncomputable def Pz(p:Nat×Nat):Bool:=pZ 0 p.2&&K9 (nJ p.1 p.2)&&ii (nJ p.1 p.2).toNat (J8 p.1 p.2).toNat
noncomputable def Bn:Nat×Nat→List (Nat×Nat)→Bool
 | _,[]=>true
 | p,q::r=>Qa p q&&Pz q&&Bn q r
theorem yD:Bn (0,1) xS=true:=by decide +kernel
theorem L8:((aU 41).all λn=>(aU 21).all λt=>!(pZ 0 n&&CV (2*t) n)||xS.any λx=>ii x.1 t&&ii x.2 n)=true:=by decide +kernel
theorem Nx(h:Qa p q=true):RL p q:=by
 unfold Qa at h;rw[io,dE,dE] at h
 rcases h with ⟨a,b⟩|⟨a,b⟩
 .exact .inl ⟨jz.mp a,jz.mp b⟩
 .exact .inr ⟨ef a,GD.mp (ef b)⟩
theorem DZ(h:Pz p=true):0<p.2∧K9 (nJ p.1 p.2)=true∧nJ p.1 p.2=J8 p.1 p.2:=by
 unfold Pz at h;rw[dE,dE] at h;exact⟨jz.mp h.1.1,h.1.2,GD.mp (ef h.2)⟩
theorem DL(hp:0<p.2)(hq:0<q.2)(hr:0<r.2)(h1:RL p q)(h2:RL q r):RL p r:=by
 obtain ⟨a,b⟩:=p;obtain ⟨c,d⟩:=q;obtain ⟨e,f⟩:=r;unfold RL at *;dsimp only at *
 have J:a*d≤c*b→c*f≤e*d→(a*f)*d≤(e*b)*d:=λx y=>by
  calc (a*f)*d=(a*d)*f:=by rw[eG,mq f d,← eG]
   _≤(c*b)*f:=lg f x
   _=(c*f)*b:=by rw[eG,mq b f,← eG]
   _≤(e*d)*b:=lg b y
   _=(e*b)*d:=by rw[eG,mq d b,← eG]
 have e1:(a*f)*d=(a*d)*f:=by rw[eG,mq f d,← eG]
 have e2:(c*b)*f=(c*f)*b:=by rw[eG,mq b f,← eG]
 have e3:(e*d)*b=(e*b)*d:=by rw[eG,mq d b,← eG]
 rcases h1 with ⟨H,G⟩|⟨H,G⟩<;>rcases h2 with ⟨B,z⟩|⟨B,z⟩
 .refine .inl ⟨?_,aO G z⟩
  have u:=fc H hr;have v:=fc B hp;exact nc (a:=d) (by rw[e1,← e3];exact aO (e2▸u) v)
 .refine .inl ⟨?_,by rw[← z];exact G⟩
  have u:=fc H hr
  have v:(c*f)*b=(e*d)*b:=by rw[B]
  exact nc (a:=d) (by rw[e1,← e3,← v,← e2];exact u)
 .refine .inl ⟨?_,by rw[G];exact z⟩
  have u:(a*d)*f=(c*b)*f:=by rw[H]
  have v:=fc B hp;exact nc (a:=d) (by rw[e1,← e3,u,e2];exact v)
 .refine .inr ⟨?_,G.trans z⟩
  have u:(a*d)*f=(c*b)*f:=by rw[H]
  have v:(c*f)*b=(e*d)*b:=by rw[B]
  exact Nat.eq_of_mul_eq_mul_right hq (by rw[e1,← e3,u,e2];exact v)
theorem uU:∀(l:List (Nat×Nat)) (p:Nat×Nat),0<p.2→Bn p l=true→(∀q∈l,RL p q∧Pz q=true)∧l.Pairwise RL
 | [],_,_,_=>⟨(λ_ h=>nomatch h),qc⟩
 | q::r,p,hp,h=>by
  unfold Bn at h;rw[dE,dE] at h;obtain ⟨⟨h1,h2⟩,h3⟩:=h;have hq:=(DZ h2).1;obtain ⟨B,G⟩:=uU r q hq h3;have u:=Nx h1;refine⟨λz hz=>?_,List.Pairwise.cons (λz hz=>(B z hz).1) G⟩
  rcases ak.mp hz with e|hz
  .rw[e];exact⟨u,h2⟩
  .exact⟨DL hp hq (DZ (B z hz).2).1 u (B z hz).1,(B z hz).2⟩
theorem wH(hn:0<n)(u:n≤40)(h2:2*t≤n):(t,n)∈xS:=by
 have:=gj.mp L8 n (bD.mpr (by omega));have:=gj.mp this t (bD.mpr (by omega));rw[jz.mpr hn,Nat.ble_eq.mpr h2,Bool.and_self,Bool.not_true,Bool.false_or] at this;obtain ⟨⟨a,b⟩,hm,e⟩:=List.any_eq_true.mp this;rw[dE] at e;have e1:=ef e.1;have e2:=ef e.2;dsimp only at e1 e2;subst e1;subst e2;exact hm
theorem DO:∀{l:List α},l.Pairwise R→∀x∈l,∀y∈l,R x y∨R y x∨x=y
 | _::_,h,x,z,y,u=>by
  rw[dW] at h
  rcases ak.mp z with e|z
  .rcases ak.mp u with e2|u
   .exact .inr (.inr (e.trans e2.symm))
   .exact .inl (e▸h.1 y u)
  .rcases ak.mp u with e2|u
   .exact .inr (.inl (e2▸h.1 x z))
   .exact DO h.2 x z y u
theorem ui(hn:0<n)(e:n≤40)(h2:2*t≤n):K9 (nJ t n)=true∧nJ t n=J8 t n:=
 have h:=(uU xS (0,1) (by decide) yD).1 _ (wH hn e h2)
 (DZ h.2).2
theorem pn(hn:0<n)(B:n≤40)(h2:2*t≤n)(z:0<n')(u:n'≤40)(G:2*H≤n'):
  cV (nJ t n) (nJ H n')=some (compare (t*n') (H*n))∧(t*n'=H*n→nJ t n=nJ H n'):=by
 have m1:=wH hn B h2;have J:=wH z u G;rw[LN (ui hn B h2).1 (ui z u G).1]
 rcases DO (uU xS (0,1) (by decide) yD).2 _ m1 _ J with h|h|h
 .rcases h with ⟨a,b⟩|⟨a,b⟩<;>dsimp only at a b
  .exact⟨by rw[gF.mpr a,gF.mpr b],λe=>absurd e (aB a)⟩
  .exact⟨by rw[b,a,eu.mpr rfl,eu.mpr rfl],λ_=>b⟩
 .rcases h with ⟨a,b⟩|⟨a,b⟩<;>dsimp only at a b
  .exact⟨by rw[nO.mpr a,nO.mpr b],λe=>absurd e.symm (aB a)⟩
  .exact⟨by rw[b,a,eu.mpr rfl,eu.mpr rfl],λ_=>b.symm⟩
 .cases h
  exact⟨by rw[eu.mpr rfl,eu.mpr rfl],λ_=>rfl⟩
end
section
noncomputable def Cv(a:Int):Bool:=(aU 6).all λb=>(aU 6).all λc=>(aU 6).all λd=>PN [a,b,c,d]
theorem O9:Cv ((0:Nat):Int)=true:=by decide +kernel
theorem O8:Cv ((1:Nat):Int)=true:=by decide +kernel
theorem O7:Cv ((2:Nat):Int)=true:=by decide +kernel
theorem O6:Cv ((3:Nat):Int)=true:=by decide +kernel
theorem O5:Cv ((4:Nat):Int)=true:=by decide +kernel
theorem O4:Cv ((5:Nat):Int)=true:=by decide +kernel
theorem Iy:((aU 6).all λa=>(aU 6).all λb=>(aU 6).all λc=>(aU 6).all λd=>PN [a,b,c,d])=true:=
 gj.mpr λa ha=>match a,bD.mp ha with
  | 0,_=>O9
  | 1,_=>O8
  | 2,_=>O7
  | 3,_=>O6
  | 4,_=>O5
  | 5,_=>O4
end
section
open W PyProof Rows
theorem AY{tb:Nat→Nat→Bool}{i n:Nat}{x:Int} : x∈sC tb sK i n↔∃j,j<n∧tb i j=true∧x=5*(i:Int)+(j:Int):=by
 unfold sC;rw[eg];constructor
 .intro u
  refine fK u λj hj B=>?_;clear u;subst B;refine b7 (bY.mp hj) λh1 h2=>?_;exact(cZ j (bD.mp h1) h2 rfl)
 .intro e
  refine fJ e λj h1 h2 z=>?_;clear e;subst z;exact(c9 j (bY.mpr ⟨bD.mpr h1,h2⟩) rfl)
theorem xY{tb:Nat→Nat→Bool}{n:Nat}{x:Int} : x∈jB tb sK 5 n↔∃i j,i<n∧j<5∧tb i j=true∧x=5*(i:Int)+(j:Int):=by
 unfold jB;rw[List.mem_flatMap];constructor
 .intro u
  refine fK u λi hi h=>?_;clear u;refine fJ (AY.mp h) λj h1 h2 h3=>?_;exact(se i j (bD.mp hi) h1 h2 h3)
 .intro e
  refine hH e λi j h1 h2 h3 h4=>?_;clear e;exact(c9 i (bD.mpr h1) (AY.mpr (cZ j h2 h3 h4)))
section
variable {bs:List Int}
noncomputable def bw(bs:List Int):List Int:=jB (zl bs) sK 5 4
noncomputable def aZ(bs:List Int):List Int:=(aU 4).map (jT bs)
theorem wq(hl:bs.length=5)(t:Nat):((aU 5).filter (zl bs t)).length=(bs.filter (jD t)).length:=by
 have e:bs=(aU 5).map (λj=>bs.getD j 0):=by
  refine ou (by simp [hl]) λi h1 h2=>?_;rw[cG,mE,az,ao h1];rfl
 rw[e,wA,aE,← e];rfl
theorem rm(hl:bs.length=5)(t:Nat):(sC (zl bs) sK t 5).length=(bs.filter (jD t)).length:=by
 unfold sC;rw[aE,wq hl]
theorem ND(tb:Nat→Nat→Bool):jB tb sK 5 4=sC tb sK 0 5++sC tb sK 1 5++sC tb sK 2 5++sC tb sK 3 5:=by
 rw[jQ,jQ,jQ,jQ];refine(?_:[]++_++_++_++_=_);rw[ik]
theorem AD(f:Nat→Int):gu ((aU 4).map f)=f 0+f 1+f 2+f 3:=by
 exact nA (kJ [f 0,f 1,f 2,f 3] (.a (.a (.a (.a Y0 Z0) Z1) Z2) Z3) (.a (.a (.a Z0 Z1) Z2) Z3) rfl) (kJ [f 0,f 1,f 2,f 3] (.a (.a (.a Z0 Z1) Z2) Z3) (.a (.a (.a (.a Y0 Z0) Z1) Z2) Z3) rfl)
theorem xE(hl:bs.length=5):((bw bs).length:Int)=gu (aZ bs):=by
 unfold bw aZ;rw[AD,ND,aT,aT,aT,rm hl,rm hl,rm hl,rm hl];unfold jT;exact nA (kJ [↑((eP (jD 0) bs).length),↑((eP (jD 1) bs).length),↑((eP (jD 2) bs).length),↑((eP (jD 3) bs).length)] (.a (.a (.a Z0 Z1) Z2) Z3) (.a (.a (.a Z0 Z1) Z2) Z3) rfl) (kJ [↑((eP (jD 0) bs).length),↑((eP (jD 1) bs).length),↑((eP (jD 2) bs).length),↑((eP (jD 3) bs).length)] (.a (.a (.a Z0 Z1) Z2) Z3) (.a (.a (.a Z0 Z1) Z2) Z3) rfl)
theorem HQ(i j:Nat)(hi:i<4)(hj:j<5):decide ((5*(i:Int)+(j:Int))∈bw bs)=zl bs i j:=by
 by_cases h:zl bs i j=true
 .rw[h]
  exact decide_eq_true (xY.mpr (se i j hi hj h rfl))
 .rw[Bool.not_eq_true] at h
  rw[h];refine decide_eq_false λhm=>?_;refine hH (xY.mp hm) λu e h1 h2 h3 h4=>?_;have e1:i=u:=vn (g5 [i,u,j,e] 5 Z0 Z1 1 (.a (.m 5 Z0) Z2) (.a (.m 5 Z1) Z3) 1 (.a Z3 Y1) (.k 5) 1 Y0 Z2 rfl (gV h4) (d9 h2) j0) (g5 [u,i,e,j] 5 Z0 Z1 1 (.a (.m 5 Z0) Z2) (.a (.m 5 Z1) Z3) 1 (.a Z3 Y1) (.k 5) 1 Y0 Z2 rfl (iq h4) (d9 hj) j0);have e2:j=e:=vn (eQ [j,e,u,i] 1 Z0 Z1 5 Z2 Z3 1 (.a (.m 5 Z3) Z0) (.a (.m 5 Z2) Z1) rfl (l9 e1) (gV h4)) (eQ [e,j,i,u] 1 Z0 Z1 5 Z2 Z3 1 (.a (.m 5 Z3) Z0) (.a (.m 5 Z2) Z1) rfl (vX e1) (iq h4));subst e1 e2;rw[h] at h3;cases h3
theorem Dx{S i j:Nat}(hj:j<5):zl [(S:Int),S,S,S,S] i j=bt (S:Int) (i:Int):=by
 unfold zl;rw[← FQ]
 have:([(S:Int),S,S,S,S]:List Int).getD j 0=S:=by
  match j,hj with
  | 0,_=>rfl
  | 1,_=>rfl
  | 2,_=>rfl
  | 3,_=>rfl
  | 4,_=>rfl
 rw[this]
theorem pB(hl:bs.length=5)(S i:Nat)(hi:i<4):((sC (zl [(S:Int),S,S,S,S]) sK i 5).filter λx=>decide (x∈bw bs)).length=if bt (S:Int) (i:Int) then (bs.filter (jD i)).length else 0:=by
 unfold sC;rw[wA,aE]
 have e:((aU 5).filter (zl [(S:Int),S,S,S,S] i))=if bt (S:Int) (i:Int) then aU 5 else []:=by
  by_cases h:bt (S:Int) (i:Int)=true
  .rw[if_pos h]
   refine rS.mpr λj hj=>?_;rw[Dx (bD.mp hj),h]
  .rw[if_neg h]
   refine BD.mpr λj hj=>?_;rw[Dx (bD.mp hj)];exact h
 rw[e]
 by_cases h:bt (S:Int) (i:Int)=true
 .rw[if_pos h,if_pos h,← wq hl]
  refine congrArg eE (nG λj hj=>?_);exact HQ i j hi (bD.mp hj)
 .rw[if_neg h,if_neg h]
  rfl
theorem td{i:Nat}(hi:i<4):nv (aZ bs) (i:Int)=((bs.filter (jD i)).length:Nat):=by
 unfold nv aZ;rw[bC,az,eO,lO hi];rfl
theorem HZ{p:Int→Bool}{f:Int→Int}{a:Int}{l:List Int} : (((a::l).filter p).map f).sum=(if p a then f a else 0)+((l.filter p).map f).sum:=by
 rw[fC];cases p a
 .exact(fO _).symm
 .rfl
theorem PH{b:Bool}{a:Nat} : (((if b then a else 0):Nat):Int)=if b then (a:Int) else 0:=by cases b<;>rfl
theorem Qy{a b c d:Bool}{x y z w:Nat} : (((if a then x else 0)+(if b then y else 0)+(if c then z else 0)+(if d then w else 0):Nat):Int)=(if a then (x:Int) else 0)+(if b then (y:Int) else 0)+(if c then (z:Int) else 0)+(if d then (w:Int) else 0):=by
 rw[← PH,← PH,← PH,← PH];rfl
theorem B8(vs:List Int)(S:Int):fM vs S=(if bt S 0 then nv vs 0 else 0)+(if bt S 1 then nv vs 1 else 0)+(if bt S 2 then nv vs 2 else 0)+(if bt S 3 then nv vs 3 else 0):=by
 unfold fM th;rw[mT,HZ,HZ,HZ,HZ,kP,kP];exact congrArg _ (congrArg _ (congrArg _ (iW _)))
theorem rW(hl:bs.length=5)(S:Nat):(((gI S).filter λx=>decide (x∈bw bs)).length:Int)=fM (aZ bs) (S:Int):=by
 unfold gI;rw[B8];show (((jB (zl [(S:Int),S,S,S,S]) sK 5 4).filter λx=>decide (x∈bw bs)).length:Int)=_;rw[ND,cH,cH,cH,aT,aT,aT,pB hl S 0 (gE 3),pB hl S 1 (uw (aR 1) (bR true)),pB hl S 2 (uw (aR 2) (bR true)),pB hl S 3 (aJ 3)];have v0:nv (aZ bs) 0=_:=td (i:=0) (by decide);have v1:nv (aZ bs) 1=_:=td (i:=1) (by decide);have v2:nv (aZ bs) 2=_:=td (i:=2) (by decide);have e:nv (aZ bs) 3=_:=td (i:=3) (by decide);rw[v0,v1,v2,e];exact Qy
theorem te:∀S,S<16→(gI S).length=5*(th (S:Int)).length:=by decide +kernel
theorem Hi:∀i,i<16→∀j,j<16→gI i=gI j→i=j:=by decide +kernel
theorem kU(S:Nat):(gI S).Pairwise (· < ·):=nu
theorem iX:(bw bs).Pairwise (· < ·):=nu
theorem sZ:(bw bs).length≤20:=wI
theorem zg(hl:bs.length=5):∀x∈aZ bs,0≤x∧x≤5:=by
 intro x u;refine fK (eg.mp u) λt _ e=>?_;subst e;unfold jT;have:=bU (jD t) bs;exact⟨cS [↑((eP (jD t) bs).length)] 1 Y0 Z0 1 Y0 Z0 rfl j0,eQ [↑((eP (jD t) bs).length),bs.length] 1 Z0 (.k 5) 1 Z0 Z1 1 Z1 (.k 5) rfl (d9 this) (vX hl)⟩
end
theorem LU(hl:vs.length=4)(h5:∀x∈vs,0≤x∧x≤5):PN vs=true:=by
 match vs,hl with
 | [a,b,c,d],_=>
  have ha:=h5 a (by k_extra "zmm");have hb:=h5 b (by k_extra "zmm");have hc:=h5 c (by k_extra "zmm");have hd:=h5 d (by k_extra "zmm");have z:=gj.mp (gj.mp (gj.mp (gj.mp Iy a.toNat (bD.mpr (ltN (eQ [a.toNat,a] 1 (.a Z0 Y1) (.k 6) 1 Z1 (.k 5) 1 Z0 Z1 rfl ha.2 (iZ (cS [a] 1 Y0 Z0 1 Y0 Z0 rfl ha.1)))))) b.toNat (bD.mpr (ltN (eQ [b.toNat,b] 1 (.a Z0 Y1) (.k 6) 1 Z1 (.k 5) 1 Z0 Z1 rfl hb.2 (iZ (cS [b] 1 Y0 Z0 1 Y0 Z0 rfl hb.1)))))) c.toNat (bD.mpr (ltN (eQ [c.toNat,c] 1 (.a Z0 Y1) (.k 6) 1 Z1 (.k 5) 1 Z0 Z1 rfl hc.2 (iZ (cS [c] 1 Y0 Z0 1 Y0 Z0 rfl hc.1)))))) d.toNat (bD.mpr (ltN (eQ [d.toNat,d] 1 (.a Z0 Y1) (.k 6) 1 Z1 (.k 5) 1 Z0 Z1 rfl hd.2 (iZ (cS [d] 1 Y0 Z0 1 Y0 Z0 rfl hd.1)))));rw[dA ha.1,dA hb.1,dA hc.1,dA hd.1] at z;exact z
structure VF(vs:List Int):Prop where
 m0:0<dc vs
 z0:0≤sizeOf vs
 z4:sizeOf vs≤4
 mb:2*dc vs≤dn vs
 due:∀S:Nat,S<16→pW vs (S:Int)=decide (dc vs*(gu vs+5*((th (S:Int)).length:Int))=fM vs (S:Int)*dn vs)
 le:∀S:Nat,S<16→fM vs (S:Int)*dn vs≤dc vs*(gu vs+5*((th (S:Int)).length:Int))
 dif:∀S:Nat,S<16→th (S:Int)=DE (dF vs)∨jm vs (dF vs)<jm vs (th (S:Int))
 few:gu vs<4∨dn vs<2*gu vs*dc vs
 inc:zV ((eh vs 4).map λt=>(nv vs t,-t))=true
theorem Nj(hl:vs.length=4)(h5:∀x∈vs,0≤x∧x≤5)(h0:gu vs≠0):VF vs:=by
 have h:=LU hl h5;unfold PN at h;rw[decide_eq_false h0,Bool.false_or] at h;simp only[dE,io,decide_eq_true_eq,gj,bD,beq_iff_eq] at h;refine b7 h λe _=>?_
 try clear h
 refine b7 e λu _=>?_
 try clear e
 obtain ⟨⟨⟨⟨⟨⟨a1,a2⟩,a3⟩,J⟩,B⟩,H⟩,G⟩:=u;exact⟨a1,a2,a3,J,λS z=>(B S z).1.1,λS z=>(B S z).1.2,λS z=>(B S z).2,H,G⟩
theorem tz(hn:0<n)(z:n≤40)(h2:2*t≤n)(hb:0<b)(e:b≤40)(u:2*m≤b):H1 (nJ t n) (nJ m b)=decide (m*n≤t*b):=by
 unfold H1;rw[(pn hn z h2 hb e u).1]
 rcases jY (t*b) (m*n) with h|h|h
 .rw[gF.mpr h,decide_eq_false (λhh=>wP h hh)];rfl
 .rw[eu.mpr h,decide_eq_true (fu (Eq.symm h))];rfl
 .rw[nO.mpr h,decide_eq_true (aL h)];rfl
theorem rp(t n:Nat):km (t:Int) (n:Int)=nJ t n:=rfl
theorem DN(hn:0<n)(e:n≤40)(h2:2*t≤n):cV (nJ t n) (nJ t n)=some dh:=by
 rw[(pn hn e h2 hn e h2).1,eu.mpr rfl]
theorem xD(hb:0<b)(u:b≤40)(z:2*m≤b):(cV 0 (nJ m b)==some kb||cV 0 (nJ m b)==some dh)=true:=by
 have e:(0:UInt64)=nJ 0 1:=by decide +kernel
 rw[e,(pn (by decide) (by decide) (by decide) hb u z).1]
 rcases CS (0*b) (m*1) with h|h
 .rw[gF.mpr h];rfl
 .rw[eu.mpr (vn (cS [b,↑(m*1)] 1 (.m 0 Z0) Z1 1 Y0 Z1 rfl j0) (cS [↑(m*1),b] 1 Z0 (.m 0 Z1) 1 Z0 (.m 0 Z1) rfl (d9 h)))];rfl
theorem zv(hb:0<b)(u:b≤40)(z:2*m≤b):(cV (nJ m b) 4607182418800017408==some kb||cV (nJ m b) 4607182418800017408==some dh)=true:=by
 have e:(4607182418800017408:UInt64)=nJ 1 2:=by decide +kernel
 rw[e,(pn hb u z (by decide) (by decide) (by decide)).1]
 rcases CS (m*2) (1*b) with h|h
 .rw[gF.mpr h];rfl
 .rw[eu.mpr (by lia)];rfl
end
section
section
variable {xs ys:List Int}
noncomputable def sl(xs:List Int)(a b:Int):List Int:=(xs.drop a.toNat).take (b-a).toNat
theorem l0(h0:0≤a):x∈sl xs a b↔∃p:Nat,a≤p∧(p:Int)<b∧xs[p]?=some x:=by
 unfold sl;rw[List.mem_iff_getElem?];constructor
 .intro u
  refine cp u λi hi=>?_;clear u;rw[GP] at hi
  split at hi
  .rw[sG] at hi
   exact(cZ (a.toNat+i) (eQ [a,a.toNat,i] 1 Z0 (.a Z1 Z2) 1 Z0 Z1 1 Y0 Z2 rfl tq j0) (by omega) hi)
  .cases hi
 .intro e
  refine fJ e λp h1 h2 h3=>?_;clear e;refine⟨p-a.toNat,?_⟩;rw[GP,if_pos (ltN (y5 [↑(p-a.toNat),↑((b-a).toNat),p,b,a,a.toNat] 1 (.a Z0 Y1) Z1 1 (.a Z2 Y1) Z3 1 (.s Z3 Z4) Z1 1 Z4 Z5 1 (.a Z0 Z5) Z2 rfl h2 tq tq (xN (eQ [a.toNat,p,a] 1 Z0 Z1 1 Z2 Z1 1 Z0 Z2 rfl h1 (iZ (cS [a] 1 Y0 Z0 1 Y0 Z0 rfl h0)))))),sG,show a.toNat+(p-a.toNat)=p by exact Pf (Sg h1)];exact h3
theorem xK(h0:0≤a)(h1:a≤i)(h2:i≤b):sl xs a b=sl xs a i++sl xs i b:=by
 unfold sl;have e:(b-a).toNat=(i-a).toNat+(b-i).toNat:=vn (g5 [↑((b-a).toNat),↑((i-a).toNat),↑((b-i).toNat),i,a,b] 1 Z0 (.a Z1 Z2) 1 (.s Z3 Z4) Z1 1 (.s Z5 Z3) Z2 1 Z0 (.s Z5 Z4) rfl tq tq (iZ (eQ [b,a,i] 1 Y0 (.s Z0 Z1) 1 Z2 Z0 1 Z1 Z2 rfl h2 h1))) (g5 [↑((i-a).toNat),↑((b-i).toNat),↑((b-a).toNat),b,a,i] 1 (.a Z0 Z1) Z2 1 (.s Z3 Z4) Z2 1 Z0 (.s Z5 Z4) 1 Z1 (.s Z3 Z5) rfl tq (iZ (cS [i,a] 1 Y0 (.s Z0 Z1) 1 Z1 Z0 rfl h1)) (iZ (cS [b,i] 1 Y0 (.s Z0 Z1) 1 Z1 Z0 rfl h2)));rw[e,List.take_add,Nd,show a.toNat+(i-a).toNat=i.toNat by exact vn (g5 [a.toNat,↑((i-a).toNat),i.toNat,i,a] 1 (.a Z0 Z1) Z2 1 Z3 Z2 1 Z0 Z4 1 Z1 (.s Z3 Z4) rfl tq (iZ (cS [a] 1 Y0 Z0 1 Y0 Z0 rfl h0)) (iZ (cS [i,a] 1 Y0 (.s Z0 Z1) 1 Z1 Z0 rfl h1))) (g5 [i.toNat,a.toNat,↑((i-a).toNat),a,i] 1 Z0 (.a Z1 Z2) 1 Z3 Z1 1 (.s Z4 Z3) Z2 1 Z0 Z4 rfl tq tq (iZ (eQ [i,a] 1 Y0 Z0 1 Z1 Z0 1 Y0 Z1 rfl h1 h0)))]
theorem JY{a b:Int}(h0:0≤a)(h1:a≤b)(h2:b≤xs.length):((sl xs a b).length:Int)=b-a:=by
 unfold sl;rw[eJ,eV];exact nA (eQ [↑(min (b-a).toNat (xs.length-a.toNat)),b,a,↑((b-a).toNat)] 1 Z0 (.s Z1 Z2) 1 Z0 Z3 1 Z3 (.s Z1 Z2) rfl KD (iZ (cS [b,a] 1 Y0 (.s Z0 Z1) 1 Z1 Z0 rfl h1))) (eQ [b,a,↑(min (b-a).toNat (xs.length-a.toNat)),↑((b-a).toNat)] 1 (.s Z0 Z1) Z2 1 (.s Z0 Z1) Z3 1 Z3 Z2 rfl tq (Ri (y5 [↑((b-a).toNat),↑(xs.length-a.toNat),b,xs.length,a.toNat,a] 1 Z0 Z1 1 Z2 Z3 1 Z3 (.a Z1 Z4) 1 Z0 (.s Z2 Z5) 1 Z4 Z5 rfl h2 C8 (iZ (cS [b,a] 1 Y0 (.s Z0 Z1) 1 Z1 Z0 rfl h1)) (iZ (cS [a] 1 Y0 Z0 1 Y0 Z0 rfl h0)))))
theorem vP(z:xs.Pairwise (· < ·)){p q:Nat}{x y:Int}(h1:xs[p]?=some x)(h2:xs[q]?=some y)(h:p<q):x<y:=by
 refine cp (bP.mp h1) λhp u=>?_;subst u;refine cp (bP.mp h2) λhq e=>?_;subst e;exact ce.mp z p q hp hq h
theorem DB(u:xs.Pairwise (· < ·)){p q:Nat}{x y:Int}(h1:xs[p]?=some x)(h2:xs[q]?=some y)(h:x<y):p<q:=by
 rcases jY p q with e|e|e
 .exact e
 .subst e;rw[h1] at h2;cases h2;exact(qz (cS [x] 1 Y0 (.k (-1)) 1 (.a Z0 Y1) Z0 rfl h)).elim
 .have:=vP u h2 h1 e;exact(qz (eQ [y,x] 2 Y0 (.k (-1)) 1 (.a Z0 Y1) Z1 1 (.a Z1 Y1) Z0 rfl this h)).elim
theorem BH(hx:xs.Pairwise (· < ·))(hy:ys.Pairwise (· < ·)){a b c d t:Int}(h:pM xs ys a b c d t):0≤a→a≤b→b≤xs.length→0≤c→c≤d→d≤ys.length→t=(((sl xs a b).filter (λx=>decide (x∈sl ys c d))).length:Nat):=by
 induction h with
 | none h=>
  intro e ab bl O cd dl;rw[BD.mpr]
  .rfl
  .intro x u aj
   refine fJ ((l0 e).mp u) λp p1 p2 p3=>?_;refine fJ ((l0 O).mp (of_decide_eq_true aj)) λq Y U J=>?_;refine h p q p1 p2 Y U ?_;rw[bC,bC,p3,J]
 | @split alo ahi blo bhi i j k t1 t2 h1 h2 h3 h4 h5 dg _ _ ah aa=>
  intro e ab bl O cd dl;have ah:=ah e h1 (by exact g5 [i,xs.length,ahi,k] 1 Z0 Z1 1 Z2 Z1 1 (.a Z0 Z3) Z2 1 Y1 Z3 rfl bl h4 h3) O h2 (by exact g5 [j,ys.length,bhi,k] 1 Z0 Z1 1 Z2 Z1 1 (.a Z0 Z3) Z2 1 Y1 Z3 rfl dl h5 h3);have aa:=aa (by exact g5 [i,k,alo] 1 Y0 (.a Z0 Z1) 1 Y0 Z2 1 Y1 Z1 1 Z2 Z0 rfl e h3 h1) h4 bl (by exact g5 [j,k,blo] 1 Y0 (.a Z0 Z1) 1 Y0 Z2 1 Y1 Z1 1 Z2 Z0 rfl O h3 h2) h5 dl;refine fK (dg 0 (by exact cS [k] 1 (.a Y0 Y1) Z0 1 Y1 Z0 rfl h3)) λv0 x0 y0=>?_;refine fK (dg (k.toNat-1) (by exact eQ [↑(k.toNat-1),k,k.toNat] 1 (.a Z0 Y1) Z1 1 (.a Z0 Y1) Z2 1 Z2 Z1 rfl (xN (eQ [k.toNat,k] 1 Y1 Z0 1 Y1 Z1 1 Z1 Z0 rfl h3 tq)) (iZ (cS [k] 1 Y0 Z0 1 Y1 Z0 rfl h3)))) λv1 x1 y1=>?_;rw[xK (i:=i) e h1 (by exact eQ [i,ahi,k] 1 Z0 Z1 1 (.a Z0 Z2) Z1 1 Y1 Z2 rfl h4 h3),xK (xs:=xs) (a:=i) (i:=i+k) (by exact cj e h1) (by exact cS [i,k] 1 Z0 (.a Z0 Z1) 1 Y1 Z1 rfl h3) h4,cH,cH,aT,aT]
  have e1:(sl xs alo i).filter (λx=>decide (x∈sl ys blo bhi))=(sl xs alo i).filter (λx=>decide (x∈sl ys blo j)):=by
   refine nG λx u=>decide_eq_decide.mpr ?_;refine fJ ((l0 e).mp u) λp p1 p2 p3=>?_;rw[l0 O,l0 O];constructor
   .intro H
    refine fJ H λq Y U J=>?_;clear H;refine(cZ q Y ?_ J);have:=vP hx p3 x0 (by exact ltN (eQ [p,↑((i+(↑0:Int)).toNat),i] 1 (.a Z0 Y1) Z1 1 (.a Z0 Y1) Z2 1 (.a Z2 Y0) Z1 rfl p2 tq));have:=DB hy J y0 this;exact eQ [q,j,↑((j+(↑0:Int)).toNat)] 1 (.a Z0 Y1) Z1 1 (.a Z0 Y1) Z2 1 Z2 (.a Z1 Y0) rfl (d9 this) (iZ (eQ [j,blo] 1 Y0 (.a Z0 Y0) 1 Y0 Z1 1 Z1 Z0 rfl O h2))
   .intro G
    refine fJ G λq Y U J=>?_;clear G;exact(cZ q Y (by exact g5 [q,bhi,j,k] 1 (.a Z0 Y1) Z1 1 (.a Z0 Y1) Z2 1 (.a Z2 Z3) Z1 1 Y1 Z3 rfl U h5 h3) J)
  have e2:(sl xs i (i+k)).filter (λx=>decide (x∈sl ys blo bhi))=sl xs i (i+k):=by
   refine rS.mpr λx u=>decide_eq_true ?_;refine fJ ((l0 (by exact cj e h1)).mp u) λp p1 p2 p3=>?_;refine fK (dg (p-i.toNat) (by exact g5 [↑(p-i.toNat),k,p,i,i.toNat] 1 (.a Z0 Y1) Z1 1 (.a Z2 Y1) (.a Z3 Z1) 1 Z3 Z4 1 (.a Z0 Z4) Z2 rfl p2 tq (xN (eQ [i.toNat,p,i] 1 Z0 Z1 1 Z2 Z1 1 Z0 Z2 rfl p1 (iZ (eQ [i,alo] 1 Y0 Z0 1 Y0 Z1 1 Z1 Z0 rfl e h1)))))) λv xv yv=>?_;rw[show (i+((p-i.toNat:Nat):Int)).toNat=p by exact vn (g5 [↑((i+(↑(p-i.toNat):Int)).toNat),p,i,i.toNat,↑(p-i.toNat)] 1 Z0 Z1 1 Z2 Z3 1 Z0 (.a Z2 Z4) 1 (.a Z4 Z3) Z1 rfl tq (iZ (g5 [i,↑(p-i.toNat),alo] 1 Y0 (.a Z0 Z1) 1 Y0 Z2 1 Z2 Z0 1 Y0 Z1 rfl e h1 j0)) (xN (eQ [i.toNat,p,i] 1 Z0 Z1 1 Z2 Z1 1 Z0 Z2 rfl p1 (iZ (eQ [i,alo] 1 Y0 Z0 1 Y0 Z1 1 Z1 Z0 rfl e h1))))) (g5 [p,↑((i+(↑(p-i.toNat):Int)).toNat),i,↑(p-i.toNat),i.toNat] 1 Z0 Z1 1 (.a Z2 Z3) Z1 1 Z0 (.a Z3 Z4) 1 Z4 Z2 rfl tq C8 (iZ (eQ [i,alo] 1 Y0 Z0 1 Y0 Z1 1 Z1 Z0 rfl e h1))),p3] at xv;cases xv;exact(l0 O).mpr (cZ ((j+((p-i.toNat:Nat):Int)).toNat) (by exact g5 [blo,↑((j+(↑(p-i.toNat):Int)).toNat),j,↑(p-i.toNat)] 1 Z0 Z1 1 Z0 Z2 1 (.a Z2 Z3) Z1 1 Y0 Z3 rfl h2 tq j0) (by exact Jj [↑((j+(↑(p-i.toNat):Int)).toNat),bhi,p,i,k,j,i.toNat,↑(p-i.toNat)] 1 (.a Z0 Y1) Z1 1 (.a Z2 Y1) (.a Z3 Z4) 1 (.a Z5 Z4) Z1 1 Z3 Z6 1 Z0 (.a Z5 Z7) 1 (.a Z7 Z6) Z2 rfl p2 h5 tq (iZ (g5 [j,↑(p-i.toNat),blo] 1 Y0 (.a Z0 Z1) 1 Y0 Z2 1 Z2 Z0 1 Y0 Z1 rfl O h2 j0)) (xN (eQ [i.toNat,p,i] 1 Z0 Z1 1 Z2 Z1 1 Z0 Z2 rfl p1 (iZ (eQ [i,alo] 1 Y0 Z0 1 Y0 Z1 1 Z1 Z0 rfl e h1))))) yv)
  have e3:(sl xs (i+k) ahi).filter (λx=>decide (x∈sl ys blo bhi))=(sl xs (i+k) ahi).filter (λx=>decide (x∈sl ys (j+k) bhi)):=by
   refine nG λx u=>decide_eq_decide.mpr ?_;refine fJ ((l0 (by exact g5 [i,k,alo] 1 Y0 (.a Z0 Z1) 1 Y0 Z2 1 Y1 Z1 1 Z2 Z0 rfl e h3 h1)).mp u) λp p1 p2 p3=>?_;rw[l0 O,l0 (by exact g5 [j,k,blo] 1 Y0 (.a Z0 Z1) 1 Y0 Z2 1 Y1 Z1 1 Z2 Z0 rfl O h3 h2)];constructor
   .intro B
    refine fJ B λq Y U J=>?_;clear B;refine(cZ q ?_ U J);have:=vP hx x1 p3 (by exact ltN (y5 [↑((i+(↑(k.toNat-1):Int)).toNat),p,i,k,↑(k.toNat-1),k.toNat] 1 (.a Z0 Y1) Z1 1 (.a Z2 Z3) Z1 1 Z0 (.a Z2 Z4) 1 (.a Z4 Y1) Z5 1 Z5 Z3 rfl p1 (iZ (g5 [i,↑(k.toNat-1),alo] 1 Y0 (.a Z0 Z1) 1 Y0 Z2 1 Z2 Z0 1 Y0 Z1 rfl e h1 j0)) (xN (eQ [k.toNat,k] 1 Y1 Z0 1 Y1 Z1 1 Z1 Z0 rfl h3 tq)) (iZ (cS [k] 1 Y0 Z0 1 Y1 Z0 rfl h3))));have:=DB hy y1 J this;exact y5 [j,k,q,↑((j+(↑(k.toNat-1):Int)).toNat),↑(k.toNat-1),k.toNat] 1 (.a Z0 Z1) Z2 1 (.a Z3 Y1) Z2 1 (.a Z0 Z4) Z3 1 Z5 (.a Z4 Y1) 1 Z1 Z5 rfl (d9 this) tq C8 tq
   .intro z
    refine fJ z λq Y U J=>?_;clear z;exact(cZ q (by exact g5 [blo,q,j,k] 1 Z0 Z1 1 (.a Z2 Z3) Z1 1 Y1 Z3 1 Z0 Z2 rfl Y h3 h2) U J)
  rw[e1,e2,e3];have:=JY (xs:=xs) (a:=i) (b:=i+k) (by exact cj e h1) (by exact cS [i,k] 1 Z0 (.a Z0 Z1) 1 Y1 Z1 rfl h3) (by exact cj h4 bl);lia
theorem DF(xs:List Int):sl xs 0 xs.length=xs:=by
 unfold sl;rw[show ((xs.length:Int)-0).toNat=xs.length by exact vn (cS [↑(((xs.length:Int)-0).toNat),xs.length] 1 Z0 Z1 1 Z0 (.s Z1 Y0) rfl (iZ (cS [xs.length] 1 Y0 (.s Z0 Y0) 1 Y0 Z0 rfl j0))) (cS [xs.length,↑(((xs.length:Int)-0).toNat)] 1 Z0 Z1 1 (.s Z0 Y0) Z1 rfl tq)];exact cP
theorem zk(u:xs.Pairwise (· < ·))(e:ys.Pairwise (· < ·))(h:pM xs ys 0 xs.length 0 ys.length t):t=((xs.filter (λx=>decide (x∈ys))).length:Nat):=by
 have:=BH u e h (bZ _) (cb _) (bZ _) (bZ _) (cb _) (bZ _);rw[DF,DF] at this;exact this
theorem uf(h:pM xs ys a b c d t)(hn:∀p q:Int,a≤p→p<b→c≤q→q<d→xs[p.toNat]?≠ys[q.toNat]?):t=0:=by
 cases h with
 | none=>rfl
 | split h1 h2 h3 h4 h5 u r1 r2=>
  rename_i i j k t1 t2;refine fK (u 0 (cS [k] 1 (.a Y0 Y1) Z0 1 Y1 Z0 rfl h3)) λv xv e=>?_;exact absurd (by rw[show i=i+((0:Nat):Int) by exact nA (kJ [i] Z0 (.a Z0 Y0) rfl) (kJ [i] (.a Z0 Y0) Z0 rfl),show j=j+((0:Nat):Int) by exact nA (kJ [j] Z0 (.a Z0 Y0) rfl) (kJ [j] (.a Z0 Y0) Z0 rfl),xv,e]) (hn i j (h1) (eQ [i,b,k] 1 (.a Z0 Y1) Z1 1 (.a Z0 Z2) Z1 1 Y1 Z2 rfl h4 h3) (h2) (eQ [j,d,k] 1 (.a Z0 Y1) Z1 1 (.a Z0 Z2) Z1 1 Y1 Z2 rfl h5 h3))
theorem Hc(H:ys.Pairwise (· < ·))(h0:0<ys.length){t:Int}(h:pM ys.reverse ys 0 ys.reverse.length 0 ys.length t):t=1:=by
 have U:∀{p q:Nat}{x y:Int},ys.reverse[p]?=some x→ys.reverse[q]?=some y→p<q→y<x:=by
  intro p q x y h1 h2 O;refine cp (bP.mp h1) λhp z=>?_;subst z;refine cp (bP.mp h2) λhq u=>?_;subst u;rw[kO,kO];rw[bg] at hp hq;exact ce.mp H _ _ _ _ (Rc O hq)
 rw[bg] at h
 cases h with
 | none h=>
  exfalso;refine h 0 ((ys.length:Int)-1) (bZ 0) (eF j0 (Le h0)) (cS [ys.length] 1 Y0 (.s Z0 Y1) 1 (.a Y0 Y1) Z0 rfl (d9 h0)) (kJ [ys.length] (.a (.s Z0 Y1) Y1) Z0 rfl) ?_;rw[show ((ys.length:Int)-1).toNat=ys.length-1 by exact vn (eQ [↑(((ys.length:Int)-1).toNat),↑(ys.length-1),ys.length] 1 Z0 Z1 1 Z2 (.a Z1 Y1) 1 Z0 (.s Z2 Y1) rfl C8 (iZ (cS [ys.length] 1 Y0 (.s Z0 Y1) 1 (.a Y0 Y1) Z0 rfl (d9 h0)))) (eQ [↑(ys.length-1),↑(((ys.length:Int)-1).toNat),ys.length] 1 Z0 Z1 1 (.s Z2 Y1) Z1 1 (.a Z0 Y1) Z2 rfl tq (xN (cS [ys.length] 1 Y1 Z0 1 (.a Y0 Y1) Z0 rfl (d9 h0)))),show (0:Int).toNat=0 from rfl,List.getElem?_reverse (h0)];rfl
 | split h1 h2 h3 h4 h5 dg r1 r2=>
  rename_i i j k t1 t2;refine fK (dg 0 (cS [k] 1 (.a Y0 Y1) Z0 1 Y1 Z0 rfl h3)) λv0 x0 y0=>?_
  have hk:k=1:=by
   rcases Int.lt_or_le k 2 with hk|hk
   .exact nA (cS [k] 1 Z0 Y1 1 (.a Z0 Y1) (.k 2) rfl hk) (cS [k] 1 Y1 Z0 1 Y1 Z0 rfl h3)
   .exfalso
    refine fK (dg 1 (cS [k] 1 (.a Y1 Y1) Z0 1 (.k 2) Z0 rfl hk)) λv1 x1 y1=>?_;have a1:=U x0 x1 (ltN (eQ [↑((i+(↑0:Int)).toNat),↑((i+(↑1:Int)).toNat),i] 1 (.a Z0 Y1) Z1 1 (.a Z2 Y1) Z1 1 Z0 (.a Z2 Y0) rfl tq (iZ (cS [i] 1 Y0 (.a Z0 Y0) 1 Y0 Z0 rfl h1))));have a2:=vP H y0 y1 (ltN (eQ [↑((j+(↑0:Int)).toNat),↑((j+(↑1:Int)).toNat),j] 1 (.a Z0 Y1) Z1 1 (.a Z2 Y1) Z1 1 Z0 (.a Z2 Y0) rfl tq (iZ (cS [j] 1 Y0 (.a Z0 Y0) 1 Y0 Z0 rfl h2))));exact PL a2 a1
  subst hk
  have e1:=uf r1 λp q B G J Y e=>by
   cases hp:ys.reverse[p.toNat]? with
   | none=>rw[yX,bg] at hp;exact(qz (y5 [ys.length,p.toNat,p,i] 2 Y0 (.k (-1)) 1 Z0 Z1 1 (.a Z2 Y1) Z3 1 (.a Z3 Y1) Z0 1 Z1 Z2 rfl (d9 hp) G h4 (iZ (cS [p] 1 Y0 Z0 1 Y0 Z0 rfl B))))
   | some x=>
    rw[hp] at e;have a1:=U hp x0 (ltN (g5 [p.toNat,↑((i+(↑0:Int)).toNat),p,i] 1 (.a Z0 Y1) Z1 1 (.a Z2 Y1) Z3 1 (.a Z3 Y0) Z1 1 Z0 Z2 rfl G tq (iZ (cS [p] 1 Y0 Z0 1 Y0 Z0 rfl B))));have a2:=vP H e.symm y0 (ltN (g5 [q.toNat,↑((j+(↑0:Int)).toNat),q,j] 1 (.a Z0 Y1) Z1 1 (.a Z2 Y1) Z3 1 (.a Z3 Y0) Z1 1 Z0 Z2 rfl Y tq (iZ (cS [q] 1 Y0 Z0 1 Y0 Z0 rfl J))));exact PL a2 a1
  have e2:=uf r2 λp q B G J Y e=>by
   cases hp:ys.reverse[p.toNat]? with
   | none=>rw[yX,bg] at hp;exact(qz (g5 [ys.length,p.toNat,p] 1 Y0 (.k (-1)) 1 Z0 Z1 1 (.a Z2 Y1) Z0 1 Z1 Z2 rfl (d9 hp) G (iZ (eQ [p,i] 1 Y0 Z0 1 (.a Z1 Y1) Z0 1 Y0 Z1 rfl B h1))))
   | some x=>
    rw[hp] at e;have a1:=U x0 hp (ltN (g5 [↑((i+(↑0:Int)).toNat),p.toNat,i,p] 1 (.a Z0 Y1) Z1 1 (.a Z2 Y1) Z3 1 Z3 Z1 1 Z0 (.a Z2 Y0) rfl B tq (iZ (cS [i] 1 Y0 (.a Z0 Y0) 1 Y0 Z0 rfl h1))));have a2:=vP H y0 e.symm (ltN (g5 [↑((j+(↑0:Int)).toNat),q.toNat,j,q] 1 (.a Z0 Y1) Z1 1 (.a Z2 Y1) Z3 1 Z3 Z1 1 Z0 (.a Z2 Y0) rfl J tq (iZ (cS [j] 1 Y0 (.a Z0 Y0) 1 Y0 Z0 rfl h2))));exact PL a2 a1
  exact nA (eQ [t1,t2] 1 (.a (.a Y1 Z0) Z1) Y1 1 Z1 Y0 1 Z0 Y0 rfl (gV e2) (gV e1)) (eQ [t1,t2] 1 Y1 (.a (.a Y1 Z0) Z1) 1 Y0 Z1 1 Y0 Z0 rfl (iq e2) (iq e1))
end
end
section
open W PyProof Rows
theorem vV:∀{a b:List Int},a.Nodup→(∀x∈a,x∈b)→a.length≤b.length
 | [],_,_,_=>c7 _
 | x::r,b,hn,hs=>by
  refine b7 (wy.mp hn) λh1 h2=>?_;have z:=hs x (zH);have:=vV (b:=b.erase x) h2 λy u=>(List.mem_erase_of_ne (λe:y=x=>h1 (by rw[← e];exact u))).mpr (hs y (zT u));rw[List.length_erase_of_mem z] at this;have:0<b.length:=Bz z;rw[gT];exact nV (eQ [r.length,b.length,↑(b.length-1)] 1 (.a Z0 Y1) Z1 1 Z0 Z2 1 (.a Z2 Y1) Z1 rfl (d9 (‹r.length≤b.length-1›)) (xN (cS [b.length] 1 Y1 Z0 1 (.a Y0 Y1) Z0 rfl (d9 this))))
noncomputable abbrev RowT:=Addr×List Int
structure cR(bs:List Int)(R Rw:List RowT):Prop where
 bl:bs.length=5
 n0:gu (aZ bs)≠0
 hw:Rw.map (·.2)=(aU 16).map gI
 hR:R=Rw∨(3<(bw bs).length∧∃a,R=Rw++[(a,(bw bs).reverse)])
 nd:(R.map (·.1)).Nodup
noncomputable def AK(bs:List Int)(q:RowT):Int:=if q.2.Pairwise (· < ·) then ((q.2.filter λx=>decide (x∈bw bs)).length:Nat) else 1
noncomputable def wY(vs:List Int):UInt64:=nJ (dc vs).toNat (dn vs).toNat
noncomputable def lr(bs:List Int)(q:RowT):UInt64:=km (AK bs q) ((q.2.length:Int)+((bw bs).length:Int))
noncomputable def qi(bs:List Int)(q:RowT):Bool:=H1 (lr bs q) (wY (aZ bs))
noncomputable def dR(vs:List Int)(Rw:List RowT):List RowT:=((aU 16).filter (λc:Nat=>pW vs (c:Int))).map λc=>Rw.getD c (0,[])
section
variable {bs:List Int}{R Rw:List RowT}
theorem cR.vf(h:cR bs R Rw):VF (aZ bs):=Nj rfl (zg h.bl) h.n0
theorem cR.wl(h:cR bs R Rw):((bw bs).length:Int)=gu (aZ bs)∧0<(bw bs).length∧(bw bs).length≤20:=by
 have e:=xE h.bl;have:=h.n0;exact(eR e (by lia) sZ)
theorem cR.len(h:cR bs R Rw):Rw.length=16:=by
 have:=congrArg eE h.hw;rw[aE,aE,db] at this;exact this
theorem cR.get(h:cR bs R Rw)(hc:c<16):(Rw.getD c (0,[])).2=gI c∧Rw.getD c (0,[])∈Rw:=by
 have hl:=h.len;rw[az,ao (pV hl hc)];refine⟨?_,bG _⟩;have e:=congrArg (λl=>l[c]?) h.hw;simp only[eO,lO hc,ao (pV hl hc:c<Rw.length),Option.map_some] at e;exact dJ e
theorem cR.idx(h:cR bs R Rw)(hq:q∈Rw):∃c,c<16∧q=Rw.getD c (0,[]):=by
 obtain ⟨c,hc,rfl⟩:=lL hq;have hl:=h.len;exact(c9 c (pV (Eq.symm hl) hc) (by rw[az,ao hc];rfl))
theorem Hk(h:3<(bw bs).length):¬(bw bs).reverse.Pairwise (· < ·):=by
 intro hp;have hs:=iX (bs:=bs);have a:=ce.mp hp 0 1 (by rw[bg];exact aN (gE 2) (aL h)) (by rw[bg];exact aK (gy 1 2) h) (aJ 0);rw[kO,kO] at a;have b:=ce.mp hs ((bw bs).length-1-1) ((bw bs).length-1-0) (JU (JV h)) (aK (jy (eE (bw bs)-1) 0) (JV h)) (ltN (eQ [↑((bw bs).length-1-1),↑((bw bs).length-1-0),↑((bw bs).length-1)] 1 (.a Z0 Y1) Z1 1 Z2 (.a Z1 Y0) 1 (.a Z0 Y1) Z2 rfl C8 (xN (eQ [↑((bw bs).length-1),↑((bw bs).length)] 1 Y1 Z0 1 (.a (.k 3) Y1) Z1 1 Z1 (.a Z0 Y1) rfl (d9 h) C8))));exact PL b a
theorem JQ(h:cR bs R Rw)(hq:q.2=gI c):AK bs q=fM (aZ bs) (c:Int):=by
 unfold AK;rw[hq,if_pos (kU c)];exact rW h.bl c
theorem kt(h:cR bs R Rw){c:Nat}(hc:c<16):0≤fM (aZ bs) (c:Int)∧fM (aZ bs) (c:Int)≤((gI c).length:Nat)∧fM (aZ bs) (c:Int)≤((bw bs).length:Nat):=by
 have e:=rW h.bl c;have h1:((gI c).filter λx=>decide (x∈bw bs)).length≤(gI c).length:=bU ..
 have h2:((gI c).filter λx=>decide (x∈bw bs)).length≤(bw bs).length:=by
  refine vV ?_ ?_
  .exact((kU c).imp λh e=>absurd (e▸h) (om _)).filter _
  .intro x u
   exact of_decide_eq_true (bY.mp u).2
 exact⟨eQ [fM (aZ bs) (c:Int),↑((eP (λ(x:Int)=>decide (x∈bw bs)) (gI c)).length)] 1 Y0 Z0 1 Z1 Z0 1 Y0 Z1 rfl (gV e) j0,⟨eQ [fM (aZ bs) (c:Int),↑((gI c).length),↑((eP (λ(x:Int)=>decide (x∈bw bs)) (gI c)).length)] 1 Z0 Z1 1 Z2 Z1 1 Z0 Z2 rfl (d9 h1) (iq e),eQ [fM (aZ bs) (c:Int),↑((bw bs).length),↑((eP (λ(x:Int)=>decide (x∈bw bs)) (gI c)).length)] 1 Z0 Z1 1 Z2 Z1 1 Z0 Z2 rfl (d9 h2) (iq e)⟩⟩
theorem Np(c:Int):(th c).length≤4:=bU ..
theorem lS(h:cR bs R Rw){c:Nat}{q:RowT}(hq:q.2=gI c):lr bs q=nJ (fM (aZ bs) (c:Int)).toNat (5*(th (c:Int)).length+(bw bs).length)∨16≤c:=by
 by_cases hc:c<16
 .left
  unfold lr;rw[JQ h hq,hq,te c hc];have:=(kt h hc).1;have e1:fM (aZ bs) (c:Int)=(((fM (aZ bs) (c:Int)).toNat:Nat):Int):=Nf (EU (EQ this) (bZ (fM (aZ bs) ↑c))) (OC (EQ this) (bZ ↑(ML (fM (aZ bs) ↑c))));rw[e1,bC];rw[← rp]
  congr 1
 .right;exact cJ hc
theorem wX(h:cR bs R Rw):0<(dn (aZ bs)).toNat∧(dn (aZ bs)).toNat≤40∧2*(dc (aZ bs)).toNat≤(dn (aZ bs)).toNat:=by
 have v:=h.vf;have w:=h.wl;have b:dn (aZ bs)=gu (aZ bs)+5*sizeOf (aZ bs):=rfl;have h0:=v.m0;have hb:=v.mb;have h2:(0:Int)<dn (aZ bs):=Jb (Int.mul_pos (by decide) h0) hb;have e1:=dA (iV h0);have e2:=dA (iV h2);refine⟨gG.mp (by rw[e2];exact h2),dk.mp ?_,dk.mp (by rw[dC,e1,e2];exact hb)⟩;rw[e2,b,← w.1];exact Int.add_le_add (dk.mpr w.2.2) (Int.mul_le_mul_of_nonneg_left v.z4 (by decide):5*sizeOf (aZ bs)≤5*4)
theorem qZ(h:cR bs R Rw){c:Nat}(hc:c<16):0<5*(th (c:Int)).length+(bw bs).length∧5*(th (c:Int)).length+(bw bs).length≤40∧2*(fM (aZ bs) (c:Int)).toNat≤5*(th (c:Int)).length+(bw bs).length:=by
 have w:=h.wl;have a:=kt h hc;have l:=te c hc;have t:=Np (c:Int);exact⟨ltN (g5 [↑((th (c:Int)).length),↑((bw bs).length),↑((gI c).length)] 1 (.a Y0 Y1) (.a (.m 5 Z0) Z1) 1 Z2 (.m 5 Z0) 1 (.a Y0 Y1) Z1 1 Y0 Z2 rfl (vX l) (d9 w.2.1) j0),⟨nV (eQ [↑((th (c:Int)).length),↑((bw bs).length)] 1 (.a (.m 5 Z0) Z1) (.k 40) 5 Z0 (.k 4) 1 Z1 (.k 20) rfl (d9 t) (d9 w.2.2)),nV (y5 [↑((fM (aZ bs) (c:Int)).toNat),↑((th (c:Int)).length),↑((bw bs).length),↑((gI c).length),fM (aZ bs) (c:Int)] 1 (.m 2 Z0) (.a (.m 5 Z1) Z2) 1 Z3 (.m 5 Z1) 1 Z4 Z3 1 Z4 Z2 2 Z0 Z4 rfl (vX l) a.2.1 a.2.2 (iZ (cS [fM (aZ bs) (c:Int)] 1 Y0 Z0 1 Y0 Z0 rfl a.1)))⟩⟩
theorem DU(h:cR bs R Rw){c:Nat}(hc:c<16){q:RowT}(hq:q.2=gI c):qi bs q=pW (aZ bs) (c:Int):=by
 refine kq (qZ h hc) λt1 t2 t3=>?_;refine kq (wX h) λc1 c2 c3=>?_;unfold qi wY;rw[(lS h hq).resolve_right (λhh=>wP hc hh),tz t1 t2 t3 c1 c2 c3,h.vf.due c hc];have le:=h.vf.le c hc;have w:=h.wl;have a:=kt h hc;have m0:=h.vf.m0;have mb:=h.vf.mb;have e1:((dc (aZ bs)).toNat:Int)=dc (aZ bs):=EQ (iV m0);have e2:((dn (aZ bs)).toNat:Int)=dn (aZ bs):=nA (cS [↑((dn (aZ bs)).toNat),dn (aZ bs)] 1 Z0 Z1 1 Z0 Z1 rfl (iZ (eQ [dn (aZ bs),dc (aZ bs)] 1 Y0 Z0 1 (.m 2 Z1) Z0 2 (.a Y0 Y1) Z1 rfl mb m0))) (cS [dn (aZ bs),↑((dn (aZ bs)).toNat)] 1 Z0 Z1 1 Z0 Z1 rfl tq);have e3:((fM (aZ bs) (c:Int)).toNat:Int)=fM (aZ bs) (c:Int):=EQ a.left;refine decide_eq_decide.mpr ?_;rw[← dk,dC,dC,e1,e2,e3,jw,dC,w.1];have e4:((5:Nat):Int)*((th (c:Int)).length:Int)+gu (aZ bs)=gu (aZ bs)+5*((th (c:Int)).length:Int):=gf ..;rw[e4];omega
theorem um(h:cR bs R Rw)(h4:3<(bw bs).length)(hq:q.2=(bw bs).reverse):qi bs q=false∧AK bs q=1:=by
 have t:AK bs q=1:=by
  unfold AK;rw[hq,if_neg (Hk h4)]
 refine⟨?_,t⟩;refine kq (wX h) λc1 c2 c3=>?_;have w:=h.wl
 have e:lr bs q=nJ 1 ((bw bs).length+(bw bs).length):=by
  unfold lr;rw[t,hq,bg,← rp]
  congr 1
 unfold qi wY;rw[e,tz (C9 (Gr w.right.left (eE (bw bs)))) (rZ (Nat.add_le_add w.right.right w.right.right) (bR true)) (nV (cS [↑((bw bs).length)] 1 (.m 2 Y1) (.a Z0 Z0) 2 (.a (.k 3) Y1) Z0 rfl (d9 h4))) c1 c2 c3];refine decide_eq_false λu=>?_;have f:=h.vf.few.resolve_left (λhh=>(qz (g5 [gu (aZ bs),↑((bw bs).length)] 1 Y0 (.k (-1)) 1 (.a Z0 Y1) (.k 4) 1 Z1 Z0 1 (.a (.k 3) Y1) Z1 rfl hh (gV w.1) (d9 h4))));have m0:=h.vf.m0;have mb:=h.vf.mb;have e1:((dc (aZ bs)).toNat:Int)=dc (aZ bs):=EQ (iV m0);have e2:((dn (aZ bs)).toNat:Int)=dn (aZ bs):=nA (cS [↑((dn (aZ bs)).toNat),dn (aZ bs)] 1 Z0 Z1 1 Z0 Z1 rfl (iZ (eQ [dn (aZ bs),dc (aZ bs)] 1 Y0 Z0 1 (.m 2 Z1) Z0 2 (.a Y0 Y1) Z1 rfl mb m0))) (cS [dn (aZ bs),↑((dn (aZ bs)).toNat)] 1 Z0 Z1 1 Z0 Z1 rfl tq);rw[← dk,dC,dC,e1,e2,jw,w.1] at u;rw[Int.mul_comm (2*gu (aZ bs)),← AB,Int.mul_comm _ 2,AB] at f;rw[Gv] at u;lia
theorem Je(h:cR bs R Rw)(hq:q∈R):(∃c,c<16∧q=Rw.getD c (0,[])∧q.2=gI c)∨(3<(bw bs).length∧q.2=(bw bs).reverse):=by
 have g:q∈Rw→∃c,c<16∧q=Rw.getD c (0,[])∧q.2=gI c:=λhq=>by
  refine fK (h.idx hq) λc hc e=>?_;exact(cZ c hc e (by rw[e];exact(h.get hc).1))
 rcases h.hR with e|⟨h3,a,e⟩
 .rw[e] at hq;exact .inl (g hq)
 .rw[e] at hq
  rcases aC.mp hq with hq|hq
  .exact .inl (g hq)
  .rw[aA.mp hq];exact .inr ⟨h3,rfl⟩
theorem Dt(h:cR bs R Rw)(hq:q∈R)(ht:pM q.2 (bw bs) 0 q.2.length 0 (bw bs).length t):t=AK bs q:=by
 rcases Je h hq with ⟨c,hc,_,e⟩|⟨h3,e⟩
 .unfold AK
  rw[e] at ht ⊢;rw[if_pos (kU c)];exact zk (kU c) iX ht
 .rw[(um h h3 e).2]
  rw[e] at ht;exact Hc iX (aN (gE 2) (aL h3)) ht
theorem J0(h:cR bs R Rw):Rw=(aU 16).map λc=>Rw.getD c (0,[]):=by
 refine ou (by rw[aE,db,h.len]) λi h1 h2=>?_;rw[cG,mE,az,ao h1];rfl
theorem Bc(h:cR bs R Rw):R.filter (qi bs)=dR (aZ bs) Rw:=by
 have u:Rw.filter (qi bs)=dR (aZ bs) Rw:=by
  unfold dR;have e:Rw.filter (qi bs)=((aU 16).map λc=>Rw.getD c (0,[])).filter (qi bs):=congrArg (eP (qi bs)) (J0 h);rw[e,wA];refine congrArg _ (nG λc hc=>?_);exact DU h (bD.mp hc) (h.get (bD.mp hc)).1
 rcases h.hR with e|⟨h3,a,e⟩
 .rw[e];exact u
 .rw[e,cH,u,fC,if_neg (by rw[(um h h3 (q:=(a,(bw bs).reverse)) rfl).1];decide)]
  exact im _
theorem FD(vs:List Int):(dR vs Rw).length≤16:=by
 unfold dR;rw[aE];exact bU ..
end
section
variable {bs:List Int}{R Rw:List RowT}
theorem Rn{a b:Nat} : (if (a:Int)<(b:Int) then (a:Int) else (b:Int))=((if a<b then a else b:Nat):Int):=by
 by_cases h:a<b
 .rw[if_pos h,if_pos (gG.mpr h)]
 .rw[if_neg h,if_neg λg=>h (gG.mp g)]
theorem Rs{a b:Nat} : 2*(if a<b then a else b)≤b+a:=by
 by_cases h:a<b
 .rw[if_pos h,Nat.two_mul]
  exact eZ (aL h) a
 .rw[if_neg h,Nat.two_mul]
  exact bq (cJ h) b
theorem Sd{a b c:Nat}(h1:c≤a)(h2:c≤b):c≤if a<b then a else b:=by
 by_cases h:a<b
 .rw[if_pos h]
  exact h1
 .rw[if_neg h]
  exact h2
theorem KA(h:cR bs R Rw)(hq:q∈R)(hp:H1 (km (AK bs q) ((q.2.length:Int)+((bw bs).length:Int))) (wY (aZ bs))=true):
  H1 (km ((q.2.filter (·∈bw bs)).length:Int) ((q.2.length:Int)+((bw bs).length:Int))) (wY (aZ bs))=true∧H1 (km (if ((bw bs).length:Int)<(q.2.length:Int) then ((bw bs).length:Int) else (q.2.length:Int)) ((q.2.length:Int)+((bw bs).length:Int))) (wY (aZ bs))=true:=by
 rcases Je h hq with ⟨c,hc,_,e⟩|⟨h3,e⟩
 .have t:AK bs q=((q.2.filter λx=>decide (x∈bw bs)).length:Nat):=by
   unfold AK;rw[e,if_pos (kU c)]
  refine⟨by rw[t] at hp;exact hp,?_⟩;refine kq (qZ h hc) λt1 t2 t3=>?_;refine kq (wX h) λc1 c2 c3=>?_;have hs:=lS h e;have u:H1 (lr bs q) (wY (aZ bs))=true:=hp;rw[hs.resolve_right (λhh=>wP hc hh)] at u;unfold wY at u ⊢;rw[tz t1 t2 t3 c1 c2 c3] at u;have u:=of_decide_eq_true u;have a:=kt h hc;have l:=te c hc
  have el:q.2.length=5*(th (c:Int)).length:=by rw[e,l]
  have B:((q.2.length:Int)+((bw bs).length:Int))=((5*(th (c:Int)).length+(bw bs).length:Nat):Int):=nA (cS [q.snd.length,↑((bw bs).length),↑((th (c:Int)).length)] 1 (.a Z0 Z1) (.a (.m 5 Z2) Z1) 1 Z0 (.m 5 Z2) rfl (vX el)) (cS [↑((th (c:Int)).length),↑((bw bs).length),q.snd.length] 1 (.a (.m 5 Z0) Z1) (.a Z2 Z1) 1 (.m 5 Z0) Z2 rfl (l9 el));have z:(if ((bw bs).length:Int)<(q.2.length:Int) then ((bw bs).length:Int) else (q.2.length:Int))=((if (bw bs).length<q.2.length then (bw bs).length else q.2.length:Nat):Int):=Rn;rw[B,z,rp,tz t1 t2 (el▸Rs) c1 c2 c3];refine decide_eq_true (aw u (lg _ (Sd (C4.mpr a.2.2) (C4.mpr (by rw[e];exact a.2.1)))))
 .have:=(um h h3 e).1
  unfold qi lr at this;rw[this] at hp;cases hp
theorem ma(h:cR bs R Rw)(hq:q∈dR (aZ bs) Rw):∃c,c<16∧q=Rw.getD c (0,[])∧q.2=gI c∧pW (aZ bs) (c:Int)=true:=by
 unfold dR at hq;refine fK (eg.mp hq) λc hc e=>?_;subst e;refine b7 (bY.mp hc) λh1 h2=>?_;exact(OJ c (bD.mp h1) rfl ((h.get (bD.mp h1)).1) h2)
theorem xM(h:cR bs R Rw)(hq:q∈dR (aZ bs) Rw)(J:O∈dR (aZ bs) Rw):lr bs q=lr bs O:=by
 refine sI (ma h hq) λc hc _ e d=>?_;refine sI (ma h J) λc' u _ e' H=>?_;rw[(lS h e).resolve_right (λhh=>wP hc hh),(lS h e').resolve_right (λhh=>wP u hh)];refine kq (qZ h hc) λt1 t2 t3=>?_;refine kq (qZ h u) λu1 u2 u3=>?_;refine(pn t1 t2 t3 u1 u2 u3).2 ?_;rw[h.vf.due c hc] at d;rw[h.vf.due c' u] at H;have d:=of_decide_eq_true d;have H:=of_decide_eq_true H;have w:=h.wl;have a:=kt h hc;have a':=kt h u;have m0:=h.vf.m0;have mb:=h.vf.mb;generalize (th (c:Int)).length=k at *;generalize (th (c':Int)).length=G at *;generalize fM (aZ bs) (c:Int)=x at *;generalize fM (aZ bs) (c':Int)=z at *;generalize dc (aZ bs)=M at *;generalize dn (aZ bs)=B at *;generalize gu (aZ bs)=n at *
 have g:x*(n+5*(G:Int))=z*(n+5*(k:Int)):=by
  refine Int.eq_of_mul_eq_mul_right (a:=B) (λhh=>(qz (g5 [B,M] 2 Y0 (.k (-1)) 1 Z0 Y0 1 (.m 2 Z1) Z0 2 (.a Y0 Y1) Z1 rfl (gV hh) mb m0))) ?_;rw[ij,← d,ij z,← H,ij]
 have e1:((x.toNat:Nat):Int)=x:=EQ a.left;have e2:((z.toNat:Nat):Int)=z:=EQ a'.left;refine Int.ofNat.inj ?_;refine(?_:((x.toNat*(5*G+(bw bs).length):Nat):Int)=((z.toNat*(5*k+(bw bs).length):Nat):Int));rw[dC,dC,e1,e2,jw,jw,dC,dC,w.1];have Y:((5:Nat):Int)*(G:Int)+n=n+5*(G:Int):=gf ..;have U:((5:Nat):Int)*(k:Int)+n=n+5*(k:Int):=gf ..;rw[Y,U,g]
theorem rd(h:cR bs R Rw)(hc:c<16)(e:q.2=gI c):cV (lr bs q) (lr bs q)=some dh:=by
 rw[(lS h e).resolve_right (λhh=>wP hc hh)];refine kq (qZ h hc) λt1 t2 t3=>?_;exact DN t1 t2 t3
theorem Pk(h:cR bs R Rw):(Rw.map (·.1)).Nodup:=by
 have:=h.nd
 rcases h.hR with e|⟨_,a,e⟩
 .rw[e] at this;exact this
 .rw[e,aX] at this
  exact this.sublist (List.sublist_append_left ..)
theorem Mb(h:cR bs R Rw)(hc:c<16)(u:c'<16)(e:(Rw.getD c (0,[])).1=(Rw.getD c' (0,[])).1):c=c':=by
 have hl:=h.len;rw[az,az,ao (pV hl hc),ao (pV hl u)] at e;have nd:=ce.mp (Pk h)
 rcases jY c c' with g|g|g
 .refine absurd ?_ (nd c c' (by simp;exact pV hl hc) (by simp;exact pV hl u) g)
  rw[cG,cG];exact e
 .exact g
 .refine absurd ?_ (nd c' c (by simp;exact pV hl u) (by simp;exact pV hl hc) g)
  rw[cG,cG];exact e.symm
theorem Fz(h:cR bs R Rw):((dR (aZ bs) Rw).map (·.1)).Nodup:=by
 unfold dR;rw[iQ];refine jL.mpr ?_;have nd:((aU 16).filter (λc:Nat=>pW (aZ bs) (c:Int))).Nodup:=JG.filter _;refine nd.imp_of_mem λ{a b} ha hb hne e=>hne ?_;exact Mb h (bD.mp (bY.mp ha).1) (bD.mp (bY.mp hb).1) e
theorem uT(h:cR bs R Rw)(hq:q∈dR (aZ bs) Rw)(u:G∈dR (aZ bs) Rw)(hne:q.1≠G.1):q.2≠G.2:=by
 refine sI (ma h hq) λc hc e0 e _=>?_;refine sI (ma h u) λc' z B H _=>?_;intro g;rw[e,H] at g;have:=Hi c hc c' z g;subst this;exact hne (by rw[e0,B])
structure ki(vs:List Int)(Rw NR:List RowT):Prop where
 perm:NR.Perm (dR vs Rw)
 desc:NR.Pairwise (λa b=>ls b.2 a.2=true)
theorem EJ(a b:List Int)(h:ls a b=true):¬ls b a=true:=by
 intro h2;have:=pu h h2;rw[qA] at this;cases this
theorem ki.eq(h:ki vs Rw A)(g:ki vs Rw B):A=B:=
 Aa (r:=λa b:RowT=>ls b.2 a.2=true) (λx y h1 h2=>EJ _ _ h1 h2) h.desc g.desc λx=>by rw[h.perm.mem_iff,g.perm.mem_iff]
theorem Hw(h:cR bs R Rw)(ho:outs.map (·.2)=dR (aZ bs) Rw)(hr:wt (lr bs) outs outs2):ki (aZ bs) Rw (outs2.map (·.2)):=by
 have hm:∀o∈outs,o.2∈dR (aZ bs) Rw:=λo h1=>by rw[← ho];exact fX h1
 refine b7 hr λp f=>?_
 try clear hr
 refine⟨by rw[← ho];exact p.map _,?_⟩;refine jL.mpr (f (λo h1 o' h2=>xM h (hm o h1) (hm o' h2)) (λo h1=>?_) ?_ (λo h1 o' h2 hne=>uT h (hm o h1) (hm o' h2) hne))
 .refine sI (ma h (hm o h1)) λc hc _ e _=>?_
  exact rd h hc e
 .have:=Fz h
  rw[← ho,iQ] at this;exact this
end
end
section
open W PyProof.Rows
end
section
open W PyProof Rows Mine
theorem R6{p:Prop}[Decidable p]{a b k:Nat}(ha:a<k)(hb:b<k):(if p then (a:Int) else (b:Int)).natAbs<k:=by
 split
 .exact ha
 .exact hb
theorem J2{τ:Nat→Tok}{d:Nat→Value}{N:Ns}{S D la lb:Addr}{n ea eb:Nat}{va vb:List Value}(h3:3≤n)(h1:d 1=.ref la)(h2:d 2=.ref lb)(z:(la,listOf va.toArray ea)∈N)(e:(lb,listOf vb.toArray eb)∈N)(ha:va.length≤1000)(hb:vb.length≤1000)(h0:0<vb.length):
  fg W0 275 [.ref S] (SL W0 S D τ d n N) 2 6 (Mi (nL (if (vb.length:Int)<(va.length:Int) then (vb.length:Int) else (va.length:Int)) ((va.length:Int)+(vb.length:Int))) (SL W0 S D τ d n N)):=
 lf (body:=mB 12) (scope:=mS 12) (binds:=[("self",.ref S)]) (by with_unfolding_all rfl) (by with_unfolding_all rfl) (λs X=>dB rfl) (ss rfl) rfl rfl rfl (by decide) λc hd hu=>by
  refine g6 (sh (ku cO (gK nt 1 (am rfl) (zH) (zT (zH)) h1 rfl (ly h3)) (bk 2 z) ha) (ku cO (gK nt 2 (am rfl) (zH) (zT (zH)) h2 rfl (ly h3)) (bk 2 e) hb) λt1 t2=>?_);exact mU (wk (λt u=>Bp (R6 (aK hb (by decide)) (aK ha (by decide))) (eQ [va.length,vb.length] 1 (.a Y0 Y1) (.a Z0 Z1) 1 (.a Y0 Y1) Z1 1 Y0 Z0 rfl (d9 h0) j0) (eQ [va.length,vb.length] 1 (.a (.a Z0 Z1) Y1) (.k (2 ^ 20)) 1 Z1 (.k 1000) 1 Z0 (.k 1000) rfl (d9 hb) (d9 ha))) fT (Fe cO (ai rfl) (ai rfl)) (ec (ai rfl) (ai rfl)) (by with_unfolding_all rfl) (dl hd) (dl hu) rfl) λv n' h=>h
section
variable {τ:Nat→Tok}{d:Nat→Value}{N:Ns}{S D la lb fb:Addr}{ea eb:Nat}{va vb:List Value}{xs ys:List Int}{oF:Obj}{kvF:List (Int×Value)}
inductive SD(x:UInt64)(n:Ns)(f:ve)(m:Lo)(n':Ns):Prop
 | mk (t:Tok) (hf:f=.ret (.float x t)) (hn:n'=n)
theorem AR{c:Fm W0 (mS 11)}{m:Lo}(hd:c.dp+2<aH)(hu:c.un+6<cT)(hs:m "self"=some (.ref S))(h1:d 1=.ref la)(h2:d 2=.ref lb)(h6:d 6=.ref fb)(G:(la,listOf va.toArray ea)∈N)(aj:(lb,listOf vb.toArray eb)∈N)(B:au va xs)(z:au vb ys)(e:xs.length≤32)(U:ys.length≤32)(aa:xs.Nodup)(Y:0<ys.length)(hF:(fb,oF)∈N)(ap:nY W0 oF kvF)(hB:FB ys kvF)(J:(fb==cN)=false):
  cK c m (SL W0 S D τ d 10 N) ((mB 11).drop 2) (SD (nL ((xs.filter (·∈ys)).length:Int) ((xs.length:Int)+(ys.length:Int))) (SL W0 S D τ d 10 N)):=by
 refine(?_:cK c _ _ (.Assign [.Name "fullbcount" _] (.Attribute (.Name "self" _) "fullbcount" _) _::.Assign [.Name "avail" _] (.Dict [] [] _) _::.Assign [.Tuple _ _ _] (.Tuple [.Attribute (.Name "avail" _) "__contains__" _,.Constant (.int 0) _ _] _ _) _::oL 11 5::.Return (some (.Call (.Name "_calculate_ratio" _) [.Name "matches" _,.BinOp (.Call (.Name "len" _) [.Attribute (.Name "self" _) "a" _] [] _) .Add (.Call (.Name "len" _) [.Attribute (.Name "self" _) "b" _] [] _) _] [] _)) _::[]) _);have ar:((xs.filter (·∈ys))).length≤32:=aw (bU _ _) e;refine tB (gK nt 6 (am hs) (zH) (zT (zH)) h6 rfl) ?_;refine dG oS ?_;rintro v n1 ⟨av,oA,rfl,rfl,hA,O,lA⟩;refine Ca (Ip (am cW) (zH) hA) (λ_ _ _=>bf) ?_;rintro v n2 t2 ⟨q,lq⟩
 have hK:QK (ci (ci (ci (ci m "fullbcount" (.ref fb)) "avail" (.ref av)) "matches" (.int 0 t2)) "availhas" (.ref q)) S q av fb:=⟨bc (bc (bc (bc hs))),cW,bc (bc cW),bc (bc (bc cW))⟩
 have ab:ci (ci (ci (ci m "fullbcount" (.ref fb)) "avail" (.ref av)) "matches" (.int 0 t2)) "availhas" (.ref q) "matches"=some (.int 0 t2):=bc cW;have off:∀p∈(q,cf "dict.__contains__" (.ref av))::SL W0 S D τ d 10 N,p.1≠av:=FC (aF (lq (av,oA) (zH))) λp hp=>aB (lA p hp);refine cL (n':=(av,oA)::(q,cf "dict.__contains__" (.ref av))::SL W0 S D τ d 10 N) ?_ (iz [1,0] 2 rfl);refine Hm (N0:=(q,cf "dict.__contains__" (.ref av))::SL W0 S D τ d 10 N) (gK nt 1 (am hK.s) (a8 2 rfl) (a8 3 rfl) h1 rfl) (bk 3 G) B aa e hK ab rfl hA O off (zH) (bk 3 hF) ap hB J ?_;intro m' o' t H ah;have za:va.length≤32:=B.length▸e;have zb:vb.length≤32:=z.length▸U;have z0:0<vb.length:=z.length▸Y;refine cL (n':=SL W0 S D τ d 10 N) (mU (wk (λt u=>Bp (a:=((xs.filter (·∈ys)).length:Int)) (b:=(va.length:Int)+(vb.length:Int)) (uw (Si ar) (bR true)) (eQ [va.length,vb.length] 1 (.a Y0 Y1) (.a Z0 Z1) 1 (.a Y0 Y1) Z1 1 Y0 Z0 rfl (d9 z0) j0) (eQ [va.length,vb.length] 1 (.a (.a Z0 Z1) Y1) (.k (2 ^ 20)) 1 Z1 (.k 32) 1 Z0 (.k 32) rfl (d9 zb) (d9 za))) fT (ai ah) (ec (ku cO (gK nt 1 (am H.s) (zH) (zT (zH)) h1 rfl) (bk 2 G) (aw za (by decide))) (ku cO (gK nt 2 (am H.s) (zH) (zT (zH)) h2 rfl) (bk 2 aj) (aw zb (by decide)))) (by with_unfolding_all rfl) (dl hd) (dl hu) rfl) ?_) (λp hp=>bk 2 hp);rintro v n3 ⟨t3⟩;rw[B.length,z.length];exact⟨t3,rfl,rfl⟩
inductive SF(W0:World)(S D:Addr)(τ:Nat→Tok)(d:Nat→Value)(N:Ns)(x:UInt64)(ys:List Int)(v:Value)(n':Ns):Prop
 | mk (t:Tok) (fb:Addr) (oF:Obj) (kvF:List (Int×Value)) (hv:v=.float x t) (e1:nY W0 oF kvF) (e2:FB ys kvF) (e3:(fb==cN)=false) (e4:d 6=.ref fb∨∀x∈SL W0 S D τ d 10 N,@aP Nat _ x.1 fb) (sub:∀p∈SL W0 S D τ (di d 6 (.ref fb)) 10 ((fb,oF)::N),p∈n')
theorem Ny(d1:@Ne Nat S D)(dN:∀p∈N,p.1≠D)(h1:d 1=.ref la)(h2:d 2=.ref lb)(h6:d 6=.none∨∃fb oF kvF,d 6=.ref fb∧(fb,oF)∈N∧nY W0 oF kvF∧FB ys kvF∧(fb==cN)=false)(aa:(la,listOf va.toArray ea)∈N)(G:(lb,listOf vb.toArray eb)∈N)(ah:au va xs)(H:au vb ys)(U:xs.length≤32)(B:ys.length≤32)(Y:xs.Nodup)(ar:ys.Nodup)(O:0<ys.length):
  fg W0 268 [.ref S] (SL W0 S D τ d 10 N) 3 9 (SF W0 S D τ d N (nL ((xs.filter (·∈ys)).length:Int) ((xs.length:Int)+(ys.length:Int))) ys):=
 lf (body:=mB 11) (scope:=mS 11) (binds:=[("self",.ref S)]) (by with_unfolding_all rfl) (by with_unfolding_all rfl) (λs X=>dB rfl) (ss rfl) rfl rfl rfl (by decide) λc hd hu=>by
  refine(?_:cK c _ _ (.Expr (.Constant (.str _) _ _) _::.If (.Compare (.Attribute (.Name "self" _) "fullbcount" _) [.Is] [.Constant .none _ _] _) (.Assign [.Attribute (.Name "self" _) "fullbcount" _,.Name "fullbcount" _] (.Dict [] [] _) _::Qb::[]) [] _::(mB 11).drop 2) _);refine g6 ?_;have hs:(λy=>([("self",.ref S)]:List (Str×Value)).reverse.lookup y) "self"=some (.ref S):=rfl;revert hs;generalize (λy=>([("self",.ref S)]:List (Str×Value)).reverse.lookup y)=m;intro hs
  rcases h6 with h6|⟨fb,oF,kvF,h6,hF,z,hB,u⟩
  .refine dz (zi (gK nt 6 (am hs) (zH) (zT (zH)) h6 rfl) gN) (λ_=>?_) (λh=>bH h)
   refine tE nt 6 d1 oS (λ_=>am hs) ?_;rintro v n1 ⟨fb,oF,rfl,rfl,z,u,J⟩;have nf:@Ne Nat fb D:=aF (J _ (zT (zH)));refine⟨(fb,oF)::N,Jh,FC nf dN,λas e=>?_⟩;cases e (by decide);refine cL (n':=(fb,oF)::SL W0 S D τ (di d 6 (.ref fb)) 10 N) ?_ PA;refine Hn (N0:=SL W0 S D τ (di d 6 (.ref fb)) 10 N) (gK nt 2 (am (bc hs)) (a8 1 rfl) (a8 2 rfl) h2 rfl) (bk 2 G) H ar B (S:=S) (fb:=fb) (bc hs) cW rfl z u (λp hp=>aB ?_) ?_
   .exact FC (P:=λp=>@aP Nat _ p.1 fb) (J _ (zH)) (FC (J (D,_) (zT (zH))) λp hp=>J p (bk 2 hp)) p hp
   intro m' o' kvs ap ab aj;refine bQ (cL (kZ (AR (τ:=τ) (d:=di d 6 (.ref fb)) (N:=(fb,o')::N) (dl hd) (dl hu) ap h1 h2 rfl (zT aa) (zT G) ah H U B Y O (zH) ab aj u) ?_) Jh);rintro f m2 n2 ⟨t,rfl,rfl⟩;exact⟨t,fb,o',kvs,rfl,ab,aj,u,.inr J,λp hp=>hp⟩
  .refine dz (oz (t:=false) (gK nt 6 (am hs) (zH) (zT (zH)) h6 rfl) gN (.other rfl (λe=>nomatch e))) (λh=>bH h) λ_=>bQ (kZ (AR (dl hd) (dl hu) hs h1 h2 h6 aa G ah H U B Y O hF z hB u) ?_)
   rintro f m2 n2 ⟨t,rfl,rfl⟩
   have ed:di d 6 (.ref fb)=d:=funext λj=>((Jc (j=6)).elim (λe=>(if_pos e).trans (e▸h6.symm)) λe=>if_neg e:(if j=6 then bF fb else d j)=d j)
   exact⟨t,fb,oF,kvF,rfl,z,hB,u,.inl h6,by rw[ed];exact FC (zH) (FC (a8 1 rfl) (FC (bk 2 hF) λp hp=>bk 2 hp))⟩
end
end
section
open W PyProof.Rows
theorem kw_CM_0:True:=by
 k_with_none
 k_with "zgetMethod type:tuple"=>(k_here;k_dflt (refine' AM ?F ?X ?g ?s ?e ?_;(case F=>k_asm);(case X=>k_asm);(case g=>k_is);(case s=>k_is);(case e=>k_is);k_whole))
 k_with "zcall builtin:tuple.__new__"=>(k_here;k_dflt (refine' AN ?F ?N ?X ?t ?hC ?e4 ?e3 ?e5 ?k6 ?e6 ?z ?ty ?i ?_;(case F=>k_asm);(case N=>k_asm);(case X=>k_asm);(case t=>exact News.isTup (by k_asm) (by k_mem));(case hC=>exact rfl);(case e4=>exact rfl);(case e3=>exact rfl);(case e5=>exact rfl);(case k6=>k_is);(case e6=>exact rfl);(case z=>rw[eK];exact dw rfl);(case ty=>exact x8 (by k_asm) (by k_asm) rfl);(case i=>k_is);k_whole);intro z9hp z9rp z9dxp z9Fp z9Np z9l1)
 trivial
theorem Iz{t2:Tok}{t3:Tok}
  (B:qU A₀ base outer h₀) (F:Fr h₀ L s.heap m) (X:(hd.heap_1 W0.params).In h₀) (N:ba h₀ L s.heap news) (T:Top gp gl mean mg mb h₀) (hk:cs.kind=.function)
  (hd1:dp+6<aH) (hu:un+60<cT)
  (hret:∀(r dx:Addr) (h':Heap) (tk':Nat),Fr h₀ L h' m→ba h₀ L h' ((r,dT dx x y z t1 t2 t3)::news)→(∀p∈news,p.1<r)→Q (.ref r) {s with heap:=h',toks:=tk'}):
  ay (aq cF.row.prog W0) (ic dp un gd cn cs L a ccd cl outer) (call (.ref 171) [.int x t1,.int y t2,.int z t3]) Q E s:=by
 revert X
 k_fill
 intro X;obtain ⟨hp,g,d,t,os⟩:=s;refine' ev (EG (K:=hd.heap_1 W0.params) (C:=171) (p:=172) (fv:=.ref 118) F X rfl rfl rfl ?e7 ?e8 ?k1 ?k2 ?k3 ?k4 ?k5 ?k6 ?k7 ?ha ?hr ?hi ?hq)
 case e7=>k_is
 case e8=>k_is
 case k1=>k_is
 case k2=>k_is
 case k3=>k_is
 case k4=>k_is
 case k5=>decide +kernel
 case k6=>k_is
 case k7=>k_is
 case ha=>intro a;unfold gX;kernel_rfl
 case hr=>exact List.cons_ne_nil _ _
 case hi=>k_is
 refine ev ?_
 k_dflt ktr_enter
 k_steps
 ·(rename ba _ _ _ _=>NZ);exact(kE (NZ _ (zH)).1).andThen .now
 .rename Fr _ _ _ _=>FZ
  rename ba _ _ _ _=>NZ;refine hret _ _ _ _ FZ (cm NZ (zC ⟨zH,λp hp=>zT (zT hp)⟩)) (λp hp=>?_);refine' zO ?h (zT hp)
  case h=>assumption
end
section
open W PyProof Rows
section
variable {c:Fm W0 (mS 6)}{m:Lo}{n:Ns}{R:Re}{xs ys:List Int}{va vb:List Value}{ep1 ep2:Nat}{la lb lj lk q nl:Addr}{led:Bool}{alo ahi blo bhi:Int}{u1 u2 u3 u4:Tok}{rest:List Stmt}{N:Ns}
inductive MX(c:Fm W0 (mS 6))(xs ys:List Int)(la lb lj q nl:Addr)(alo ahi blo bhi:Int)(u1 u2 u3 u4:Tok)(N:Ns)(ms:Int→Int→Nat)(k:Nat)(m:Lo)(n:Ns):Prop
 | mk (bi bj bs:Int) (t1 t2 t3:Tok) (z0:IQ m la lb lj q nl alo ahi blo bhi u1 u2 u3 u4) (z1:Mj m bi bj bs t1 t2 t3) (z2:BI xs ys alo blo bhi (ahi-alo).toNat bi bj bs) (z3:n=N) (z4:k=ms bi bs)
inductive SM(xs ys:List Int)(alo ahi blo bhi:Int)(H:Ns)(f:ve)(n':Ns):Prop
 | mk (bi bj bs:Int) (w1 w2 w3:Tok) (r dx:Addr) (hf:f=.ret (.ref r)) (hb:BI xs ys alo blo bhi (ahi-alo).toNat bi bj bs) (hn:n'=(r,dT dx bi bj bs w1 w2 w3)::H) (hl:∀p∈H,p.1<r)
theorem RB{a b c:Bool}(h:(a&&(b&&(!false&&(c&&true))))=true):a=true∧b=true∧c=true:=by
 cases a<;>cases b<;>cases c<;>first|exact bH h|exact⟨rfl,rfl,rfl⟩
theorem RC:∀{a b:Bool},¬(a&&(b&&false))=true:=by decide
theorem PF{al ah b k:Int}{n:Nat}(u:0≤al)(e:ah≤n)(hl:n≤32)(hb:b+k≤ah)(h0:0≤k)(h:decide (al<b)=true):0≤b-1∧b-1<n∧b-1<2 ^ 63∧(b-1).toNat<n∧(b-1).toNat<b.toNat:=by
 have:=of_decide_eq_true h;omega
theorem PD{al ah b k:Int}{n:Nat}(u:0≤al)(e:ah≤n)(hl:n≤32)(hb:al≤b)(h0:0≤k)(h:decide (b+k<ah)=true):0≤b+k∧b+k<n∧b+k<2 ^ 63∧(b+k).toNat<n∧(ah-b-(k+1)).toNat<(ah-b-k).toNat:=by
 have:=of_decide_eq_true h;omega
theorem Lp(aa:(la,listOf va.toArray ep1)∈N)(ab:au va xs)(z:(lb,listOf vb.toArray ep2)∈N)(G:au vb ys)(hq:(q,cf "set.__contains__" (.ref lk))∈N)(O:(lk,dt led)∈N)(J:xs.length≤32)(H:ys.length≤32)(q1:0≤alo)(Y:alo≤ahi)(q3:ahi≤xs.length)(q4:0≤blo)(q5:blo≤bhi)(q6:bhi≤ys.length)
  (hJ:MX c xs ys la lb lj q nl alo ahi blo bhi u1 u2 u3 u4 N ms k m n) (U:∀m k,MX c xs ys la lb lj q nl alo ahi blo bhi u1 u2 u3 u4 N (λ_ _=>0) k m N→cK c m N rest R):cK c m n (oL 6 8::oL 6 9::oL 6 10::oL 6 11::rest) R:=by
 obtain ⟨bi,bj,bs,t1,t2,t3,hK,hB,u,rfl,rfl⟩:=hJ;refine jC (MX c xs ys la lb lj q nl alo ahi blo bhi u1 u2 u3 u4 n λbi _=>bi.toNat) ⟨bi,bj,bs,t1,t2,t3,hK,hB,u,rfl,rfl⟩ ?_;clear hK hB u;rintro k m n1 ⟨bi,bj,bs,t1,t2,t3,hK,hB,u,rfl,rfl⟩;have e:=pL u Y q5;have A h:=PF q1 q3 J e.2.1 e.2.2.2.2 h;have B h:=PF q4 q6 H e.2.2.2.1 e.2.2.2.2 h;refine(cZ _ (fS (eD qk (ai hB.i) (ai hK.al)) λh1=>fS (eD qk (ai hB.j) (ai hK.bl)) λh2=>fS (qt (nr (ry (am hK.q) (fk (am hK.b) (jl (ai hB.j) bf) z G (B h2).1 (B h2).2.1 (B h2).2.2.1) hq O))) λ_=>fS (eD wp (fk (am hK.a) (jl (ai hB.i) bf) aa ab (A h1).1 (A h1).2.1 (A h1).2.2.1) (fk (am hK.b) (jl (ai hB.j) bf) z G (B h2).1 (B h2).2.1 (B h2).2.2.1)) λ_=>iU) (λhb=>?_) (λhb=>?_))
 .refine kq (RB hb) λh1 h2 h3=>?_
  clear hb;refine pE (jl (ai hB.i) bf) (jl (ai hB.j) bf) (ec (ai hB.s) bf) λt4 t5 t6=>?_;exact b9 (c9 ((bi-1).toNat) (A h1).2.2.2.2 ⟨bi-1,bj-1,bs+1,t4,t5,t6,((hK.up (by decide)).up (by decide)).up (by decide),⟨cW,bc cW,bc (bc cW)⟩,IG u (of_decide_eq_true h1) (of_decide_eq_true h2) (A h1).2.2.2.1 (B h2).2.2.2.1 (of_decide_eq_true h3),rfl,rfl⟩)
 clear hb e;refine jC (MX c xs ys la lb lj q nl alo ahi blo bhi u1 u2 u3 u4 n1 λbi bs=>(ahi-bi-bs).toNat) ⟨bi,bj,bs,t1,t2,t3,hK,hB,u,rfl,rfl⟩ ?_;clear hK hB u;rintro k m n1 ⟨bi,bj,bs,t1,t2,t3,hK,hB,u,rfl,rfl⟩;have e:=pL u Y q5;have A h:=PD q1 q3 J e.1 e.2.2.2.2 h;have B h:=PD q4 q6 H e.2.2.1 e.2.2.2.2 h;refine(cZ _ (fS (eD lc (ec (ai hB.i) (ai hB.s)) (ai hK.ah)) λh1=>fS (eD lc (ec (ai hB.j) (ai hB.s)) (ai hK.bh)) λh2=>fS (qt (nr (ry (am hK.q) (fk (am hK.b) (ec (ai hB.j) (ai hB.s)) z G (B h2).1 (B h2).2.1 (B h2).2.2.1) hq O))) λ_=>fS (eD wp (fk (am hK.a) (ec (ai hB.i) (ai hB.s)) aa ab (A h1).1 (A h1).2.1 (A h1).2.2.1) (fk (am hK.b) (ec (ai hB.j) (ai hB.s)) z G (B h2).1 (B h2).2.1 (B h2).2.2.1)) λ_=>iU) (λhb=>?_) (λhb=>?_))
 .refine kq (RB hb) λh1 h2 h3=>?_
  clear hb;refine yh hB.s bf λt4=>?_;exact b9 (c9 ((ahi-bi-(bs+1)).toNat) (A h1).2.2.2.2 ⟨bi,bj,bs+1,t1,t2,t4,hK.up (by decide),⟨bc hB.i,bc hB.j,cW⟩,Gc u Y (of_decide_eq_true h1) (of_decide_eq_true h2) (A h1).2.2.2.1 (B h2).2.2.2.1 (of_decide_eq_true h3),rfl,rfl⟩)
 clear hb e;refine jC (MX c xs ys la lb lj q nl alo ahi blo bhi u1 u2 u3 u4 n1 λ_ _=>0) ⟨bi,bj,bs,t1,t2,t3,hK,hB,u,rfl,rfl⟩ ?_;clear hK hB u;rintro k m n1 ⟨bi,bj,bs,t1,t2,t3,hK,hB,u,rfl,rfl⟩;have e:=pL u Y q5;have A h:=PF q1 q3 J e.2.1 e.2.2.2.2 h;have B h:=PF q4 q6 H e.2.2.2.1 e.2.2.2.2 h;refine(cZ _ (fS (eD qk (ai hB.i) (ai hK.al)) λh1=>fS (eD qk (ai hB.j) (ai hK.bl)) λh2=>fS (d:=false) (nr (ry (am hK.q) (fk (am hK.b) (jl (ai hB.j) bf) z G (B h2).1 (B h2).2.1 (B h2).2.2.1) hq O)) λh=>(bH h)) (λhb=>?_) (λhb=>?_))
 .exact(RC hb).elim
 clear hb e;refine jC (MX c xs ys la lb lj q nl alo ahi blo bhi u1 u2 u3 u4 n1 λ_ _=>0) ⟨bi,bj,bs,t1,t2,t3,hK,hB,u,rfl,rfl⟩ ?_;clear hK hB u;rintro k m n1 ⟨bi,bj,bs,t1,t2,t3,hK,hB,u,rfl,rfl⟩;have e:=pL u Y q5;have A h:=PD q1 q3 J e.1 e.2.2.2.2 h;have B h:=PD q4 q6 H e.2.2.1 e.2.2.2.2 h;refine(cZ _ (fS (eD lc (ec (ai hB.i) (ai hB.s)) (ai hK.ah)) λh1=>fS (eD lc (ec (ai hB.j) (ai hB.s)) (ai hK.bh)) λh2=>fS (d:=false) (nr (ry (am hK.q) (fk (am hK.b) (ec (ai hB.j) (ai hB.s)) z G (B h2).1 (B h2).2.1 (B h2).2.2.1) hq O)) λh=>(bH h)) (λhb=>?_) (λhb=>?_))
 .exact(RC hb).elim
 exact U m _ ⟨bi,bj,bs,t1,t2,t3,hK,hB,u,rfl,rfl⟩
end
section
variable {cs:Scope}{c:Fm W0 cs}{sc:Scope}{k:Cx c sc}{m:Lo}{n:Ns}{R:Re}{rest:List Stmt}{d:Addr}
theorem Ik(he:Ev k m n e (.val (.ref d)))(hm:(d,dt led)∈n)
  (ha:autoParam (eval (.Attribute e "__contains__" pos) k.env=(do
   let o ← eval e k.env
   f8 pos.atName
   let r ← gm [o] (jJ o "__contains__" true)
   eU e o r
   ck r)) zAc):Er k m n (.Attribute e "__contains__" pos) (Me (cf "set.__contains__" (.ref d)) n):=
 ⟨λQ s hi hq=>oh (he.run _ s hi λv s1 u i1=>by
  cases u;obtain ⟨m0,ex,F,N,cl⟩:=qw k i1
  exact Jw F N (zR hm) λq h' B z l=>hq _ _ _ (.mk q λp hp=>l p (zR hp)) (cl h' (s1.toks+1) q _ B z)) ha⟩
theorem Ab{e1 e2 e3 e4:PE}{k kk:Nat}{e:List PE}{z u pos:Pos}{v1 v2 Y:Value}{U O J H:Str}{P:Value→Ns→Prop}(h1:Ev c.cx m n e1 (.val v1))(h2:Ev c.cx m n e2 (.val v2))(h3:Ev c.cx m n e3 (.val Y))(h4:Er c.cx m n e4 P)
  (h:∀v n',P v n'→cK c (ci (ci (ci (ci m U v1) O v2) J Y) H v) n' rest R)
  (hs:autoParam (lV [.Tuple e k z] (.Tuple [e1,e2,e3,e4] kk u) pos.line c.env=ck false) zAa)
  (hw:autoParam (fU [.Tuple e k z] (.Tuple [e1,e2,e3,e4] kk u) c.env=ck none) zAa)
  {p1 p2 p3 p4:Pos} (ab:autoParam ((da e c.env).map (·.2)=[de (.Name U p1) c.env,de (.Name O p2) c.env,de (.Name J p3) c.env,de (.Name H p4) c.env]) zAa) (hn:autoParam ((da e c.env).length=4) zAa) (aa:autoParam ((da e c.env).findIdx? (·.1)=none) zAa)
  (q1:autoParam (∀r,SE c.env e1 r) zAb) (q2:autoParam (∀r,SE c.env e2 r) zAb) (q3:autoParam (∀r,SE c.env e3 r) zAb) (q4:autoParam (∀r,SE c.env e4 r) zAb)
  (k1:autoParam (c.env.kindOf U=some .local) zAa) (k2:autoParam (c.env.kindOf O=some .local) zAa) (k3:autoParam (c.env.kindOf J=some .local) zAa) (k4:autoParam (c.env.kindOf H=some .local) zAa):
  cK c m n (.Assign [.Tuple e k z] (.Tuple [e1,e2,e3,e4] kk u) pos::rest) R:=
 bK ⟨λQ s hi hq=>I7 (vM (aI (h1.run _ s hi λu1 s1 d1 i1=>aI (h2.run _ s1 i1 λu2 s2 d2 i2=>aI (h3.run _ s2 i2 λu3 s3 d3 i3=>aI (h4.run _ s3 i3 λv n' s4 p4 G=>bJ (by
  cases d1;cases d2;cases d3;refine iC G.at.1 G.at.2 (λD h' F' N' hl=>?_) (by decide:(4:Nat)≤dY);have i5:=G.to (tk:=s4.toks) F' N';refine vL rfl (is_tup (vs:=[v1,v2,Y,v]) i5 (zH)) hn aa λh2 B=>?_;have i6:c.Is m n' {s4 with heap:=h2}:=G.to (tk:=s4.toks) (F'.extBut B (aR _)) (cm (N'.extBut B (aR _)) λp hp=>zT hp);rw[ab];refine be (assign_Name (dm i6 (λs5 i5=>?_) k1));refine be (assign_Name (dm i5 (λs6 i6=>?_) k2));refine be (assign_Name (dm i6 (λs7 i7=>?_) k3));refine be (assign_Name (dm i7 (λs8 i8=>?_) k4))
  exact fz (hq .next _ _ _ (h v n' p4) i8))) (q4 _)) (q3 _)) (q2 _)) (q1 _))) hs hw⟩
inductive Gi(x y z:Int)(n:Ns):Value→Ns→Prop
 | mk (r dx:Addr) (t1 t2 t3:Tok) (h:∀p∈n,@aP Nat _ p.1 r):Gi x y z n (.ref r) ((r,dT dx x y z t1 t2 t3)::n)
theorem Cm(hf:Ev c.cx m n f (.val (.ref 171)))(h1:Ev c.cx m n e1 (.int x))(h2:Ev c.cx m n e2 (.int y))(h3:Ev c.cx m n e3 (.int z))(hd:c.dp+6<aH)(hu:c.un+60<cT)(hk:cs.kind=.function)
  (c1:autoParam (CC c.env f [e1,e2,e3] pos) zAa) (c2:autoParam (SE c.env e1 [e2,e3]) zAa) (c3:autoParam (SE c.env e2 [e3]) zAa) (c4:autoParam (SE c.env e3 []) zAa):Er c.cx m n (.Call f [e1,e2,e3] [] pos) (Gi x y z n):=
 ⟨λQ s hi hQ=>gq (hf.run _ s hi λv s1 O i1=>by
  cases O;refine lF c.X (by with_unfolding_all rfl) ?_ c2 (hplain:=by refine(?_:(ff pos (bV [e2,e3] c.env)).any (·.1)=false);rw[c3,c4];rfl);refine aI (h1.run _ s1 i1 λv1 s2 d2 i2=>aI (h2.run _ s2 i2 λv2 G J i3=>aI (h3.run _ G i3 λv3 s4 H e=>bJ ⟨c.X.keeps e.at.1.keep,?_⟩) c4) c3) c2;obtain ⟨t,rfl⟩:=d2;obtain ⟨u,rfl⟩:=J;obtain ⟨u3,rfl⟩:=H
  exact Iz c.B e.at.1 c.X e.at.2 c.T hk hd hu λr dx h' tk' Y U l=>hQ _ _ _ ⟨r,dx,t,u,u3,l⟩ (e.to Y U)) c1⟩
end
section
variable {τ:Nat→Tok}{d:Nat→Value}{N:Ns}{S D la lb lj lk:Addr}{n ea eb:Nat}{va vb:List Value}{xs ys:List Int}{oj:Obj}{kvj:List (Int×Value)}{led:Bool}{u1 u2 u3 u4:Tok}{alo ahi blo bhi:Int}
inductive Pq(xs ys:List Int)(alo ahi blo bhi:Int)(H:Ns):Value→Ns→Prop
 | mk (bi bj bs:Int) (w1 w2 w3:Tok) (r dx:Addr) (hb:BI xs ys alo blo bhi (ahi-alo).toNat bi bj bs) (hl:∀p∈H,@aP Nat _ p.1 r):Pq xs ys alo ahi blo bhi H (.ref r) ((r,dT dx bi bj bs w1 w2 w3)::H)
theorem Lq(h9:9≤n)(h1:d 1=.ref la)(h2:d 2=.ref lb)(h7:d 7=.ref lj)(h8:d 8=.ref lk)(ap:(la,listOf va.toArray ea)∈N)(aj:(lb,listOf vb.toArray eb)∈N)(ab:(lj,oj)∈N)(G:(lk,dt led)∈N)(H:au va xs)(ax:au vb ys)(B:xs.length≤32)(Y:ys.length≤32)(aa:ys.Nodup)(ar:nY W0 oj kvj)(O:(lj==cN)=false)(as:yM ys kvj N)
  (q1:0≤alo) (q2:alo≤ahi) (q3:ahi≤xs.length) (q4:0≤blo) (q5:blo≤bhi) (q6:bhi≤ys.length):
  fg W0 232 [.ref S,.int alo u1,.int ahi u2,.int blo u3,.int bhi u4] (SL W0 S D τ d n N) 7 63 (Pq xs ys alo ahi blo bhi (SL W0 S D τ d n N)):=
 lf (body:=mB 6) (scope:=mS 6) (binds:=[("self",.ref S),("alo",.int alo u1),("ahi",.int ahi u2),("blo",.int blo u3),("bhi",.int bhi u4)]) (by with_unfolding_all rfl) (by with_unfolding_all rfl) (λs X=>pQ X rfl (by with_unfolding_all rfl) rfl rfl rfl) (ss rfl) rfl rfl rfl (by decide) λc hd hu=>by
  show cK c _ _ (.Expr (.Constant (.str _) _ _) _::.Assign [.Tuple _ _ _] (.Tuple [.Attribute (.Name "self" _) "a" _,.Attribute (.Name "self" _) "b" _,.Attribute (.Name "self" _) "b2j" _,.Attribute (.Attribute (.Name "self" _) "bjunk" _) "__contains__" _] _ _) _::.If (.Compare (.Name "ahi" _) [.Is] [.Constant .none _ _] _) _ [] _::.If (.Compare (.Name "bhi" _) [.Is] [.Constant .none _ _] _) _ [] _::.Assign [.Tuple _ _ _] (.Tuple [.Name "alo" _,.Name "blo" _,.Constant (.int 0) _ _] _ _) _::.Assign [.Name "j2len" _] (.Dict [] [] _) _::.Assign [.Name "nothing" _] (.List [] _) _::oL 6 7::oL 6 8::oL 6 9::oL 6 10::oL 6 11::.Return (some (.Call (.Name "Match" _) [.Name "besti" _,.Name "bestj" _,.Name "bestsize" _] [] _)) _::[]) _;refine g6 (Ab (gK nt 1 (am rfl) (zH) (zT (zH)) h1 rfl (ly h9)) (gK nt 2 (am rfl) (zH) (zT (zH)) h2 rfl (ly h9)) (gK nt 7 (am rfl) (zH) (zT (zH)) h7 rfl (ly h9)) (Ik (gK nt 8 (am rfl) (zH) (zT (zH)) h8 rfl (ly h9)) (bk 2 G)) ?_);rintro v n1 ⟨q,lq⟩;refine dz (oz (t:=false) (am rfl) gN (.other rfl (λe=>nomatch e))) (λh=>bH h) λ_=>bQ (dz (oz (t:=false) (am rfl) gN (.other rfl (λe=>nomatch e))) (λh=>bH h) λ_=>bQ ?_);refine pE (i1:=alo) (i2:=blo) (i3:=0) (ai rfl) (ai rfl) bf λt1 t2 t3=>?_;refine dG oS ?_;rintro v n2 ⟨dj,oJ,rfl,rfl,hJ,U,lJ⟩;refine dG mY ?_;rintro v n3 ⟨nl,rfl,rfl,lN⟩;refine cL (n':=(dj,oJ)::(nl,listOf ([]:List Value).toArray 0)::(q,cf "set.__contains__" (.ref lk))::SL W0 S D τ d n N) ?_ (iz [1,0] 2 rfl);have sub:∀p∈SL W0 S D τ d n N,p∈(nl,listOf ([]:List Value).toArray 0)::(q,cf "set.__contains__" (.ref lk))::SL W0 S D τ d n N:=λp hp=>bk 2 hp;have J:=sub _ (bk 2 ap);have M2:=sub _ (bk 2 aj);have M3:=sub _ (bk 2 ab);have M4:=sub _ (bk 2 G);have M5:(nl,listOf ([]:List Value).toArray 0)∈(nl,listOf ([]:List Value).toArray 0)::(q,cf "set.__contains__" (.ref lk))::SL W0 S D τ d n N:=zH;have M6:(q,cf "set.__contains__" (.ref lk))∈(nl,listOf ([]:List Value).toArray 0)::(q,cf "set.__contains__" (.ref lk))::SL W0 S D τ d n N:=a8 1 rfl;have z:=jU as λp hp=>sub p (bk 2 hp);revert sub J M2 M3 M4 M5 M6 z;generalize (nl,listOf ([]:List Value).toArray 0)::(q,cf "set.__contains__" (.ref lk))::SL W0 S D τ d n N=N0;intro sub J M2 M3 M4 M5 M6 z;refine H0 (c:=c) (N0:=N0) (λm n hK=>QN (cO) (ai hK.al) (ai hK.ah)) ⟨alo,blo,0,_,_,_,dj,oJ,[],⟨rfl,rfl,rfl,rfl,rfl,rfl,rfl,rfl,rfl⟩,⟨rfl,rfl,rfl⟩,rfl,rfl,hJ,U,Gb,wK⟩ J H M3 ar O M5 z aa B q1 q2 q3 q4 ?_;rintro m n ⟨bi,bj,bs,z1,z2,z3,aM,aD,kvJ,hK,hB,-,rfl,-,-,u,-⟩;refine cL (n':=N0) ?_ λp hp=>zT hp;refine Lp (c:=c) J H M2 ax M6 M4 B Y q1 q2 q3 q4 q5 q6 (ms:=λ_ _=>0) ⟨bi,bj,bs,z1,z2,z3,hK,hB,u,rfl,rfl⟩ ?_;clear hK hB u;rintro m k ⟨bi,bj,bs,w1,w2,w3,hK,hB,u,-,-⟩;refine cL (mU (Cm fT (ai hB.i) (ai hB.j) (ai hB.s) (dl hd) (dl hu) rfl) ?_) sub;rintro v n' ⟨r,dx,t1,t2,t3,l⟩;exact⟨bi,bj,bs,t1,t2,t3,r,dx,u,l⟩
end
end
section
open W PyProof.Rows
theorem kw_C9_0:True:=by
 k_with_none
 k_with "zgetMethod type:tuple"=>(k_here;k_dflt (refine' AM ?F ?X ?g ?s ?e ?_;(case F=>k_asm);(case X=>k_asm);(case g=>k_is);(case s=>k_is);(case e=>k_is);k_whole))
 k_with "zcall builtin:tuple.__new__"=>(k_here;k_dflt (refine' AN ?F ?N ?X ?t ?hC ?e4 ?e3 ?e5 ?k6 ?e6 ?z ?ty ?i ?_;(case F=>k_asm);(case N=>k_asm);(case X=>k_asm);(case t=>exact News.isTup (by k_asm) (by k_mem));(case hC=>exact rfl);(case e4=>exact rfl);(case e3=>exact rfl);(case e5=>exact rfl);(case k6=>k_is);(case e6=>exact rfl);(case z=>rw[eK];exact dw rfl);(case ty=>exact x8 (by k_asm) (by k_asm) rfl);(case i=>k_is);k_whole);intro z9hp z9rp z9dxp z9Fp z9Np z9l1)
 k_with "zcall builtin:len"=>(k_here;(with_reducible show ay _ _ (call (jg "len") [bF _]) _ _ _);k_dflt (refine' DW ?F ?N ?X ?r ?o ?d ?f ?m ?_;(case F=>k_asm);(case N=>k_asm);(case X=>k_asm);(case r=>k_mem);(case o=>exact rfl);(case d=>exact rfl);(case f=>k_is);(case m=>k_is);k_whole);intro z9tkp z9tp)
 trivial
theorem km_C9:True:=by
 k_with "zmm"=>first|with_reducible assumption|exact a8 0 rfl|exact a8 1 rfl|exact a8 2 rfl|exact a8 3 rfl|exact a8 4 rfl|exact a8 5 rfl|exact a8 6 rfl|exact a8 7 rfl|exact a8 8 rfl|exact a8 9 rfl|(refine bk 1 ?_;assumption)|(refine bk 2 ?_;assumption)|(refine bk 3 ?_;assumption)|(refine bk 4 ?_;assumption)|(refine bk 5 ?_;assumption)|(refine bk 6 ?_;assumption)|(refine bk 7 ?_;assumption)|(refine bk 8 ?_;assumption)|(refine bk 9 ?_;assumption)|k_extra "zmt"
 k_with "zsu"=>first|exact FN|(refine FC ?_ ?_;(focus k_extra "zmm");k_extra "zsu")|(refine FA ?_ ?_;(focus k_extra "zsu");k_extra "zsu")|(intro p9 hp9;k_extra "zmm")
 trivial
theorem LV{gp:Program}{gl:List Str}{mean:ExcName→Option Value}{mg mb:Lo}{dp un:Nat}{gd:Option (List sR)}{cn:Str}{cs:Scope}{a:Addr}{ccd:Value}{cl:List (Str×Addr)}{outer:List Env}{A₀:Around}{base h₀:Heap}{L:Addr}{m:Lo}{news:Ns}{s:Shared}{Q E:VP}{tp:Addr}{x y z:Int}{t1 t2 t3:Tok}
  (B:qU A₀ base outer h₀) (F:Fr h₀ L s.heap m) (X:(hd.heap_1 W0.params).In h₀) (N:ba h₀ L s.heap ((tp,dO #[.int x t1,.int y t2,.int z t3])::news)) (T:Top gp gl mean mg mb h₀) (hk:cs.kind=.function)
  (hd1:dp+8<aH) (hu:un+60<cT) (hret:∀(r dx:Addr) (h':Heap) (tk':Nat),Fr h₀ L h' m→ba h₀ L h' ((r,dT dx x y z t1 t2 t3)::(tp,dO #[.int x t1,.int y t2,.int z t3])::news)→(∀p∈news,p.1<r)→tp<r→Q (.ref r) {s with heap:=h',toks:=tk'}):
  dH (aq cF.row.prog W0) (ic dp un gd cn cs L a ccd cl outer) (.call (.ref 125) ⟨[.ref 171,.ref tp],[]⟩) (λr s'=>match r with | .ok (.ret v)=>Q v s' | .ok _=>False | .error e=>E e s') s:=by
 revert X
 k_fill
 intro X
 k_dflt ktr_enter
 k_steps
 rename Fr h₀ _ _ _=>FZ;rename ba h₀ _ _ _=>NZ;exact hret _ _ _ _ FZ (cm NZ (by k_extra "zsu")) (λp hp=>zO (by assumption) (zT hp)) (zO (l:=(tp,_)::news) (by assumption) (zH))
end
section
open W PyProof Rows
theorem km_D8:True:=by
 k_with "zmt"=>first|with_reducible assumption|with_reducible exact zH|(with_reducible refine zR ?_;k_extra "zmt")|(with_reducible refine zL ?_;k_extra "zmt")|(with_reducible refine zT ?_;k_extra "zmt")
 trivial
structure GK(m:Lo)(S QU MB:Addr)(la lb:Int)(ta tb:Tok):Prop where
 s:m "self"=some (.ref S)
 q:m "queue"=some (.ref QU)
 b:m "matching_blocks"=some (.ref MB)
 la:m "la"=some (.int la ta)
 lb:m "lb"=some (.int lb tb)
noncomputable def RR(i:Nat):Stmt:=((sB (oL 7 5))[i]?).getD C7
noncomputable def Ru:PE:=sE (RR 1)
theorem GK.up{m:Lo}{S QU MB:Addr}{la lb:Int}{ta tb:Tok}{x:Str}{v:Value}(h:GK m S QU MB la lb ta tb)(e:x∉[("self" : Str),"queue","matching_blocks","la","lb"]):GK (ci m x v) S QU MB la lb ta tb:=by
 simp only[ak,bT,or_false,not_or] at e;refine Qr e λh1 h2 h3 h4 h5=>?_
 try clear e
 exact⟨(if_neg (Ne.symm h1)).trans h.s,(if_neg (Ne.symm h2)).trans h.q,(if_neg (Ne.symm h3)).trans h.b,(if_neg (Ne.symm h4)).trans h.la,(if_neg (Ne.symm h5)).trans h.lb⟩
theorem NV{α:Type}{a b x:α}{H T:List α}:∀p∈a::b::(H++x::T),p∈x::a::b::(H++T):=(by k_extra "zsu")
theorem R7{α:Type}{a b x y:α}{H T:List α}:∀p∈a::b::(H++x::y::T),p∈a::b::(H++y::x::T):=(by k_extra "zsu")
theorem PJ(h:∀p∈(MB,a)::(QU,b)::(HH++T),@aP Nat _ p.1 t)(hD:(D,oD)∈HH):@Ne Nat t MB∧@Ne Nat t QU∧@Ne Nat t D:=
 (eR (aF (h (MB,a) (zH))) (aF (h (QU,b) (zT (zH)))) (aF (h (D,oD) (zT (zT (zL hD))))))
theorem jG{HH T:Ns}{X:Addr}(h:∀p∈HH,p.1≠X)(h2:∀p∈T,p.1≠X):∀p∈HH++T,p.1≠X:=BA.mpr ⟨h,h2⟩
section
variable {c:Fm W0 (mS 7)}{m:Lo}{n:Ns}{R:Re}{rest:List Stmt}{xs ys:List Int}{news HH:Ns}{MB QU D S:Addr}{oD:Obj}{ta tb:Tok}
inductive GJ(xs ys:List Int)(news HH:Ns)(MB QU D S:Addr)(ta tb:Tok)(k:Nat)(m:Lo)(n:Ns):Prop
 | mk (qs:List (Addr×Rect)) (ms:List (Addr×Int)) (qe me:Nat) (T:Ns) (z0:GK m S QU MB xs.length ys.length ta tb) (z1:n=(MB,listOf (refsOf ms).toArray me)::(QU,listOf (refsOf qs).toArray qe)::(HH++T)) (z2:k=fq (qs.map (·.2))) (z3:GS xs ys news MB QU D qs ms T)
inductive GE(xs ys:List Int)(news HH:Ns)(MB QU D S:Addr)(ta tb:Tok)(m:Lo)(n:Ns):Prop
 | mk (ms:List (Addr×Int)) (qe me:Nat) (T:Ns) (z0:GK m S QU MB xs.length ys.length ta tb) (z1:n=(MB,listOf (refsOf ms).toArray me)::(QU,listOf (refsOf ([]:List (Addr×Rect))).toArray qe)::(HH++T)) (z2:GS xs ys news MB QU D [] ms T)
theorem EZ(hf:fF (hd.heap_1 W0.params) (.ref 171) "__iter__"=some (some (.builtin "tuple.__iter__")))(cA:lm (hd.heap_1 W0.params) 171 (.type "tuple")=some true)(ab:@Ne Nat MB QU)(cU:∀p∈HH,p.1≠MB)(ap:∀p∈HH,p.1≠QU)(hD:(D,oD)∈HH)
  (hcall:∀(m:Lo) (o1 o2:Obj) (T:Ns) (q:Rect) (t1 t2 t3 t4:Tok),GK m S QU MB xs.length ys.length ta tb→m "alo"=some (.int q.alo t1)→m "ahi"=some (.int q.ahi t2)→m "blo"=some (.int q.blo t3)→m "bhi"=some (.int q.bhi t4)→Gy xs ys q→(∀p∈news,p∈T)→
   Er c.cx m ((MB,o1)::(QU,o2)::(HH++T)) Ru (λv n'=>∃a b d t1 t2 t3 r dx,v=.ref r∧(r,dT dx a b d t1 t2 t3)∈n'∧(BI xs ys q.alo q.blo q.bhi (q.ahi-q.alo).toNat a b d∧n'=(r,dT dx a b d t1 t2 t3)::(MB,o1)::(QU,o2)::(HH++T)∧∀p∈(MB,o1)::(QU,o2)::(HH++T),@aP Nat _ p.1 r)))
  {k:Nat} (hJ:GJ xs ys news HH MB QU D S ta tb k m n) (a6:∀m n,GE xs ys news HH MB QU D S ta tb m n→cK c m n rest R):cK c m n (oL 7 5::rest) R:=by
 refine(?_:cK c m n (.While (.Name "queue" _) [.Assign [.Tuple _ _ _] (.Call (.Attribute (.Name "queue" _) "pop" _) [] [] _) _,.Assign [.Tuple _ _ _,.Name "x" _] Ru _,.If (.Name "k" _) [.Expr (.Call (.Attribute (.Name "matching_blocks" _) "append" _) [.Name "x" _] [] _) _,.If (.BoolOp .And [_,_] _) [.Expr (.Call (.Attribute (.Name "queue" _) "append" _) [.Tuple [_,_,_,_] _ _] [] _) _] [] _,.If (.BoolOp .And [_,_] _) [.Expr (.Call (.Attribute (.Name "queue" _) "append" _) [.Tuple [_,_,_,_] _ _] [] _) _] [] _] [] _] [] _::rest) R);refine jC (GJ xs ys news HH MB QU D S ta tb) hJ ?_;clear hJ;rintro k m1 n1 ⟨qs,ms,qe,me,T,hK,rfl,rfl,g⟩
 rcases C0 qs with rfl|⟨qs',⟨qa,u⟩,e⟩
 .refine(cZ _ (AI (vs:=refsOf ([]:List (Addr×Rect))) (am hK.q) (zT (zH)) (by decide)) (λhb=>(bH hb)) (λhb=>a6 _ _ ⟨ms,qe,me,T,hK,rfl,g⟩))
 rw[C1] at e;subst e;have aa:=g.room (.ref qa)
 have cy:refsOf (qs'++[(qa,u)])=refsOf qs'++[bF qa]:=by simp [refsOf]
 rw[cy];have a4:=g.len
 have cw:(refsOf ms).length≤65:=by simp only[refsOf,aE];exact aw (gy (eE ms) (eE (qs'++[(qa,u)]))) a4
 have a5:(refsOf qs').length≤64:=by simp only[refsOf,aE,aT,df] at *;exact nV (eQ [qs'.length,ms.length] 1 Z0 (.k 64) 1 (.a (.a Z0 Y1) Z1) (.k 65) 1 Y0 Z1 rfl (d9 a4) j0)
 refine(cZ _ (AI (am hK.q) (zT (zH)) aa) (λhb=>?_) (λhb=>?_))
 .refine b7 (g.hq (qa,u) (zR (aA.mpr rfl))) λbo cz=>?_
  refine Qm bo λt1 t2 t3 t4 b5=>?_
  try clear bo
  refine E8 (q:=qa) (vs:=refsOf qs') (am hK.q) (.tail ab (.head (jG ap g.h2))) (zT (zT (zR b5))) aa ?_;have z:=(((hK.up (x:="alo") (v:=.int u.alo t1) (by decide)).up (x:="ahi") (v:=.int u.ahi t2) (by decide)).up (x:="blo") (v:=.int u.blo t3) (by decide)).up (x:="bhi") (v:=.int u.bhi t4) (by decide);refine Ce hf cA (hcall _ _ _ T u t1 t2 t3 t4 z (bc (bc (bc cW))) (bc (bc cW)) (bc cW) cW cz g.h0) ?_;intro bi bj bs w1 w2 w3 r dx n' bm;refine kq bm λah cd cB=>?_;clear bm;subst cd;replace z:=(((z.up (x:="i") (v:=.int bi w1) (by decide)).up (x:="j") (v:=.int bj w2) (by decide)).up (x:="k") (v:=.int bs w3) (by decide)).up (x:="x") (v:=.ref r) (by decide);generalize H:ci (ci (ci (ci (ci (ci (ci (ci m1 _ _) _ _) _ _) _ _) _ _) _ _) _ _) _ _=m2 at z ⊢;have a0:m2 "alo"=some (.int u.alo t1):=H▸bc (bc (bc (bc (bc (bc (bc cW))))));have O:m2 "ahi"=some (.int u.ahi t2):=H▸bc (bc (bc (bc (bc (bc cW)))));have ax:m2 "blo"=some (.int u.blo t3):=H▸bc (bc (bc (bc (bc cW))));have J:m2 "bhi"=some (.int u.bhi t4):=H▸bc (bc (bc (bc cW)));have Y:m2 "i"=some (.int bi w1):=H▸bc (bc (bc cW));have U:m2 "j"=some (.int bj w2):=H▸bc (bc cW);have B:m2 "k"=some (.int bs w3):=H▸bc cW;have cn:m2 "x"=some (.ref r):=H▸cW;clear H hK;refine kq (PJ cB hD) λrM rQ rD=>?_;refine cL ?_ NV;have aj:∀{X:Addr},@Ne Nat r X→(∀p∈T,p.1≠X)→∀p∈(r,dT dx bi bj bs w1 w2 w3)::T,p.1≠X:=λh1 h2=>zC ⟨h1,h2⟩;refine dz (ke (ai B)) (λbb=>?_) (λbb=>?_)
  .have hk:bs≠0:=by simpa using bb
   refine gM (vs:=refsOf ms) (am z.b) (zH) (iL (am cn)) (aw cw (by decide)) ?_;intro v n' bl;refine b7 bl λhv cc=>?_;clear bl;subst cc;cases hv;refine(c9 _ (.head (zC ⟨ab.symm,jG cU (aj rM g.h1)⟩)) ?_);rw[show refsOf ms++[bF r]=refsOf (ms++[(r,bs)]) by simp [refsOf]];refine dz (fS (eD lc (ai a0) (ai Y)) λ_=>fS (eD lc (ai ax) (ai U)) λ_=>iU) (λh1=>?_) (λh1=>bQ ?_)
   .replace h1:u.alo<bi∧u.blo<bj:=by simpa using h1
    refine gM (vs:=refsOf qs') (am z.q) (zT (zH)) (tF (ai a0) (ai Y) (ai ax) (ai U)) (aw a5 (by decide)) ?_;intro v n' bh;refine Ki bh λA1 z1 z2 z3 z4 ca b6 cC=>?_;clear bh;subst ca;subst b6;refine kq (PJ cC hD) λaM aQ aD=>?_;refine(c9 _ (.tail aQ (.tail ab (.head (jG ap (aj rQ g.h2))))) (bQ ?_));rw[show refsOf qs'++[bF A1]=refsOf (qs'++[(A1,Rect.mk u.alo bi u.blo bj)]) by simp [refsOf]];refine cL ?_ NV;refine dz (fS (eD lc (ec (ai Y) (ai B)) (ai O)) λ_=>fS (eD lc (ec (ai U) (ai B)) (ai J)) λ_=>iU) (λh2=>?_) (λh2=>bQ (bQ (b9 ?_)))
    .replace h2:bi+bs<u.ahi∧bj+bs<u.bhi:=by simpa using h2
     refine gM (vs:=refsOf (qs'++[(A1,Rect.mk u.alo bi u.blo bj)])) (am z.q) (zT (zH)) (tF (ec (ai Y) (ai B)) (ai O) (ec (ai U) (ai B)) (ai J)) (aw (by simp only[refsOf,aE,aT,df] at *;exact eZ a5 1:_≤65) (by decide)) ?_;intro v n' as;refine Ki as λA2 y1 y2 y3 y4 b4 b0 a7=>?_;clear as;subst b4;subst b0;refine kq (PJ a7 hD) λcM cQ cD=>?_;refine(c9 _ (.tail cQ (.tail ab (.head (jG ap (zC ⟨aQ,aj rQ g.h2⟩))))) (bQ (bQ ?_)));rw[show refsOf (qs'++[(A1,Rect.mk u.alo bi u.blo bj)])++[bF A2]=refsOf (qs'++[(A1,Rect.mk u.alo bi u.blo bj),(A2,Rect.mk (bi+bs) u.ahi (bj+bs) u.bhi)]) by simp [refsOf]];have G:=g.two (r:=r) (dx:=dx) (w1:=w1) (w2:=w2) (w3:=w3) (T1:=A1) (T2:=A2) (t1:=z1) (t2:=z2) (t3:=z3) (t4:=z4) (t5:=y1) (t6:=y2) (t7:=y3) (t8:=y4) ah hk h1 h2 aM aQ aD cM cQ cD rM rQ rD;exact cL (cL (b9 (c9 _ G.2 ⟨_,_,_,_,_,z,rfl,rfl,G.1⟩)) R7) NV
    .replace h2:¬(bi+bs<u.ahi∧bj+bs<u.bhi):=by simpa using h2
     have G:=g.left (r:=r) (dx:=dx) (w1:=w1) (w2:=w2) (w3:=w3) (T1:=A1) (t1:=z1) (t2:=z2) (t3:=z3) (t4:=z4) ah hk h1 h2 aM aQ aD rM rQ rD;exact(c9 _ G.2 ⟨_,_,_,_,_,z,rfl,rfl,G.1⟩)
   .replace h1:¬(u.alo<bi∧u.blo<bj):=by simpa using h1
    refine dz (fS (eD lc (ec (ai Y) (ai B)) (ai O)) λ_=>fS (eD lc (ec (ai U) (ai B)) (ai J)) λ_=>iU) (λh2=>?_) (λh2=>bQ (bQ (b9 ?_)))
    .replace h2:bi+bs<u.ahi∧bj+bs<u.bhi:=by simpa using h2
     refine gM (vs:=refsOf qs') (am z.q) (zT (zH)) (tF (ec (ai Y) (ai B)) (ai O) (ec (ai U) (ai B)) (ai J)) (aw a5 (by decide)) ?_;intro v n' ar;refine Ki ar λA2 y1 y2 y3 y4 bv br a7=>?_;clear ar;subst bv;subst br;refine kq (PJ a7 hD) λcM cQ cD=>?_;refine(c9 _ (.tail cQ (.tail ab (.head (jG ap (aj rQ g.h2))))) (bQ (bQ ?_)));rw[show refsOf qs'++[bF A2]=refsOf (qs'++[(A2,Rect.mk (bi+bs) u.ahi (bj+bs) u.bhi)]) by simp [refsOf]];have G:=g.right (r:=r) (dx:=dx) (w1:=w1) (w2:=w2) (w3:=w3) (T2:=A2) (t5:=y1) (t6:=y2) (t7:=y3) (t8:=y4) ah hk h1 h2 cM cQ cD rM rQ rD;exact cL (b9 (c9 _ G.2 ⟨_,_,_,_,_,z,rfl,rfl,G.1⟩)) NV
    .replace h2:¬(bi+bs<u.ahi∧bj+bs<u.bhi):=by simpa using h2
     have G:=g.bare (r:=r) (dx:=dx) (w1:=w1) (w2:=w2) (w3:=w3) ah hk h1 h2 rM rQ rD;exact(c9 _ G.2 ⟨_,_,_,_,_,z,rfl,rfl,G.1⟩)
  .have hk:bs=0:=by simpa using bb
   refine cL (n':=(MB,listOf (refsOf ms).toArray me)::(QU,listOf (refsOf qs').toArray (qe+1))::(HH++T)) (bQ (b9 (c9 _ g.drop ⟨_,_,_,_,_,z,rfl,rfl,g.none (IF ah hk)⟩))) λp hp=>?_;revert p;k_extra "zsu"
 .have:(refsOf qs'++[bF qa]).isEmpty=false:=by cases refsOf qs'<;>rfl
  rw[this] at hb;exact bH hb
end
inductive SK(xs ys:List Int)(D:Addr)(news:Ns)(led:Addr→Ns→Ns)(f:ve)(n':Ns):Prop
 | mk (r:Addr) (mk:List (Addr×Int)) (c:Nat) (T:Ns) (hf:f=.ret (.ref r)) (h1:pM xs ys 0 xs.length 0 ys.length (ee mk)) (h2:mk.length≤34) (h3:∀q∈mk,0≤q.2) (h4:∀q∈mk,sL T q) (h5:∀p∈news,p∈T) (h6:∀p∈T,p.1≠D) (h7:∀p∈T,p.1≠r) (h8:@aP Nat _ D r) (hn:n'=(r,listOf (refsOf mk).toArray c)::led r T)
theorem Qt{α:Type}{a x:α}{H T:List α}:∀p∈a::(H++x::T),p∈x::a::(H++T):=(by k_extra "zsu")
noncomputable def Ss(i:Nat):Stmt:=((sO (((sB (oL 7 9))[0]?).getD C7))[i]?).getD C7
section
variable {c:Fm W0 (mS 7)}{m:Lo}{n:Ns}{R:Re}{rest:List Stmt}{xs ys:List Int}{news HH:Ns}{MB QU D S:Addr}{oD:Obj}{ta tb:Tok}
structure NK(m:Lo)(NA:Addr)(i1 j1 k1:Int)(w1 w2 w3:Tok):Prop where
 a:m "non_adjacent"=some (.ref NA)
 i:m "i1"=some (.int i1 w1)
 j:m "j1"=some (.int j1 w2)
 k:m "k1"=some (.int k1 w3)
theorem NK.up(h:NK m NA i1 j1 k1 w1 w2 w3)(e:x∉[("non_adjacent" : Str),"i1","j1","k1"]):NK (ci m x v) NA i1 j1 k1 w1 w2 w3:=by
 simp only[ak,bT,or_false,not_or] at e;refine xU e λh1 h2 h3 h4=>?_
 try clear e
 exact⟨(if_neg (Ne.symm h1)).trans h.a,(if_neg (Ne.symm h2)).trans h.i,(if_neg (Ne.symm h3)).trans h.j,(if_neg (Ne.symm h4)).trans h.k⟩
inductive NJ(ms:List (Addr×Int))(T HB:Ns)(MB QU D S NA:Addr)(la lb:Int)(ta tb:Tok)(i:Nat)(m:Lo)(n:Ns):Prop
 | mk (na:List (Addr×Int)) (i1 j1 k1:Int) (w1 w2 w3:Tok) (ne:Nat) (T2:Ns) (z0:GK m S QU MB la lb ta tb) (z1:NK m NA i1 j1 k1 w1 w2 w3) (z2:n=(NA,listOf (refsOf na).toArray ne)::(HB++T2)) (z3:NS T NA D D D NA na T2) (z4:na.length≤i) (z5:0≤k1) (z6:ee na+k1=ee (ms.take i))
theorem HW(hf:fF (hd.heap_1 W0.params) (.ref 171) "__iter__"=some (some (.builtin "tuple.__iter__")))(cD:fF (hd.heap_1 W0.params) (.ref 171) "__lt__"=some (some (.builtin "tuple.__lt__")))(cn:lm (hd.heap_1 W0.params) 171 (.type "tuple")=some true)(hu:c.A.units+1<cT)(c0:@Ne Nat MB QU)(c1:∀p∈HH,p.1≠MB)(hD:(D,oD)∈HH)
  (hE:GE xs ys news HH MB QU D S ta tb m n)
  (cx:∀(m:Lo) (na:List (Addr×Int)) (ne:Nat) (NA:Addr) (T3:Ns),m "self"=some (.ref S)→m "non_adjacent"=some (.ref NA)→(∀q∈na,GA T3 q)→(∀q∈na,0≤q.2)→na.length≤34→pM xs ys 0 xs.length 0 ys.length (ee na)→(∀p∈news,p∈T3)→(∀p∈T3,p.1≠D)→@Ne Nat NA D→(∀p∈T3,p.1≠NA)→cK c m ((NA,listOf (refsOf na).toArray ne)::(HH++T3)) rest R):
  cK c m n (oL 7 6::oL 7 7::oL 7 8::oL 7 9::oL 7 10::oL 7 11::rest) R:=by
 obtain ⟨ms,qe,me,T,hK,rfl,g⟩:=hE;refine Cc hu cD cn (am hK.b) (.head (zC ⟨c0.symm,jG c1 g.h1⟩)) g.hm (λo p hp=>zT (zT (zR hp))) (aK g.short (by decide)) ?_;intro e c' hp;have cC:∀q∈e,sL T q:=λq hq=>g.hm q (hp.mem_iff.mp hq);have cB:∀q∈e,0≤q.2:=λq hq=>g.hpos q (hp.mem_iff.mp hq);have ax:e.length≤32:=hp.length_eq▸g.short;have ab:ee e=ee ms:=BL hp;have cz:=g.all;have bh:=g.h3;have cQ:=g.h0;rw[← ab] at cz;clear hp g ab;refine E5 bf λt0=>?_;refine dG mY ?_;intro v n' a5;refine fJ a5 λNA b5 b4 ah=>?_;clear a5;subst b5;subst b4;have aj:∀p∈(MB,listOf (refsOf e).toArray c')::(QU,listOf (refsOf ([]:List (Addr×Rect))).toArray qe)::HH,@Ne Nat p.1 NA:=λp hp=>aB (ah p (by simpa using (qY T hp)));have cy:∀p∈T,@Ne Nat p.1 NA:=λp hp=>aB (ah p (zT (zT (zR hp))));have bj:(D,oD)∈(MB,listOf (refsOf e).toArray c')::(QU,listOf (refsOf ([]:List (Addr×Rect))).toArray qe)::HH:=zT (zT hD);have aa:(MB,listOf (refsOf e).toArray c')∈(MB,listOf (refsOf e).toArray c')::(QU,listOf (refsOf ([]:List (Addr×Rect))).toArray qe)::HH:=zH;have a6:∀p∈HH,p∈(MB,listOf (refsOf e).toArray c')::(QU,listOf (refsOf ([]:List (Addr×Rect))).toArray qe)::HH:=λp hp=>zT (zT hp);rw[show (NA,listOf ([]:List Value).toArray 0)::(MB,listOf (refsOf e).toArray c')::(QU,listOf (refsOf ([]:List (Addr×Rect))).toArray qe)::(HH++T)=(NA,listOf (refsOf ([]:List (Addr×Int))).toArray 0)::(((MB,listOf (refsOf e).toArray c')::(QU,listOf (refsOf ([]:List (Addr×Rect))).toArray qe)::HH)++T) from rfl];clear ah;generalize (MB,listOf (refsOf e).toArray c')::(QU,listOf (refsOf ([]:List (Addr×Rect))).toArray qe)::HH=HB at aj bj aa a6 ⊢;have aM:=(((hK.up (x:="i1") (v:=.int 0 t0) (by decide)).up (x:="j1") (v:=.int 0 t0) (by decide)).up (x:="k1") (v:=.int 0 t0) (by decide)).up (x:="non_adjacent") (v:=.ref NA) (by decide);have cU:@Ne Nat NA D:=(aj _ bj).symm
 have tup:∀{t:Addr}{na:List (Addr×Int)}{ne:Nat}{T2:Ns},(∀p∈(NA,listOf (refsOf na).toArray ne)::(HB++T2),@aP Nat _ p.1 t)→@Ne Nat t NA∧@Ne Nat t D:=λh=>⟨aF (h _ (zH)),aF (h _ (zT (zL bj)))⟩
 refine yf hf cn (am aM.b) (zT (zL aa)) (NJ e T HB MB QU D S NA xs.length ys.length ta tb) ⟨[],0,0,0,t0,t0,t0,0,T,aM,⟨cW,bc (bc (bc cW)),bc (bc cW),bc cW⟩,rfl,⟨λ_ h=>h,cy,bh,bh,bh,cy,(λ_ h=>nomatch h),(λ_ h=>nomatch h)⟩,aR _,bZ _,rfl⟩ ?_ ?_ ?_
 .rintro i m n ⟨na,i1,j1,k1,w1,w2,w3,ne,T2,-,-,rfl,gn,-⟩ q hq
  refine zE (cC q hq) λdx a b u1 u2 u3 hm=>?_;exact(B7 dx a b u1 u2 u3 (zT (zR (gn.h0 _ hm))))
 .clear hK aM
  rintro i q a b t1 t2 t3 m1 n1 I o a7 O ⟨na,i1,j1,k1,w1,w2,w3,ne,T2,hK,hN,rfl,gn,U,aD,B⟩;have cd:=cB q (cq a7);have ap:=vO a7;have cw:i<32:=aN (bP.mp a7).1 ax;have cA:=O _ (zH);have bi:=((hK.up (x:="i2") (v:=.int a t1) (by decide)).up (x:="j2") (v:=.int b t2) (by decide)).up (x:="k2") (v:=.int q.2 t3) (by decide);have z:=((hN.up (x:="i2") (v:=.int a t1) (by decide)).up (x:="j2") (v:=.int b t2) (by decide)).up (x:="k2") (v:=.int q.2 t3) (by decide);generalize as:ci (ci (ci m1 _ _) _ _) _ _=m2 at bi z ⊢;have cc:m2 "i2"=some (.int a t1):=as▸bc (bc cW);have ca:m2 "j2"=some (.int b t2):=as▸bc cW;have b6:m2 "k2"=some (.int q.2 t3):=as▸cW;clear as hK hN;refine dz (fS (eD wp (ec (ai z.i) (ai z.k)) (ai cc)) λ_=>fS (eD wp (ec (ai z.j) (ai z.k)) (ai ca)) λ_=>iU) (λ_=>?_) (λ_=>?_)
  .refine yh z.k (ai b6) λt4=>bQ (b9 ?_)
   exact⟨zH,_,λp hp=>⟨zT hp,O p hp⟩,zT (zL aa),na,i1,j1,k1+q.2,w1,w2,t4,ne,T2,bi.up (by decide),⟨bc z.a,bc z.i,bc z.j,cW⟩,rfl,gn,by exact dI U,by exact Rt aD cd,by exact nA (eQ [ee na,k1,q.snd,ee (my (i+1) e),ee (my i e)] 1 (.a Z0 (.a Z1 Z2)) Z3 1 (.a Z4 Z2) Z3 1 (.a Z0 Z1) Z4 rfl (iq ap) (gV B)) (eQ [ee (my (i+1) e),ee na,k1,q.snd,ee (my i e)] 1 Z0 (.a Z1 (.a Z2 Z3)) 1 Z0 (.a Z4 Z3) 1 Z4 (.a Z1 Z2) rfl (gV ap) (iq B))⟩
  .have fin:∀(u:List (Addr×Int)) (J:Nat) (G:Ns),NS T NA D D D NA u G→(∀p∈(NA,listOf (refsOf u).toArray J)::(HB++G),@Ne Nat p.1 I)→u.length≤i+1→ee u=ee na+k1→cK c m2 ((I,o)::(NA,listOf (refsOf u).toArray J)::(HB++G)) [Ss 1] (md c [] (Ps (md c (oL 7 10::oL 7 11::rest) R) I o (MB,listOf (refsOf e).toArray c') (NJ e T HB MB QU D S NA xs.length ys.length ta tb) (i+1))):=by
    intro u J G Y bb H ar;refine pE (ai cc) (ai ca) (ai b6) λu1 u2 u3=>bQ (b9 ?_);exact⟨zH,_,λp hp=>⟨zT hp,bb p hp⟩,zT (zL aa),u,a,b,q.2,u1,u2,u3,J,G,((bi.up (by decide)).up (by decide)).up (by decide),⟨bc (bc (bc z.a)),cW,bc cW,bc (bc cW)⟩,rfl,Y,H,cd,by exact nA (g5 [ee u,q.snd,ee (my (i+1) e),ee na,k1,ee (my i e)] 1 (.a Z0 Z1) Z2 1 Z0 (.a Z3 Z4) 1 (.a Z5 Z1) Z2 1 (.a Z3 Z4) Z5 rfl (gV ar) (iq ap) (gV B)) (g5 [ee (my (i+1) e),ee u,q.snd,ee na,k1,ee (my i e)] 1 Z0 (.a Z1 Z2) 1 (.a Z3 Z4) Z1 1 Z0 (.a Z5 Z2) 1 Z5 (.a Z3 Z4) rfl (iq ar) (gV ap) (iq B))⟩
   refine dz (ke (ai z.k)) (λhk=>?_) (λhk=>bQ (fin na ne T2 gn O (dI U) (by have:k1=0:=(by simpa using hk);exact nA (cS [ee na,k1] 1 Z0 (.a Z0 Z1) 1 Y0 Z1 rfl (iq this)) (cS [ee na,k1] 1 (.a Z0 Z1) Z0 1 Z1 Y0 rfl (gV this)))));refine gM (vs:=refsOf na) (am z.a) (zT (zH)) (wU (ai z.i) (ai z.j) (ai z.k)) (aw (by simp only[refsOf,aE];exact nV (eQ [na.length,i] 1 Z0 (.k 65) 1 (.a Z1 Y1) (.k 32) 1 Z0 Z1 rfl (d9 cw) (d9 U)):_≤65) (by decide)) ?_;intro v n' a4;refine Kj a4 λt z1 z2 z3 b0 bv H=>?_;clear a4;subst b0;subst bv;refine b7 (tup λp hp=>H p (zT hp)) λtN tD=>?_;refine(c9 _ (.tail tN (.tail cA.symm (.head (jG aj gn.h1)))) (bQ ?_));rw[show refsOf na++[bF t]=refsOf (na++[(t,k1)]) by simp [refsOf]];refine cL (fin (na++[(t,k1)]) (ne+1) ((t,dO #[.int i1 z1,.int j1 z2,.int k1 z3])::T2) (gn.more tN tD tD tD tN aD) ?_ (by simp only[aT,df];exact eZ U 1) (by rw[mF])) ?_
   .refine zC ⟨cA,jG (λp hp=>O p (zT (zL hp))) (zC ⟨aF (H _ (zH)),λp hp=>O p (zT (zR hp))⟩)⟩
   .exact NV
 .clear hK aM
  rintro m1 n1 ⟨na,i1,j1,k1,w1,w2,w3,ne,T2,hK,hN,rfl,gn,U,aD,B⟩;rw[cP] at B
  have fin:∀(u:List (Addr×Int)) (J:Nat) (G:Ns),NS T NA D D D NA u G→u.length≤33→ee u=ee na+k1→cK c m1 ((NA,listOf (refsOf u).toArray J)::(HB++G)) (oL 7 11::rest) R:=by
   intro u J G Y H ar;refine gM (vs:=refsOf u) (am hN.a) (zH) (wU (ai hK.la) (ai hK.lb) bf) (aw (by simp only[refsOf,aE];exact rZ H (bR true):_≤65) (by decide)) ?_;intro v n' a0;refine Kj a0 λt z1 z2 z3 br bo cM=>?_;clear a0;subst br;subst bo;refine b7 (tup cM) λtN tD=>?_;refine(c9 _ (.tail tN (.head (jG aj Y.h1))) ?_);rw[show refsOf u++[bF t]=refsOf (u++[(t,0)]) by simp [refsOf]];refine cL (cx m1 (u++[(t,0)]) (J+1) NA ((t,dO #[.int xs.length z1,.int ys.length z2,.int 0 z3])::G) hK.s hN.a (HR Y.hn) (DS Y.hpos (bZ 0)) (by simp only[aT,df];exact eZ H 1) (by rw[mF];dsimp only;rw[iW,ar,B];exact cz) (λp hp=>zT (Y.h0 p (cQ p hp))) (zC ⟨tD,Y.h2⟩) cU (zC ⟨tN,Y.h1⟩)) λp hp=>?_;simp only[ak,aC] at hp ⊢
   rcases hp with h|h|h|h
   .simp [h]
   .simp [a6 p h]
   .simp [h]
   .simp [h]
  refine dz (ke (ai hN.k)) (λhk=>?_) (λhk=>bQ (fin na ne T2 gn (nV (eQ [na.length,e.length] 1 Z0 (.k 33) 1 Z0 Z1 1 Z1 (.k 32) rfl (d9 U) (d9 ax))) (by have:k1=0:=(by simpa using hk);exact nA (cS [ee na,k1] 1 Z0 (.a Z0 Z1) 1 Y0 Z1 rfl (iq this)) (cS [ee na,k1] 1 (.a Z0 Z1) Z0 1 Z1 Y0 rfl (gV this)))));refine gM (vs:=refsOf na) (am hN.a) (zH) (wU (ai hN.i) (ai hN.j) (ai hN.k)) (aw (by simp only[refsOf,aE];exact nV (eQ [na.length,e.length] 1 Z0 (.k 65) 1 Z0 Z1 1 Z1 (.k 32) rfl (d9 U) (d9 ax)):_≤65) (by decide)) ?_;intro v n' aQ;refine Kj aQ λt z1 z2 z3 bm bl H=>?_;clear aQ;subst bm;subst bl;refine b7 (tup H) λtN tD=>?_;refine(c9 _ (.tail tN (.head (jG aj gn.h1))) (bQ ?_));rw[show refsOf na++[bF t]=refsOf (na++[(t,k1)]) by simp [refsOf]];exact cL (fin (na++[(t,k1)]) (ne+1) ((t,dO #[.int i1 z1,.int j1 z2,.int k1 z3])::T2) (gn.more tN tD tD tD tN aD) (by simp only[aT,df];exact nV (eQ [na.length,e.length] 1 (.a Z0 Y1) (.k 33) 1 Z0 Z1 1 Z1 (.k 32) rfl (d9 U) (d9 ax))) (by rw[mF])) Qt
end
end
section
open W PyProof Rows Mine
section
variable {cs:Scope}{c:Fm W0 cs}{sc:Scope}{k:Cx c sc}{m:Lo}{n:Ns}{R:Re}{rest:List Stmt}
theorem G7{pos wh}(hl:Ev k m n l (.val .none))(hr:Ev k m n r (.val .none))(hm:autoParam (eN .IsNot r=false) zAc):Tw k m n (.Compare l [.IsNot] [r] pos) wh false:=
 ⟨λ_ s hi hq=>bX (hl.run _ s hi λv s1 hv h1=>hr.run _ s1 h1 λv2 s2 e h2=>by
  cases hv;cases e
  exact wpAny_isNot_self rfl (aY (hq _ h2))) hm⟩
theorem G3{pos wh}(hl:Ev k m n l (.val (.ref x)))(hr:Ev k m n r (.val .none))(hm:autoParam (eN .IsNot r=false) zAc):Tw k m n (.Compare l [.IsNot] [r] pos) wh true:=
 ⟨λ_ s hi hq=>bX (hl.run _ s hi λv s1 hv h1=>hr.run _ s1 h1 λv2 s2 u h2=>by
  cases hv;cases u
  exact wpAny_isNot_other rfl (λe=>nomatch e) (aY (hq _ h2))) hm⟩
theorem Ir{e:PE}{P P':Value→Ns→Prop}(h:Er k m n e P)(g:Ns→Ns)(hp:∀v n',P v n'→(∀p∈g n',p∈n')∧P' v (g n')):Er k m n e P':=⟨λQ s hi hq=>h.run Q s hi λv n' s' p u=>hq _ _ _ (hp v n' p).2 (u.sub (hp v n' p).1)⟩
inductive RM(na:List (Addr×Int))(T:Ns):Value→Ns→Prop
 | mk (S:Addr) (mk:List (Addr×Int)) (M:Ns) (c2:Nat) (e1:mk.map (·.2)=na.map (·.2)) (e2:∀p∈mk,sL M p) (e3:∀p∈M,@aP Nat _ S p.1) (e4:∀p∈T,@aP Nat _ p.1 S):RM na T (.ref S) ((S,listOf (refsOf mk).toArray c2)::(M++T))
theorem Il{U H e e2:PE}{u p1 G:Pos}{na:List (Addr×Int)}{ne:Nat}{NA:Addr}{T:Ns}(hd:c.dp+8<aH)(hu:c.un+63<cT)(hk:cs.kind=.function)(hl:∀M,Ev c.cx m M U (.val (.type "list")))(hm:∀M,Ev c.cx m M H (.val (.type "map")))(he:∀M,Ev c.cx m M e (.val (.ref 171)))(h2:∀M,Ev c.cx m M e2 (.val (.ref NA)))(hn:na.length≤64)(O:∀p∈na,GA T p)
  (ca:autoParam (eval (.Attribute e "_make" u) c.env=(do
   let o ← eval e c.env
   f8 u.atName
   let r ← gm [o] (jJ o "_make" true)
   eU e o r
   ck r)) zAc)
  (c1:autoParam (CC c.env U [.Call H [.Attribute e "_make" u,e2] [] G] p1) zAa)
  (c2:autoParam (CC c.env H [.Attribute e "_make" u,e2] G) zAa)
  (s1:autoParam (bV [.Call H [.Attribute e "_make" u,e2] [] G] c.env=(false,eval (.Call H [.Attribute e "_make" u,e2] [] G) c.env)::bV [] c.env) zAa) (s2:autoParam (bV [.Attribute e "_make" u,e2] c.env=(false,eval (.Attribute e "_make" u) c.env)::bV [e2] c.env) zAa) (Y:autoParam (SE c.env e2 []) zAa):
  Er c.cx m ((NA,listOf (refsOf na).toArray ne)::T) (.Call U [.Call H [.Attribute e "_make" u,e2] [] G] [] p1) (RM na T):=
 ⟨λQ s hi hQ=>gq ((hl _).run _ s hi λv z1 d1 i1=>by
  cases d1;refine callWith_type1 (aI (gq ((hm _).run _ z1 i1 λv z2 d2 i2=>?_) c2) s1) s1;cases d2;refine callWith_type1 (aI (oh ((he _).run _ z2 i2 λv z3 d3 i3=>?_) ca) s2) s2 (hplain:=by refine(?_:(ff G (bV [e2] c.env)).any (·.1)=false);rw[Y];rfl);cases d3;refine cls_cm i3.at.1 c.X i3.at.2 (by with_unfolding_all rfl) (by with_unfolding_all rfl) (by with_unfolding_all rfl) (by with_unfolding_all rfl) λq h' F' N' lq=>?_;refine aI ((h2 _).run _ _ (i3.to F' N') λv z5 d5 i5=>bJ ?_) Y;cases d5;refine FO i5.at.1 i5.at.2 (zT (zH)) λit tup mp h5 F5 N5 J l2 l3=>bJ ?_;refine EK (na:=na) rfl (λs1 n1 tp x y z ta tb tc Q1 F1 N1 hq=>LV (E:=λ_ _=>False) c.B F1 c.X N1 c.T hk (by refine(?_:c.dp+8<aH);exact hd) (by refine(?_:c.un+2+1+60<cT);exact hu) hq) F5 N5 hn O (λp hp=>aB (J p (bk 2 hp))) (aF (aO l2 l3)) (aF l2) (aB (J (q,_) (zH))) (aB (J (NA,_) (a8 1 rfl))) ?_;intro S mk M c2 h6 aa e1 e2 e3 e4 F6 N6
  exact hQ _ _ _ ⟨S,mk,M,c2,e1,e2,e3,e4⟩ (i5.to F6 N6)) c1⟩
end
section
variable {τ:Nat→Tok}{d:Nat→Value}{cs:Scope}{c:Fm W0 cs}{m:Lo}{N:Ns}{R:Re}{rest:List Stmt}{S D:Addr}{n:Nat}
theorem H5(K:MT W0)(i:Nat){e val:PE}{name:Str}{z pos:Pos}{P:Value→Ns→Prop}(U:@Ne Nat S D)(hv:Er c.cx m ((S,cY 278 D)::(D,SO W0 τ d n)::N) val P)(he:∀n,Ev c.cx m n e (.val (.ref S)))
  (hP:∀v n1,P v n1→∃G,(∀p∈(S,cY 278 D)::(D,SO W0 τ d n)::G,p∈n1)∧(∀p∈G,p.1≠D)∧∀u,(i<n→u = τ)→cK c m ((S,cY 278 D)::(D,SO W0 u (di d i v) (max n (i+1)))::G) rest R)
  (hi:autoParam (i≤n) zAd) (h9:autoParam (i<10) zAd) (h10:autoParam (n≤10) zAd) (hn:autoParam (name=nm i) zAa) (hq:autoParam (f0 val (some (.Attribute e name z)) pos.line c.env=ck false) zAa):
  cK c m ((S,cY 278 D)::(D,SO W0 τ d n)::N) (.Assign [.Attribute e name z] val pos::rest) R:=by
 subst hn
 refine bK ⟨λQ s J hQ=>xw (hv.run _ s J λv1 n1 s1 H i1=>(he _).run _ s1 i1 λv2 s2 d2 i2=>by
  cases d2;obtain ⟨G,sub,O,hr⟩:=hP _ _ H;have i3:=i2.sub sub;refine CN i3.at.1 c.X i3.at.2 (gh i3.at.2 (zH) (zT (zH))) rfl K.c.s K.c.p (K.atr i h9).t K.c.h (rC h9 hi h10) rfl (.tail U (.head O)) ((mf h9 hi h10).elim λ_ x=>x.2.2) λh' Y B=>?_;obtain ⟨u,x,y,_⟩:=mf (τ:=τ) (d:=d) (v:=v1) (t:=s2.toks+1) h9 hi h10;rw[x] at B
  exact hQ .next _ _ _ (hr u y) (i3.to Y B)) hq⟩
end
section
variable {τ:Nat→Tok}{d:Nat→Value}{N:Ns}{S D la lb lj lk:Addr}{ea eb:Nat}{va vb:List Value}{xs ys:List Int}{oj:Obj}{kvj:List (Int×Value)}{led:Bool}
inductive RN(W0:World)(S D:Addr)(τ:Nat→Tok)(d:Nat→Value)(xs ys:List Int)(N:Ns):Value→Ns→Prop
 | mk (r:Addr) (mk:List (Addr×Int)) (c:Nat) (T:Ns) (h1:pM xs ys 0 xs.length 0 ys.length (ee mk)) (h2:mk.length≤34) (h3:∀q∈mk,0≤q.2) (h4:∀q∈mk,sL T q) (h5:∀p∈N,p∈T) (h6:∀p∈T,p.1≠D) (h7:∀p∈T,p.1≠r) (h8:@aP Nat _ D r):RN W0 S D τ d xs ys N (.ref r) ((r,listOf (refsOf mk).toArray c)::SL W0 S D τ (di d 4 (.ref r)) 10 T)
theorem Ll(d1:@Ne Nat S D)(dN:∀p∈N,p.1≠D)(h1:d 1=.ref la)(h2:d 2=.ref lb)(h4:d 4=.none)(h7:d 7=.ref lj)(h8:d 8=.ref lk)(aj:(la,listOf va.toArray ea)∈N)(ah:(lb,listOf vb.toArray eb)∈N)(a0:(lj,oj)∈N)(aQ:(lk,dt led)∈N)(U:au va xs)(O:au vb ys)(J:xs.length≤32)(H:ys.length≤32)(ax:ys.Nodup)(a5:nY W0 oj kvj)(as:(lj==cN)=false)(a6:yM ys kvj N):
  fg W0 239 [.ref S] (SL W0 S D τ d 10 N) 9 70 (RN W0 S D τ d xs ys N):=
 have hf:fF (hd.heap_1 W0.params) (.ref 171) "__iter__"=some (some (.builtin "tuple.__iter__")):=by with_unfolding_all rfl
 have aM:fF (hd.heap_1 W0.params) (.ref 171) "__lt__"=some (some (.builtin "tuple.__lt__")):=by with_unfolding_all rfl
 have ab:lm (hd.heap_1 W0.params) 171 (.type "tuple")=some true:=by with_unfolding_all rfl
 lf (body:=mB 7) (scope:=mS 7) (binds:=[("self",.ref S)]) (by with_unfolding_all rfl) (by with_unfolding_all rfl) (λs X=>dB rfl) (ss rfl) rfl rfl rfl (by decide) λc hd hu=>by
  show cK c _ _ (.Expr (.Constant (.str _) _ _) _::.If (.Compare (.Attribute (.Name "self" _) "matching_blocks" _) [.IsNot] [.Constant .none _ _] _) _ [] _::.Assign [.Tuple _ _ _] (.Tuple [.Call (.Name "len" _) [.Attribute (.Name "self" _) "a" _] [] _,.Call (.Name "len" _) [.Attribute (.Name "self" _) "b" _] [] _] _ _) _::.Assign [.Name "queue" _] (.List [.Tuple [.Constant (.int 0) _ _,.Name "la" _,.Constant (.int 0) _ _,.Name "lb" _] _ _] _) _::.Assign [.Name "matching_blocks" _] (.List [] _) _::oL 7 5::oL 7 6::oL 7 7::oL 7 8::oL 7 9::oL 7 10::oL 7 11::.Assign [.Attribute (.Name "self" _) "matching_blocks" _] (.Call (.Name "list" _) [.Call (.Name "map" _) [.Attribute (.Name "Match" _) "_make" _,.Name "non_adjacent" _] [] _] [] _) _::.Return (some (.Attribute (.Name "self" _) "matching_blocks" _)) _::[]) _
  have za:va.length≤1000:=by rw[U.length];exact rZ J (bR true)
  have zb:vb.length≤1000:=by rw[O.length];exact rZ H (bR true)
  refine g6 (dz (G7 (gK nt 4 (am rfl) (zH) (zT (zH)) h4 rfl) gN) (λh=>bH h) λ_=>bQ ?_);refine sh (ku cO (gK nt 1 (am rfl) (zH) (zT (zH)) h1 rfl) (bk 2 aj) za) (ku cO (gK nt 2 (am rfl) (zH) (zT (zH)) h2 rfl) (bk 2 ah) zb) λta tb=>?_;refine dG (rA (P':=λv n'=>∃QU z t1 t2 t3 t4,v=.ref QU∧n'=(QU,listOf [bF z].toArray 0)::(z,dO #[.int 0 t1,.int (va.length:Int) t2,.int 0 t3,.int (vb.length:Int) t4])::SL W0 S D τ d 10 N∧@aP Nat _ z QU∧∀p∈SL W0 S D τ d 10 N,@aP Nat _ p.1 z) (tF bf (ai rfl) bf (ai rfl)) ?_) ?_
  .rintro v n' QU ⟨z,t1,t2,t3,t4,rfl,rfl,l⟩ l2
   exact⟨QU,z,t1,t2,t3,t4,rfl,rfl,l2 (z,_) (zH),l⟩
  rintro v n' ⟨QU,z,t1,t2,t3,t4,rfl,rfl,lQ,lD⟩;refine dG mY ?_;rintro v n' ⟨MB,rfl,rfl,lM⟩;rw[U.length,O.length];have oQ:∀p∈SL W0 S D τ d 10 N,@aP Nat _ p.1 QU:=λp hp=>aO (lD p hp) lQ;have oM:∀p∈SL W0 S D τ d 10 N,@aP Nat _ p.1 MB:=λp hp=>lM p (bk 2 hp);have ap:@Ne Nat MB QU:=aF (lM (QU,_) (zH));have dM:∀p∈[(S,cY 278 D),(D,SO W0 τ d 10)],p.1≠MB:=FC (aB (oM _ (zH))) (FC (aB (oM (D,_) (a8 1 rfl))) FN);have dQ:∀p∈[(S,cY 278 D),(D,SO W0 τ d 10)],p.1≠QU:=FC (aB (oQ _ (zH))) (FC (aB (oQ (D,_) (a8 1 rfl))) FN);refine cL (n':=(MB,listOf (refsOf ([]:List (Addr×Int))).toArray 0)::(QU,listOf (refsOf [(z,Rect.mk 0 xs.length 0 ys.length)]).toArray 0)::([(S,cY 278 D),(D,SO W0 τ d 10)]++(z,dO #[.int 0 t1,.int (xs.length:Int) t2,.int 0 t3,.int (ys.length:Int) t4])::N)) ?_ (iz [0,1,3,4,2] 5 rfl);refine EZ (c:=c) hf ab ap dM dQ (a8 1 rfl) ?hcall ⟨_,_,_,_,_,⟨rfl,rfl,rfl,rfl,rfl⟩,rfl,rfl,EY J H (λp hp=>aB (oM p (bk 2 hp))) (λp hp=>aB (oQ p (bk 2 hp))) dN (aB (lM (z,_) (a8 1 rfl))) (aB lQ) (aF (lD (D,_) (a8 1 rfl)))⟩ λm n hE=>HW hf aM ab (by show c.un+1<cT;exact zJ hu (bR true)) ap dM (a8 1 rfl) hE ?_
  case hcall=>
   intro m o1 o2 T q bm bl bh bb hK m1 m2 m3 m4 u hT;show Er c.cx m _ (.Call (.Attribute (.Name "self" _) "find_longest_match" _) [.Name "alo" _,.Name "ahi" _,.Name "blo" _,.Name "bhi" _] [] _) _;refine Ag (n':=SL W0 S D τ d 10 ((MB,o1)::(QU,o2)::T)) (Ir (pI (Lq (τ:=τ) (d:=d) (n:=10) (N:=(MB,o1)::(QU,o2)::T) (by decide) h1 h2 h7 h8 (bk 2 (hT _ aj)) (bk 2 (hT _ ah)) (bk 2 (hT _ a0)) (bk 2 (hT _ aQ)) U O J H ax a5 as (jU a6 λp hp=>bk 2 (hT p hp)) u.1 u.2.1 u.2.2.1 u.2.2.2.1 u.2.2.2.2.1 u.2.2.2.2.2) (am hK.s) (.cons (am m1) (.cons (am m2) (.cons (am m3) (.cons (am m4) .nil)))) (zH) (zT (zH)) (iA (n:=10) λi hi=>nK (by decide) hi) (dl hd) (dl hu) rfl) (λn'=>n'.take 1++(MB,o1)::(QU,o2)::([(S,cY 278 D),(D,SO W0 τ d 10)]++T)) ?_) (iz [2,3,0,1] 4 rfl);rintro v n' ⟨bi,bj,bs,w1,w2,w3,r,dx,hb,hl⟩;exact⟨iz [0,3,4,1,2] 5 rfl,bi,bj,bs,w1,w2,w3,r,dx,rfl,zH,hb,rfl,λp hp=>hl p (iz [2,3,0,1] 4 rfl p hp)⟩
  intro m na ne NA T3 aa aD a4 hpos G Y ar eT bo br;refine cL (n':=(S,cY 278 D)::(D,SO W0 τ d 10)::(NA,listOf (refsOf na).toArray ne)::T3) ?_ (iz [1,2,0] 3 rfl);refine H5 nt 4 d1 (Ag (n':=(NA,listOf (refsOf na).toArray ne)::SL W0 S D τ d 10 T3) (Il (hd) (zJ hu (bR true)) rfl (λ_=>cO) (λ_=>cO) (λ_=>fT) (λ_=>am aD) (aw G (by decide)) λq hq=>(a4 q hq).mono λp hp=>bk 2 hp) (iz [2,0,1] 3 rfl)) (λ_=>am aa) ?_;rintro v n1 ⟨r,mk,M,c2,e1,e2,e3,e4⟩;have B:@aP Nat _ D r:=e4 (D,_) (a8 1 rfl);refine⟨(r,listOf (refsOf mk).toArray c2)::(M++T3),FC (zT (zR (zH))) (FC (zT (zR (a8 1 rfl))) (FC (zH) (FA (λp hp=>zT (zL hp)) λp hp=>zT (zR (bk 2 hp))))),FC (aF B) (FA (λp hp=>aF (aO B (e3 p hp))) eT),λa7 e=>?_⟩;cases e (by decide);refine cL (n':=(r,listOf (refsOf mk).toArray c2)::SL W0 S D τ (di d 4 (.ref r)) 10 (M++T3)) (pG (gK nt 4 (am aa) (a8 1 rfl) (a8 2 rfl) rfl rfl) ?_) (iz [2,0,1] 3 rfl);rintro v rfl;exact⟨r,mk,c2,M++T3,Hf e1▸Y,by rw[KL e1];exact G,Kd e1 hpos,λq hq=>(e2 q hq).mono λp hp=>zL hp,λp hp=>zR (ar p hp),FA (λp hp=>aF (aO B (e3 p hp))) eT,FA (λp hp=>aF (e3 p hp)) λp hp=>aB (e4 p (bk 2 hp)),B⟩
end
inductive Gz(xs ys:List Int)(v4:Value)(T:Ns):Prop
 | mk (r:Addr) (mk:List (Addr×Int)) (c:Nat) (z0:v4=.ref r) (z1:(r,listOf (refsOf mk).toArray c)∈T) (z2:pM xs ys 0 xs.length 0 ys.length (ee mk)) (z3:mk.length≤34) (z4:(∀x∈mk,0≤x.2)) (z5:∀x∈mk,sL T x)
theorem Gz.mono(h:Gz xs ys v4 T)(s:∀p∈T,p∈T'):Gz xs ys v4 T':=
 let ⟨r,u,c,a,b,d,e,f,g⟩:=h;⟨r,u,c,a,s _ b,d,e,f,λx z=>(g x z).mono s⟩
theorem wg
  (B:qU A₀ base outer h₀) (F:Fr h₀ L s.heap m) (X:(hd.heap_1 W0.params).In h₀) (N:ba h₀ L s.heap n) (T:Top gp gl mean mg mb h₀) (hk:cs.kind=.function)
  (hE:lG (aq P0 W0) (ic dp un gd cn cs L a ccd cl outer) (yU cn cs L a ccd cl) E)
  (h:∀c:Fm W0 cs,c.dp=dp→c.un=un→c.ccd=ccd→c.h₀=h₀→c.L=L→c.s=s→c.P=(λ_=>True)→c.Is m n s→ay (aq P0 W0) c.A (kz body c.env) Q c.E s):
  ay (aq P0 W0) (ic dp un gd cn cs L a ccd cl outer) (kz body (yU cn cs L a ccd cl)) Q E s:=
 h ⟨gp,gl,mean,mg,mb,dp,un,gd,cn,L,a,ccd,cl,outer,A₀,base,h₀,s,E,λ_=>True,B,X,T,hk,hE,λ_ _=>trivial⟩ rfl rfl rfl rfl rfl rfl rfl ⟨s.heap,s.toks,rfl,F,N⟩
theorem LI(e:¬nb (bE b)=true)(hz:¬vG (bE b)=true)(h:Q (.float (ji x (bE b)) s.toks) {s with toks:=s.toks+1}):ay (aq P0 W0) A (CK .Div (.float x t) (.int b u)) Q E s:=sV e hz h
theorem Pa{cs:Scope}{c:Fm W0 cs}{m:Lo}{n:Ns}{f e1 e2:PE}{pos:Pos}{a b:Int}{Q:VP}{s:Shared}(ha:a.natAbs<2 ^ 20)(hb:0<b)(G:b<2 ^ 20)(hf:Ev c.cx m n f (.val (.ref 181)))(h1:Ev c.cx m n e1 (.int a))(h2:Ev c.cx m n e2 (.int b))(hd:c.dp+1<aH)(hk:cs.kind=.function)(hi:c.Is m n s)
  (hq:∀(h':Heap) (t:Tok),t≠0→Fr c.h₀ c.L h' m→ba c.h₀ c.L h' n→Q (.float (nL a b) t) {s with heap:=h',toks:=t+1})
  (c1:autoParam (CC c.env f [e1,e2] pos) zAa) (c2:autoParam (SE c.env e1 [e2]) zAa) (c3:autoParam (SE c.env e2 []) zAa):ay (aq P0 W0) c.A (eval (.Call f [e1,e2] [] pos) c.env) Q c.E s:=
 gq (hf.run _ s hi λv s1 d1 i1=>by
  cases d1;refine lF c.X (by with_unfolding_all rfl) ?_ c2 (hplain:=by refine(?_:(ff pos (bV [e2] c.env)).any (·.1)=false);rw[show _=_ from c3];rfl);refine aI (h1.run _ s1 i1 λv1 s2 d2 i2=>aI (h2.run _ s2 i2 λv2 s3 d3 i3=>bJ ⟨c.X.keeps i3.at.1.keep,?_⟩) c3) c2;obtain ⟨t,rfl⟩:=d2;obtain ⟨u,rfl⟩:=d3;obtain ⟨h0,tk0,rfl,_,_⟩:=hi;obtain ⟨h3,Y,rfl,F3,N3⟩:=i3;refine ev (xg (scope:=tw P0.main.body 6) (body:=vh P0.main.body 6) (binds:=[("matches",.int a t),("length",.int b u)]) c.B F3 c.X N3 c.T rfl rfl hk (by with_unfolding_all rfl) (by with_unfolding_all rfl) (by refine(?_:c.dp<_);exact C9 hd) (dB rfl) (ss rfl) (λg L' H FG F' N' B' X' T'=>?_) rfl rfl rfl (by decide));refine wg (cs:=tw P0.main.body 6) B' F' X' N' T' rfl (by passes_own) λc' ab aa _ hh hL hs _ z=>?_;refine fh (Mo ((ke (k:=c'.cx) (i:=b) (ai (k:=c'.cx) (x:="length") (t:=u) rfl)).run _ _ z λs4 e=>?_));rw[if_pos (bne_iff_ne.mpr (C5 hb))];refine fh (iO (dX (dX (Mp (c'.cx.load e.toks (v:=.int a t) rfl rfl (by decide) (mul_fi_fits (aO ha (by decide +kernel)) ?_))))));refine c'.cx.load (e.toks (tk:=_)) (v:=.int b u) rfl rfl (by decide) (LI (rK (aO (Ma (cS [b] 1 Y0 Z0 1 (.a Y0 Y1) Z0 rfl hb) (cS [b] 1 (.a Z0 Y1) (.k 1048576) 1 (.a Z0 Y1) (.k (2 ^ 20)) rfl G):b.natAbs<2 ^ 20) (by decide +kernel))) (Kl hb) ?_);obtain ⟨h4,U,rfl,O,J⟩:=e;rw[hh,hL] at O J;refine' tS ?fa ?na λkF kN=>?_
  case fa=>exact O
  case na=>exact J
  rw[hs]
  exact hq h4 _ (Nat.succ_ne_zero _) kF kN) c1
structure tO(W0:World)(f:Addr)(args:List Value)(n:Ns)(dp un:Nat)(P:Value→Ns→Nat→Prop):Prop where
 run:∀{gp:Program}{gl:List Str}{mean:ExcName→Option Value}{mg mb:Lo}{dp0 un0:Nat}{gd:Option (List sR)}{cn:Str}{cs:Scope}{a:Addr}{ccd:Value}{cl:List (Str×Addr)}{outer:List Env}{A₀:Around}{base h₀:Heap}{L:Addr}{m:Lo}{s:Shared}{Q E:VP},
  qU A₀ base outer h₀→Fr h₀ L s.heap m→(K1 W0).In h₀→ba h₀ L s.heap n→Top gp gl mean mg mb h₀→cs.kind=.function→dp0+dp<aH→un0+un<cT→du s.gens→
  (∀v n' s',P v n' s'.toks→du s'.gens→s'.os=s.os→Fr h₀ L s'.heap m→ba h₀ L s'.heap n'→Q v s')→ay (aq P0 W0) (ic dp0 un0 gd cn cs L a ccd cl outer) (call (.ref f) args) Q E s
theorem Bo{f:Addr}{args:List Value}{n:Ns}{dp un:Nat}{P:Value→Ns→Nat→Prop}{name qual:Str}{params:j8}{body:List Stmt}{scope:Scope}{dV kV doc pm e ct oc:Value}{an od:Option Addr}{J:Array (Option Value)}{binds:List (Str×Value)}
  (ho:(K1 W0).lookup f=some ⟨oc,od,.func (Mz name qual params body scope dV kV doc pm an e ct),J⟩) (ab:codeIn (K1 W0) e qual=true)
  (z:∀s:Shared,(K1 W0).In s.heap→I5 s (Mz name qual params body scope dV kV doc pm an e ct) ⟨args,[]⟩ binds) (G:∀y∈binds,scope.names.lookup y.1=some .local) (aa:scope.isCoroutine=false) (H:scope.isGenerator=false) (hk:scope.kind=.function) (u:∀x∈scope.names,x.2≠.cell)
  (h:∀(c:Fm W0 scope) (Q:FP),c.dp+dp<aH→c.un+un<cT→c.ccd=e→c.P=(λ_=>True)→du c.s.gens→c.Is (λy=>binds.reverse.lookup y) n c.s→(∀v m' n' s',P v n' s'.toks→du s'.gens→s'.os=c.s.os→Fr c.h₀ c.L s'.heap m'→ba c.h₀ c.L s'.heap n'→Q (.ret v) s')→ay (aq P0 W0) c.A (kz body c.env) Q c.E c.s):tO W0 f args n (dp+1) (un+3) P:=
 ⟨λ{gp gl mean mg mb dp0 un0 gd cn cs a ccd cl outer A₀ base h₀ L m s Q E} B F X N T U hd hu hG hq=>ev (xg B F X N T rfl rfl U ho ab (by show _<aH;simp only;exact C9 hd) (z _ (X.keeps F.keep)) G (λg L' aj FG F' N' B' X' T'=>by
  refine wg (cs:=scope) B' F' X' N' T' hk (by passes_own) λc Y O ah hh hL hs hP hi=>hs▸h c _ (by rw[Y];simp only;exact ltN (cS [dp0,dp,aH] 1 (.a (.a (.a Z0 Y1) Z1) Y1) Z2 1 (.a (.a Z0 (.a Z1 Y1)) Y1) Z2 rfl (d9 hd))) (by rw[O];simp only;exact ltN (cS [un0,un,cT] 1 (.a (.a (.a Z0 (.k 3)) Z1) Y1) Z2 1 (.a (.a Z0 (.a Z1 (.k 3))) Y1) Z2 rfl (d9 hu))) ah hP (by rw[hs];exact hG) (by rw[hs];exact hi) λv m' n' s' hp hB ho F2 N2=>?_;rw[hh,hL] at F2 N2
  exact tS F2 N2 λkF kN=>hq _ _ _ hp hB (ho.trans (by rw[hs])) kF kN) aa H hk u)⟩
section
variable {τ:Nat→Tok}{d:Nat→Value}{N:Ns}{S D la lb lj lk:Addr}{ea eb:Nat}{va vb:List Value}{xs ys:List Int}{oj:Obj}{kvj:List (Int×Value)}{led:Bool}{ps:Array Value}
inductive Q7(W0:World)(S D:Addr)(τ:Nat→Tok)(d:Nat→Value)(xs ys:List Int)(N:Ns):Value→Ns→Prop
 | mk (r:Addr) (mk:List (Addr×Int)) (c:Nat) (T n':Ns) (h1:pM xs ys 0 xs.length 0 ys.length (ee mk)) (h2:mk.length≤34) (h3:∀q∈mk,0≤q.2) (h4:∀q∈mk,sL T q) (h5:∀p∈N,p∈T) (h6:∀p∈T,p.1≠D) (h8:d 4=.ref r∨@aP Nat _ D r) (hr0:∀r0,d 4=.ref r0→r=r0) (h9:@Ne Nat r D) (sub:∀p∈(r,listOf (refsOf mk).toArray c)::SL W0 S D τ (di d 4 (.ref r)) 10 T,p∈n'):Q7 W0 S D τ d xs ys N (.ref r) n'
theorem OP(u:∀p∈N,p.1≠D)(h4:d 4=.ref r)(hr:(r,listOf (refsOf mk).toArray B)∈N)(hT:pM xs ys 0 xs.length 0 ys.length (ee mk))(hl:mk.length≤34)(hp:∀q∈mk,0≤q.2)(z:∀q∈mk,sL N q):fg W0 239 [.ref S] (SL W0 S D τ d 10 N) 9 70 (Q7 W0 S D τ d xs ys N):=
 lf (body:=mB 7) (scope:=mS 7) (binds:=[("self",.ref S)]) (by with_unfolding_all rfl) (by with_unfolding_all rfl) (λs X=>dB rfl) (ss rfl) rfl rfl rfl (by decide) λc hd hu=>by
  refine g6 (dz (G3 (gK nt 4 (am rfl) (zH) (zT (zH)) h4 rfl) gN) (λ_=>pG (gK nt 4 (am rfl) (zH) (zT (zH)) h4 rfl) ?_) (λh=>bH h));rintro v rfl
  have ed:di d 4 (.ref r)=d:=funext λj=>((Jc (j=4)).elim (λe=>(if_pos e).trans (e▸h4.symm)) λe=>if_neg e:(if j=4 then bF r else d j)=d j)
  exact⟨r,mk,B,N,_,hT,hl,hp,z,λp hp=>hp,u,.inl h4,λr0 e=>GL (h4.symm.trans e),u _ hr,by rw[ed];exact FC (bk 2 hr) λp hp=>hp⟩
theorem HV(d1:@Ne Nat S D)(dN:∀p∈N,p.1≠D)(h1:d 1=.ref la)(h2:d 2=.ref lb)(h4:d 4=.none∨Gz xs ys (d 4) N)(h7:d 7=.ref lj)(h8:d 8=.ref lk)(Y:(la,listOf va.toArray ea)∈N)(U:(lb,listOf vb.toArray eb)∈N)(O:(lj,oj)∈N)(J:(lk,dt led)∈N)(aj:au va xs)(ah:au vb ys)(G:xs.length≤32)(z:ys.length≤32)(H:ys.Nodup)(aa:nY W0 oj kvj)(u:(lj==cN)=false)(ab:yM ys kvj N):
  fg W0 239 [.ref S] (SL W0 S D τ d 10 N) 9 70 (Q7 W0 S D τ d xs ys N):=by
 rcases h4 with h4|⟨r,mk,c0,h4,hr,hT,hl,hp,hM⟩
 .refine⟨λB F X Nn T hk hd hu hq=>(Ll d1 dN h1 h2 h4 h7 h8 Y U O J aj ah G z H aa u ab).run B F X Nn T hk hd hu λv n' h' tk' hP F' N'=>hq v n' h' tk' ?_ F' N'⟩
  cases hP with|mk r mk c T h1 h2 h3 ap h5 h6 h7 h8=>exact⟨r,mk,c,T,_,h1,h2,h3,ap,h5,h6,.inr h8,(λr0 e=>nomatch (h4.symm.trans e)),aF h8,λp hp=>hp⟩
 .exact OP dN h4 hr hT hl hp hM
theorem jF{cs:Scope}{c:Fm W0 cs}{m:Lo}{n:Ns}{s:Shared}(h:c.Is m n s):s.gens=c.s.gens∧s.os=c.s.os:=by obtain ⟨h',tk,rfl,F,N⟩:=h;exact⟨rfl,rfl⟩
inductive Jx(W0:World)(S D:Addr)(τ:Nat→Tok)(d:Nat→Value)(xs ys:List Int)(N:Ns):Value→Ns→Nat→Prop
 | mk (t:Tok) (ht0:t≠0) (r:Addr) (mk:List (Addr×Int)) (c:Nat) (T:Ns) (ps':Array Value) (n':Ns) (h1:pM xs ys 0 xs.length 0 ys.length (ee mk)) (h2:mk.length≤34) (h3:∀q∈mk,0≤q.2) (h4:∀q∈mk,sL T q) (h5:∀p∈N,p∈T) (h6:∀p∈T,p.1≠D) (h7:∀p∈T,p.1≠256) (h8:d 4=.ref r∨@aP Nat _ D r) (hr0:∀r0,d 4=.ref r0→r=r0) (h9:@Ne Nat r D) (h10:@Ne Nat r 256) (ht:dZ ps'.toList) (sub:∀p∈(256,bS ps')::(r,listOf (refsOf mk).toArray c)::SL W0 S D τ (di d 4 (.ref r)) 10 T,p∈n'):Jx W0 S D τ d xs ys N (.float (nL (ee mk) ((xs.length:Int)+(ys.length:Int))) t) n' (t+1)
theorem xO(d1:@Ne Nat S D)(dN:∀p∈N,p.1≠D)(d6:@Ne Nat 256 D)(nS:@Ne Nat S 256)(sN:∀p∈N,p.1≠256)(h1:d 1=.ref la)(h2:d 2=.ref lb)(h4:d 4=.none∨Gz xs ys (d 4) N)(h7:d 7=.ref lj)(h8:d 8=.ref lk)(aj:(la,listOf va.toArray ea)∈N)(ah:(lb,listOf vb.toArray eb)∈N)(bv:(lj,oj)∈N)(br:(lk,dt led)∈N)(U:au va xs)(H:au vb ys)(aa:xs.length≤32)(O:ys.length≤32)(a5:0<ys.length)(bm:ys.Nodup)(b0:nY W0 oj kvj)(a4:(lj==cN)=false)(b5:yM ys kvj N)(bl:dZ ps.toList):
  tO W0 261 [.ref S] ((256,bS ps)::SL W0 S D τ d 10 N) 11 74 (Jx W0 S D τ d xs ys N):=
 Bo (body:=mB 10) (scope:=mS 10) (binds:=[("self",.ref S)]) (by with_unfolding_all rfl) (by with_unfolding_all rfl) (λs X=>dB rfl) (ss rfl) rfl rfl rfl (by decide) λc Q hd hu b4 b6 hG hi hq=>by
  show ay (aq P0 W0) c.A (kz (.Expr (.Constant (.str _) _ _) _::.Assign [.Name "matches" _] (.Call (.Name "sum" _) [.GeneratorExp (.Subscript (.Name "triple" _) (.UnaryOp .USub (.Constant (.int 1) _ _) _) _) [⟨.Name "triple" _,.Call (.Attribute (.Name "self" _) "get_matching_blocks" _) [] [] _,[],0⟩] _ _] [] _) _::.Return (some (.Call (.Name "_calculate_ratio" _) [.Name "matches" _,.BinOp (.Call (.Name "len" _) [.Attribute (.Name "self" _) "a" _] [] _) .Add (.Call (.Name "len" _) [.Attribute (.Name "self" _) "b" _] [] _) _] [] _)) _::[]) c.env) Q c.E c.s;have hs:(λy=>([("self",.ref S)]:List (Str×Value)).reverse.lookup y) "self"=some (.ref S):=rfl;revert hs hi;generalize (λy=>([("self",.ref S)]:List (Str×Value)).reverse.lookup y)=m;intro hi hs;have za:va.length≤32:=U.length▸aa;have zb:vb.length≤32:=H.length▸O;have z0:0<vb.length:=H.length▸a5;refine fh (ib (wpAny_Constant_str (fh (gO (gq ((cO (v:=.builtin "sum")).run _ _ hi.toks λv s1 cc i1=>?_) (by rfl)) (by rfl)))) (by rfl) (by rfl));cases cc;refine callWith_builtin1 (aI (E0 (P:=256) (c:=260) (cl:=[]) i1.at.1 c.T (MA c.X (by kernel_rfl)) rfl b4 rfl rfl rfl (by decide) rfl rfl rfl (show c.dp<aH by exact C9 hd) ?src (by intro _;rfl)) (by rfl)) (by rfl)
  case src=>
  refine(Ag (n':=SL W0 S D τ d 10 ((256,bS ps)::N)) (rz (HV d1 (FC d6 dN) h1 h2 (h4.imp id λh=>h.mono λp hp=>zT hp) h7 h8 (zT aj) (zT ah) (zT bv) (zT br) U H aa O bm b0 a4 (jU b5 λp hp=>zT hp)) (am hs) (zH) (zT (zH)) (iA (n:=10) λi hi=>nK (by decide) hi) (dl hd) (dl hu) rfl) (iz [1,2,0] 3 rfl)).run _ s1 i1 ?_;rintro v n' s2 ⟨r,mk,c0,T,n',J,ab,hpos,aD,G,as,bi,hr0,bh,sub⟩ i2;have N2:=cm i2.at.2 sub;have hP:(256,bS ps)∈T:=G _ (zH);have hM:∀q∈mk,sL (T.filter λp=>p.1 != 256) q:=λq hq=>HS (a:=[(r,listOf (refsOf mk).toArray c0),(S,cY 278 D),(D,SO W0 τ (di d 4 (.ref r)) 10)]) N2 hP (aD q hq);have N3:=Dy (a:=[(r,listOf (refsOf mk).toArray c0),(S,cY 278 D),(D,SO W0 τ (di d 4 (.ref r)) 10)]) N2 hP;have er:r≠256:=zm N3 (a8 1 rfl) (zH) (λz=>nomatch z);have u:=Kf (P:=256) (λp hp=>G p (zT hp)) sN;have ar:∀p∈T.filter λp=>p.1 != 256,p.1≠D:=ko as;have B:∀p∈T.filter λp=>p.1 != 256,p.1≠256:=uq;clear N2 hP aD G as sub;generalize (T.filter λp=>p.1 != 256)=T2 at *
  have hz:ee mk≤1000:=by have:=Du J (j0) (j0);exact eQ [ee mk,ys.length] 1 Z0 (.k 1000) 1 Z0 (.s Z1 Y0) 1 Z1 (.k 32) rfl this.2.2 (d9 O)
  have bb:=lR hpos;refine iF ⟨r,(refsOf mk).toArray,c0,ps,SL W0 S D τ (di d 4 (.ref r)) 10 T2,λi y=>∃t,y=fn (vq mk i) t,rfl,i2.at.1,cm N3 (iz [1,0] 2 rfl),bl,(jF i2).1▸hG,er,FC nS (FC d6.symm B),?_,?_⟩
  .intro A2 E2 i v cn m2 Cx code hA hv hn bo hk2
   obtain ⟨q,hq,rfl⟩:=mH (ms:=mk) (by simpa using hv);obtain ⟨dx,i1,j1,x1,x2,x3,ap⟩:=hM q (cq hq);have ht:=N3 (256,bS ps) (zH);have bj:=hk2 q.1 _ (B _ ap) (N3 _ (bk 4 ap)).1;have X2:=c.X.keeps λb o e=>hk2 b o (λz=>by rw[z,ht.2.2] at e;cases e) (i2.at.1.keep b o e);refine cg (Ft (K:=K1 W0) X2 (by with_unfolding_all rfl) (by with_unfolding_all rfl) (by with_unfolding_all rfl) rfl rfl (by decide) hn bo bj) (λy s3 hy=>?_) λ_ _ e=>e;obtain ⟨⟨t,rfl⟩,hkp⟩:=hy;exact⟨⟨t,by unfold vq;rw[hq];rfl⟩,hkp⟩
  intro ga s5 ps' Kb a7 F5 N5 G5 a0 ca aM X5;refine bJ (BK F5 N5 G5 ca aM X5 hpos hz λY t6 F6 N6 G6 aQ=>?_)
  have ax:∀h tk,c.P {Y with heap:=h,toks:=tk}:=λh tk=>by rw[b6];trivial
  refine dm (c:=c.on Y ax) (m:=m) ⟨Y.heap,Y.toks,rfl,F6,N6⟩ (λs7 i7=>?_) rfl;refine fh (iO (Pa (c:=c.on Y ax) (a:=ee mk) (b:=(va.length:Int)+(vb.length:Int)) (Ma (cS [ee mk] 1 Y0 Z0 1 Y0 Z0 rfl bb) (cS [ee mk] 1 (.a Z0 Y1) (.k 1048576) 1 Z0 (.k 1000) rfl hz)) (eQ [va.length,vb.length] 1 (.a Y0 Y1) (.a Z0 Z1) 1 (.a Y0 Y1) Z1 1 Y0 Z0 rfl (d9 z0) j0) (eQ [va.length,vb.length] 1 (.a (.a Z0 Z1) Y1) (.k (2 ^ 20)) 1 Z1 (.k 32) 1 Z0 (.k 32) rfl (d9 zb) (d9 za)) fT (ai cW) (ec (ku cO (gK (τ:=τ) (d:=di d 4 (.ref r)) (n:=10) nt 1 (am (bc hs)) (a8 2 rfl) (a8 3 rfl) h1 rfl) (bk 4 (u _ aj)) (aw za (by decide))) (ku cO (gK (τ:=τ) (d:=di d 4 (.ref r)) (n:=10) nt 2 (am (bc hs)) (a8 2 rfl) (a8 3 rfl) h2 rfl) (bk 4 (u _ ah)) (aw zb (by decide)))) (dl (a:=c.dp) hd) rfl i7 λh8 t8 a6 F8 N8=>?_));obtain ⟨h7,cd,rfl,F7,N7⟩:=i7;rw[U.length,H.length];exact hq _ _ _ _ ⟨t8,a6,r,mk,c0,T2,ps',_,J,ab,hpos,hM,u,ar,B,bi,hr0,bh,er,a7,iz [1,0] 2 rfl⟩ G6 (aQ.trans (a0.trans (jF i2).2)) F8 N8
end
end
section
open W PyProof.Rows
noncomputable def ST(W0:World)(ys:List Int)(R:List (Addr×List Int))(av v4 v6:Value)(T:Ns):Prop:=
 AV av T∧(v6=.none∨∃(fb:Addr) (oF:Obj) (kvF:List (Int×Value)),v6=.ref fb∧(fb,oF)∈T∧nY W0 oF kvF∧FB ys kvF∧(fb==cN)=false)∧(v4=.none∨∃z∈R,av=.ref z.1∧Gz z.2 ys v4 T)
theorem DJ{M:Model}{A:Around}{E:VP}{s u:Shared}{body:List Stmt}{env:Env}{h₀:Heap}{L I l:Addr}{oI lo:Obj}{J:(Lo)→Ns→Nat→Prop}{Q:FP}
  (h:∀z:ve→Shared→Prop,(∀(m':Lo) (n':Ns) (tb:Nat) (s':Shared),tb≤s'.toks→Fr h₀ L s'.heap m'→ba h₀ L s'.heap ((I,oI)::(l,lo)::n')→du s'.gens→s'.os=u.os→(∀p∈n',p.1≠I)→J m' n' tb→z .next s')→ay M A (kz body env) z E s):
  ay M A (kz body env) (uW h₀ L I oI l lo u J Q) E s:=h _ λ_ _ _ _ a b c d e f g=>DI a b c d e f g
end
section
open W PyProof Rows Mine
section
variable {cs:Scope}{c:Fm W0 cs}{sc:Scope}{k:Cx c sc}{m:Lo}{n:Ns}{R:Re}{rest:List Stmt}{x C D:Addr}{es:List DictEntry}{en:Nat}{name:Str}
theorem iY(hn:i≤s.toks)(h:ay M A t (λa s'=>i≤s'.toks→Q a s') E s):ay M A t Q E s:=cg (wpAny_toks_of hn h) (λ_ _ x=>x.2 x.1) (λ_ _ x=>x.2)
theorem Cn{f:PE}{pos:Pos}{fa:Addr}{dp un:Nat}{P:Value→Ns→Prop}(hC:fg W0 fa [] n dp un P)(hf:Ev c.cx m n f (.val (.ref fa)))(hkp:lB (K1 W0) (.ref fa)=true)(hd:c.dp+dp<aH)(hu:c.un+un<cT)
  (c1:autoParam (CC c.env f [] pos) zAa):Er c.cx m n (.Call f [] [] pos) P:=
 ⟨λQ s hi hQ=>gq (hf.run _ s hi λv s1 e i1=>by
  cases e;refine MC (c.X.keeps i1.at.1.keep) hkp ?_
  exact hC.run c.B i1.at.1 c.X i1.at.2 c.T c.hk hd hu λv n' h' tk' hp z u=>hQ _ _ _ hp (i1.to z u)) c1⟩
theorem Ez{e:PE}{u pos:Pos}{H:M7 Bool}{f:Addr}{dp un:Nat}{P:Value→Ns→Nat→Prop}{Q:VP}{s:Shared}(hC:tO W0 f [.ref x] n dp un P)(he:Ev c.cx m n e (.val (.ref x)))(h1:(x,cY C D)∈n)(h2:(D,lE es en)∈n)
  (hl:Ax name es=some none) (hd:c.dp+dp<aH) (hu:c.un+un<cT) (hi:c.Is m n s) (hG:du s.gens)
  (hq:∀v n' s',P v n' s'.toks→du s'.gens→s'.os=s.os→Fr c.h₀ c.L s'.heap m→ba c.h₀ c.L s'.heap n'→Q v s')
  (J:autoParam (xf (K1 W0) C name=true) zAc) (hf:autoParam (fF (K1 W0) (.ref C) name=some (some (.ref f))) zAc) (ht:autoParam (isFn (K1 W0) (.ref f)=true) zAc) (hkp:autoParam (lB (K1 W0) (.ref f)=true) zAc) (c1:autoParam (eval (.Call (.Attribute e name u) [] [] pos) c.env=(do
   let G ← eval e c.env
   f8 u.atName
   let (f,first) ← gm [G] (gL G name H)
   iG pos f first (ff pos (bV [] c.env)) [])) zAa):
  ay (aq P0 W0) c.A (eval (.Call (.Attribute e name u) [] [] pos) c.env) Q c.E s:=
 ix (he.run _ s hi λv s1 O i1=>by
  cases O;have e1:=jF hi;have e2:=jF i1;refine Mx i1.at.1 c.X (gh i1.at.2 h1 h2) J hf ht hl ?_;refine MC (c.X.keeps i1.at.1.keep) hkp ?_
  exact hC.run c.B i1.at.1 c.X i1.at.2 c.T c.hk hd hu (by rw[e2.1,← e1.1];exact hG) λv n' s' hp z ho Y U=>hq _ _ _ hp z (ho.trans (e2.2.trans e1.2.symm)) Y U) c1
theorem G1{pos wh}(hl:Ev k m n l (.flt 0))(h1:Ev k m n r1 (.val cv))(h2:Ev k m n r2 (.flt 4607182418800017408))(H:MW P0 W0 cv)(hR:MV P0 W0 cv)(hm:autoParam (lastMarks [.LtE,.LtE] [r1,r2]=false) zAc):Tw k m n (.Compare l [.LtE,.LtE] [r1,r2] pos) wh true:=
 ⟨λQ s hi hq=>isTrue_chain (hl.run _ s hi λv s1 G i1=>by
  refine cp G λt z=>?_
  try clear G
  subst z;refine test_link (h1.run _ s1 i1 λv s2 d2 i2=>?_);cases d2;refine H _ _ _ _ _ (aY ?_);rw[if_pos rfl];refine test_last (h2.run _ s2 i2 λv J B i3=>?_);refine cp B λu e=>?_
  try clear B
  subst e
  exact hR _ _ _ _ _ (aY (hq _ i3))) hm⟩
theorem AF{cv:Value}{ge:UInt64→Bool}{y:UInt64}{l r:PE}{pos wh}{P:Value→Ns→Prop}{P':Ns→Prop}(he:Er k m n l P)(hp:∀v n',P v n'→(∃t,v=.float y t)∧P' n')(hr:∀n',Ev k m n' r (.val cv))(hG:At P0 W0 cv ge)(hm:autoParam (eN .GtE r=false) zAc):Ar k m n (.Compare l [.GtE] [r] pos) wh (λb n'=>b=ge y∧P' n'):=
 ⟨λQ s hi hq=>bX (he.run _ s hi λv n1 s1 h1 i1=>(hr n1).run _ s1 i1 λv2 s2 d2 i2=>by
  refine b7 (hp _ _ h1) λe p=>?_;obtain ⟨t,rfl⟩:=e;cases d2
  exact hG _ _ _ _ _ _ (aY (hq _ _ _ ⟨rfl,p⟩ i2))) hm⟩
theorem E9(h:∀hp:Heap,ba c.h₀ c.L hp n→cK c m n sts R):cK c m n sts R:=⟨λQ s hi hq=>(h _ hi.at.2).run Q s hi hq⟩
theorem pq{T:Ns}{A:Addr}:∀p∈T.filter (λp=>p.1 != A),p∈T:=λp hp=>(bY.mp hp).1
end
noncomputable def gcS:Scope:=tw P0.main.body 11
noncomputable def QJ:List Stmt:=vh P0.main.body 11
noncomputable def Sq:List Stmt:=sB ((QJ[6]?).getD C7)
inductive Q6(W0:World)(ys:List Int)(kvj:List (Int×Value))(R:List (Addr×List Int))(pass:Addr×List Int→Bool)(scr:Addr×List Int→UInt64)(news:Ns)(lw lj lk S D RS:Addr)(m0:Lo)(i:Nat)(m1:Lo)(n1:Ns)(tb:Nat):Prop
 | mk (ps:Array Value) (outs:List (Addr×(Addr×List Int))) (re:Nat) (T:Ns) (τ:Nat→Tok) (d:Nat→Value) (hm:∀z,z≠ae "x"→m1 z=m0 z) (hp:dZ ps.toList) (g:GC ys kvj R pass scr news D RS T outs i tb) (d2:d 2=.ref lw) (d7:d 7=.ref lj) (d8:d 8=.ref lk) (st:ST W0 ys R (d 1) (d 4) (d 6) T) (hn:n1=(256,bS ps)::(RS,listOf (refsOf outs).toArray re)::(S,cY 278 D)::(D,SO W0 τ d 10)::T)
section
variable {c:Fm W0 gcS}{cv:Value}{ge:UInt64→Bool}{ys:List Int}{vw:List Value}{epw epp:Nat}{oj:Obj}{kvj:List (Int×Value)}{led:Bool}{R:List (Addr×List Int)}{tt:Addr×List Int→Int}{news:Ns}{lw lj lk pp S D RS:Addr}{m0:Lo}
theorem HX(hd:c.dp+70<aH)(hu:c.un+700<cT)(cA:At P0 W0 cv ge)(ab:au vw ys)(bh:ys.length≤32)(bi:0<ys.length)(cz:ys.Nodup)(dQ:nY W0 oj kvj)(dv:(lj==cN)=false)(b0:@Ne Nat S D)(dS:@Ne Nat S 256)(dD:@Ne Nat 256 D)(a5:@aP Nat _ RS D)(dR:@Ne Nat RS 256)(fp:@Ne Nat RS S)
  (cw:∀q∈R,jo news q) (c6:∀q∈R,∀t,pM q.2 ys 0 q.2.length 0 ys.length t→t=tt q) (dK:∀q∈R,∀z∈R,q.1=z.1→q=z) (ax:∀q∈R,ge (km (tt q) ((q.2.length:Int)+(ys.length:Int)))=true→ge (km ((q.2.filter (·∈ys)).length:Int) ((q.2.length:Int)+(ys.length:Int)))=true∧ge (km (if (ys.length:Int)<(q.2.length:Int) then (ys.length:Int) else (q.2.length:Int)) ((q.2.length:Int)+(ys.length:Int)))=true)
  (hR:R.length≤40) (hw:(lw,listOf vw.toArray epw)∈news) (hj:(lj,oj)∈news) (hk:(lk,dt led)∈news) (et:m0 (ae "s")=some (.ref S)) (ex:m0 (ae "cutoff")=some cv) (ew:m0 (ae "result")=some (.ref RS))
  {lo:Obj} (as:(pp,lo)∈news) {i tb:Nat}{m1:Lo}{n1:Ns}{I:Addr}{oI:Obj}{q:Addr×List Int}{s1:Shared}{Q:FP} (aa:R[i]?=some q)
  (J:Q6 W0 ys kvj R (λq=>ge (km (tt q) ((q.2.length:Int)+(ys.length:Int)))) (λq=>km (tt q) ((q.2.length:Int)+(ys.length:Int))) news lw lj lk S D RS m0 i m1 n1 tb)
  (u:tb+1≤s1.toks) (G:du s1.gens) (F:Fr c.h₀ c.L s1.heap (ci m1 (ae "x") (.ref q.1))) (N:ba c.h₀ c.L s1.heap ((I,oI)::(pp,lo)::n1)) (ds:oI.cls=.type "list_iterator") (off:∀p∈n1,p.1≠I) (hP:∀s:Shared,du s.gens→c.P s)
  (Y:∀(m':Lo) (n':Ns) (tb':Nat) (s':Shared),tb'≤s'.toks→Fr c.h₀ c.L s'.heap m'→ba c.h₀ c.L s'.heap ((I,oI)::(pp,lo)::n')→du s'.gens→s'.os=s1.os→(∀p∈n',p.1≠I)→Q6 W0 ys kvj R (λq=>ge (km (tt q) ((q.2.length:Int)+(ys.length:Int)))) (λq=>km (tt q) ((q.2.length:Int)+(ys.length:Int))) news lw lj lk S D RS m0 (i+1) m' n' tb'→Q .next s'):
  ay (aq P0 W0) c.A (kz Sq c.env) Q c.E s1:=by
 obtain ⟨ps,outs,re,T,τ,d,hm,hp,g,d2,d7,d8,⟨d0,bj,c5⟩,rfl⟩:=J;have O:=cq aa;refine hH (cw q O) λva ep ar a0 bl eI=>?_;have bm:=g.h0 _ ar;have dq:=g.hD _ bm;refine b7 (eW.mp off) λH off=>?_;refine b7 (eW.mp off) λiR off=>?_;refine b7 (eW.mp off) λiS off=>?_;refine b7 (eW.mp off) λiD iT=>?_;have ms:ci m1 (ae "x") (.ref q.1) (ae "s")=some (.ref S):=(if_neg (by decide)).trans ((hm _ (by decide)).trans et);have mc:ci m1 (ae "x") (.ref q.1) (ae "cutoff")=some cv:=(if_neg (by decide)).trans ((hm _ (by decide)).trans ex);have mr:ci m1 (ae "x") (.ref q.1) (ae "result")=some (.ref RS):=(if_neg (by decide)).trans ((hm _ (by decide)).trans ew);have mx:ci m1 (ae "x") (.ref q.1) (ae "x")=some (.ref q.1):=if_pos rfl;have aD:∀z,z≠ae "x"→ci m1 (ae "x") (.ref q.1) z=m0 z:=λz hz=>(if_neg hz).trans (hm z hz);clear hm;generalize ci m1 (ae "x") (.ref q.1)=m at F ms mc mr mx aD;have e3:outs.length≤40:=aw g.len (aw (aL (bP.mp aa).1) hR)
 have ez:(refsOf outs).length≤dY:=by rw[refsOf,aE];exact aw e3 (by decide)
 have U:∀h tk,c.P {s1 with heap:=h,toks:=tk}:=λ_ _=>hP _ G
 have hi:(c.on s1 U).Is m (SL W0 S D τ d 10 ((256,bS ps)::(RS,listOf (refsOf outs).toArray re)::(I,oI)::T)) s1:=⟨s1.heap,s1.toks,rfl,F,cm N (iz [4,5,2,3,0] 6 rfl)⟩
 have dN:∀p∈(256,bS ps)::(RS,listOf (refsOf outs).toArray re)::(I,oI)::T,p.1≠D:=FC dD (FC (aB a5) (FC (Ne.symm iD) g.hD));have hT:∀p∈T,p∈(256,bS ps)::(RS,listOf (refsOf outs).toArray re)::(I,oI)::T:=λp hp=>bk 3 hp
 have a7:∃same,Jz (SL W0 S D τ d 10 ((256,bS ps)::(RS,listOf (refsOf outs).toArray re)::(I,oI)::T)) (.ref q.1) (d 1) same∧(same=true→d 1=.ref q.1)∧qQ (d 1)=true:=by
  rcases d0 with ⟨t,e⟩|⟨l2,f5,e2,e,e5⟩
  .rw[e];exact(cZ false (.other rfl (λe=>nomatch e)) (λh=>nomatch h) rfl)
  .rw[e]
   by_cases e:q.1=l2
   .exact(cZ true (.self rfl (e▸rfl)) (λ_=>e▸rfl) rfl)
   .exact(cZ false (.refs rfl rfl e (bk 2 (hT _ bm)) (bk 2 (hT _ e5)) (by simp [PySem.W.listOf])) (λh=>nomatch h) rfl)
 refine fJ a7 λsame hI cn hh=>?_
 try clear a7
 refine fh (iY u (ib ((pI (c:=c.on s1 U) (DD b0 dN (by decide) (by decide) hh hI) (am ms) (.cons (am mx) .nil) (a8 0 rfl) (a8 1 rfl) (iA λi hi=>nK (by decide) hi) (dl hd) (dl hu) rfl).run _ s1 hi λv n2 s2 cy i2 u=>?_) (by rfl) (by rfl)))
 have a7:∃B,n2=SL W0 S D τ B 10 ((256,bS ps)::(RS,listOf (refsOf outs).toArray re)::(I,oI)::T)∧B 1=.ref q.1∧B 2=.ref lw∧(B 4=.none∨Gz q.2 ys (B 4) T)∧B 6=d 6∧B 7=.ref lj∧B 8=.ref lk:=by
  refine b7 cy λ_ eo=>?_
  try clear cy
  obtain ⟨fv,e,rfl⟩:=eo;cases e (by decide)
  cases same with
  | true=>exact⟨d,rfl,cn rfl,d2,c5.imp id λ⟨q9,eT,h9,fa⟩=>dK q O q9 eT (GL ((cn rfl).symm.trans h9))▸fa,rfl,d7,d8⟩
  | false=>exact⟨_,rfl,rfl,d2,.inl rfl,rfl,d7,d8⟩
 obtain ⟨B,rfl,e1,e2,e4,e6,e7,e8⟩:=a7;clear cy hI cn hh d0 c5 d2 d7 d8 hi N F;rw[← e6] at bj;have dy:=hT _ bm;have dx:=hT _ (g.h0 _ hw)
 have d3:∀{T':Ns}{v4:Value},(v4=.none∨Gz q.2 ys v4 T')→(v4=.none∨∃z∈R,(.ref q.1:Value)=.ref z.1∧Gz z.2 ys v4 T'):=λh=>h.imp id λh=>(cZ q O rfl h)
 have d5:∀{T':Ns},(∀p∈T,p∈T')→AV (.ref q.1) T':=λh=>.inr (Lg q.1 va ep rfl (h _ bm));refine fh (Mo (vJ (iY u ((AF (k:=(c.on s1 U).cx) (P':=λn'=>n'=SL W0 S D τ B 10 ((256,bS ps)::(RS,listOf (refsOf outs).toArray re)::(I,oI)::T)) (rz (J2 (by decide) e1 e2 dy dx (by rw[a0.length];exact rZ bl rfl) (by rw[ab.length];exact rZ bh rfl) (by rw[ab.length];exact bi)) (am ms) (a8 0 rfl) (a8 1 rfl) (iA λi hi=>nK (by decide) hi) (dl hd) (dl hu) rfl) (λv n' h=>by cases h with|mk t=>exact⟨⟨t,rfl⟩,rfl⟩) (λ_=>am mc) cA).run _ s2 i2 λb n' s3 dj i3 u=>?_))));refine b7 dj λem ek=>?_
 try clear dj
 subst em;subst ek;rw[show nL (if (vw.length:Int)<(va.length:Int) then (vw.length:Int) else (va.length:Int)) ((va.length:Int)+(vw.length:Int))=km (if (ys.length:Int)<(q.2.length:Int) then (ys.length:Int) else (q.2.length:Int)) ((q.2.length:Int)+(ys.length:Int)) by rw[a0.length,ab.length];rfl]
 cases h1:ge (km (if (ys.length:Int)<(q.2.length:Int) then (ys.length:Int) else (q.2.length:Int)) ((q.2.length:Int)+(ys.length:Int))) with
 | false=>
  refine eY (eY ?_);have ig:=jF i3;exact Y m ((256,bS ps)::(RS,listOf (refsOf outs).toArray re)::(S,cY 278 D)::(D,SO W0 τ B 10)::T) tb s3 (iE u) i3.at.1 (cm i3.at.2 (FC (a8 4 rfl) (FC (bk 2 (hT _ (g.h0 _ as))) (FC (a8 2 rfl) (FC (a8 3 rfl) (FC (a8 0 rfl) (FC (a8 1 rfl) λp hp=>bk 5 hp))))))) (ig.1▸G) ig.2 (FC H (FC iR (FC iS (FC iD iT)))) ⟨ps,outs,re,T,τ,B,aD,hp,g.skip aa (Jd.mpr λe=>absurd (ax q O e).2 (by rw[h1];decide)),e2,e7,e8,(eR (e1▸d5 λ_ h=>h) bj (e1▸d3 e4)),rfl⟩
 | true=>
  rw[if_pos rfl];refine vJ (iY u ((AF (k:=(c.on s1 U).cx) (y:=nL ((q.2.filter (·∈ys)).length:Int) ((q.2.length:Int)+(ys.length:Int))) (P':=λn'=>∃(fb:Addr) (oF:Obj) (kvF:List (Int×Value)),nY W0 oF kvF∧FB ys kvF∧(fb==cN)=false∧(fb≠256∧fb≠D∧fb≠RS∧fb≠I)∧∀p∈SL W0 S D τ (di B 6 (.ref fb)) 10 ((256,bS ps)::(RS,listOf (refsOf outs).toArray re)::(I,oI)::(fb,oF)::T),p∈n') (rz (Ny b0 dN e1 e2 (bj.imp id λ⟨a,b,cc,h1,h2,h3⟩=>⟨a,b,cc,h1,hT _ h2,h3⟩) dy dx a0 ab bl bh eI cz bi) (am ms) (a8 0 rfl) (a8 1 rfl) (iA λi hi=>nK (by decide) hi) (dl hd) (dl hu) rfl) ?_ (λ_=>am mc) cA).run _ s3 i3 λb n' s4 dg i4 u=>?_))
  .intro v n' h
   obtain ⟨t,fb,oF,kvF,hv,f1,f2,f3,f4,sub⟩:=h;refine⟨⟨t,hv⟩,fb,oF,kvF,f1,f2,f3,?_,λp hp=>sub p (iz [0,1,3,4,5,2] 6 rfl p hp)⟩
   rcases f4 with h|h
   .rcases bj with h6|⟨bv,cd,_,h6,hx,_⟩
    .rw[h6] at h;cases h
    .rw[h6] at h;cases h;exact(nB (g.h256 _ hx) (g.hD _ hx) (g.hR _ hx) (iT _ hx))
   .exact(nB (aF (h _ (a8 2 rfl))) (aF (h _ (a8 1 rfl))) (aF (h _ (a8 3 rfl))) (aF (h _ (a8 4 rfl))))
  refine b7 dg λei ed=>?_
  try clear dg
  subst ei;obtain ⟨fb,oF,kvF,f1,f2,f3,⟨d6,fD,fR,fI⟩,sub⟩:=ed;replace i4:=i4.sub sub;clear sub;have i4:(c.on s1 U).Is m _ s4:=i4;have ig:=jF i4;have g2:=g.mono (T':=(fb,oF)::T) (λp hp=>bk 1 hp) (FC fD g.hD) (FC d6 g.h256) (FC fR g.hR);have fl:∀{T':Ns},(fb,oF)∈T'→((.ref fb:Value)=.none∨∃bv cd b5,(.ref fb:Value)=.ref bv∧(bv,cd)∈T'∧nY W0 cd b5∧FB ys b5∧(bv==cN)=false):=λh=>.inr (OG fb oF kvF rfl h f1 f2 f3)
  cases h2:ge (nL ((q.2.filter (·∈ys)).length:Int) ((q.2.length:Int)+(ys.length:Int))) with
  | false=>
   refine eY (eY ?_);exact Y m ((256,bS ps)::(RS,listOf (refsOf outs).toArray re)::(S,cY 278 D)::(D,SO W0 τ (di B 6 (.ref fb)) 10)::(fb,oF)::T) tb s4 (iE u) i4.at.1 (cm i4.at.2 (FC (a8 4 rfl) (FC (bk 6 (g.h0 _ as)) (FC (a8 2 rfl) (FC (a8 3 rfl) (FC (a8 0 rfl) (FC (a8 1 rfl) λp hp=>bk 5 hp))))))) (ig.1▸G) ig.2 (FC H (FC iR (FC iS (FC iD (FC fI iT))))) ⟨ps,outs,re,(fb,oF)::T,τ,di B 6 (.ref fb),aD,hp,g2.skip aa (Jd.mpr λe=>absurd (ax q O e).1 (by rw[show km ((q.2.filter (·∈ys)).length:Int) ((q.2.length:Int)+(ys.length:Int))=nL ((q.2.filter (·∈ys)).length:Int) ((q.2.length:Int)+(ys.length:Int)) from rfl,h2];decide)),e2,e7,e8,(eR (e1.symm▸d5 λp h=>bk 1 h:AV (B 1) _) (fl (a8 0 rfl)) (e1.symm▸d3 (e4.imp id λh=>h.mono λp hp=>bk 1 hp):B 4=.none∨∃z∈R,B 1=_∧_)),rfl⟩
  | true=>
   rw[if_pos rfl];have G4:du s4.gens:=ig.1▸G;have fs:(pp,lo)∈(fb,oF)::T:=bk 1 (g.h0 _ as);have dV:yM ys kvj ((RS,listOf (refsOf outs).toArray re)::(I,oI)::(fb,oF)::T):=jU g2.hb λp hp=>bk 2 hp;have b4:∀p∈(fb,oF)::T,p∈(RS,listOf (refsOf outs).toArray re)::(I,oI)::(fb,oF)::T:=λp hp=>bk 2 hp;have a4:=λp hp=>b4 p (g2.h0 p hp);refine vJ (bX (iY u (Ez (c:=c.on s1 U) (n:=(256,bS ps)::SL W0 S D τ (di B 6 (.ref fb)) 10 ((RS,listOf (refsOf outs).toArray re)::(I,oI)::(fb,oF)::T)) (xO b0 (FC (aB a5) (FC (Ne.symm iD) g2.hD)) dD dS (FC dR (FC (Ne.symm H) g2.h256)) e1 e2 (e4.imp id λh=>h.mono λp hp=>bk 3 hp) e7 e8 (a4 _ (ar)) (a4 _ hw) (a4 _ hj) (a4 _ hk) a0 ab bl bh bi cz dQ dv dV hp) (am ms) (a8 1 rfl) (a8 2 rfl) (iA λi hi=>nK (by decide) hi) (dl hd) (dl hu) (i4.sub (iz [2,0,1] 3 rfl)) G4 λv n' s6 aQ G6 er F6 N6 u=>?_)));generalize gd:s6.toks=z6 at aQ
   cases aQ with|mk t ht0 r mk rc T2 a6 n' t1 t2 t3 t4 t5 t6 t7 t8 hr0 t9 cD dd sub=>
   have br:(I,oI)∈T2:=t5 _ (a8 1 rfl);have cB:(RS,listOf (refsOf outs).toArray re)∈T2:=t5 _ (a8 0 rfl);have N7:ba c.h₀ c.L s6.heap T2:=cm N6 λp hp=>sub p (bk 4 hp);have c3:RS≠I:=iR;have ey:∀p∈(fb,oF)::T,p.1≠I:=FC fI iT;have g3:GC ys kvj R (λq=>ge (km (tt q) ((q.2.length:Int)+(ys.length:Int)))) (λq=>km (tt q) ((q.2.length:Int)+(ys.length:Int))) news D RS ((T2.filter λp=>p.1 != I).filter λp=>p.1 != RS) outs i tb:=g2.mono (λp hp=>iN (iN (t5 p (bk 2 hp)) (ey p hp)) (g2.hR p hp)) (ko (ko t6)) (ko (ko t7)) uq;have d1:∀p∈(T2.filter λp=>p.1 != I).filter λp=>p.1 != RS,p.1≠I:=ko uq;have hM:∀x∈mk,sL ((T2.filter λp=>p.1 != I).filter λp=>p.1 != RS) x:=λx hx=>yb (a:=[]) (cm N7 pq) (iN cB c3) (by simp [PySem.W.listOf]) (yb (a:=[]) N7 br (by rw[ds];simp) (t4 x hx));have cM:∀p∈(T2.filter λp=>p.1 != I).filter λp=>p.1 != RS,p∈T2:=λp hp=>pq p (pq p hp);have dM:(fb,oF)∈(T2.filter λp=>p.1 != I).filter λp=>p.1 != RS:=iN (iN (t5 _ (a8 2 rfl)) fI) fR;have rI:r≠I:=zB N6 (sub _ (a8 1 rfl)) (sub _ (bk 4 br)) (by rw[ds];simp [PySem.W.listOf])
   have cU:r≠RS:=by
    rcases t8 with h|h
    .rcases e4 with h4|⟨r',_,_,h4,hx,_⟩
     .cases (h:B 4=.ref r).symm.trans h4
     .cases (h:B 4=.ref r).symm.trans h4;exact g.hR _ hx
    .exact aF (aO a5 h)
   replace N6:=cm N6 (FC (sub _ (a8 0 rfl)) (FC (sub _ (bk 4 cB)) (FC (sub _ (bk 4 br)) (FC (sub _ (a8 2 rfl)) (FC (sub _ (a8 3 rfl)) (FC (sub _ (a8 1 rfl)) λp hp=>sub p (bk 4 (cM p hp))))))));clear N7 br cB t5 t6 t7 t4 sub cM t8 hr0 g2 dV b4 a4;generalize ((T2.filter λp=>p.1 != I).filter λp=>p.1 != RS)=T3 at *;have fm:=c6 q O _ t1;have aQ:∀h tk,c.P {s6 with heap:=h,toks:=tk}:=λ_ _=>hP _ G6;have c0:s6.os=s1.os:=er.trans ig.2;have g4:GC ys kvj R (λq=>ge (km (tt q) ((q.2.length:Int)+(ys.length:Int)))) (λq=>km (tt q) ((q.2.length:Int)+(ys.length:Int))) news D RS ((r,listOf (refsOf mk).toArray rc)::T3) outs i tb:=g3.mono (λp hp=>bk 1 hp) (FC t9 g3.hD) (FC cD g3.h256) (FC cU g3.hR)
   have cC:∀{T':Ns},(∀p∈(r,listOf (refsOf mk).toArray rc)::T3,p∈T')→Gz q.2 ys (.ref r) T':=λh=>⟨r,mk,rc,rfl,h _ (a8 0 rfl),t1,t2,t3,λx hx=>(hM x hx).mono λp hp=>h p (bk 1 hp)⟩
   refine iY u ((am (k:=((c.on s1 U).on s6 aQ).cx) (n:=(256,bS a6)::(RS,listOf (refsOf outs).toArray re)::(I,oI)::(S,cY 278 D)::(D,SO W0 τ (di (di B 6 (.ref fb)) 4 (.ref r)) 10)::(r,listOf (refsOf mk).toArray rc)::T3) mc).run _ s6 ⟨s6.heap,s6.toks,rfl,F6,N6⟩ λv2 s7 d7 i7 u=>?_);cases d7;have i7:((c.on s1 U).on s6 aQ).Is m _ s7:=i7;have bb:=jF i7;refine cA _ _ _ _ _ _ (aY ?_);rw[show nL (ee mk) ((q.2.length:Int)+(ys.length:Int))=km (tt q) ((q.2.length:Int)+(ys.length:Int)) from fm▸rfl]
   cases h3:ge (km (tt q) ((q.2.length:Int)+(ys.length:Int))) with
   | false=>
    refine eY (eY ?_);exact Y m ((256,bS a6)::(RS,listOf (refsOf outs).toArray re)::(S,cY 278 D)::(D,SO W0 τ (di (di B 6 (.ref fb)) 4 (.ref r)) 10)::(r,listOf (refsOf mk).toArray rc)::T3) tb s7 (iE u) i7.at.1 (cm i7.at.2 (FC (a8 2 rfl) (FC (bk 6 (g3.h0 _ as)) (FC (a8 0 rfl) (FC (a8 1 rfl) (FC (a8 3 rfl) (FC (a8 4 rfl) λp hp=>bk 5 hp))))))) (bb.1▸G6) (bb.2.trans c0) (FC H (FC iR (FC iS (FC iD (FC rI d1))))) ⟨a6,outs,re,(r,listOf (refsOf mk).toArray rc)::T3,τ,di (di B 6 (.ref fb)) 4 (.ref r),aD,dd,g4.skip aa h3,e2,e7,e8,(eR (e1.symm▸.inr ⟨q.1,va,ep,rfl,g4.h0 _ ar⟩:AV (B 1) _) (.inr ⟨fb,oF,kvF,rfl,bk 1 dM,f1,f2,f3⟩) (.inr ⟨q,O,e1,cC λp h=>h⟩)),rfl⟩
   | true=>
    rw[if_pos rfl];refine isTrue_and_nil ?_;rw[if_pos rfl];have d4:du s7.gens:=bb.1▸G6;have bo:∀h tk,c.P {s7 with heap:=h,toks:=tk}:=λ_ _=>hP _ d4
    have i7:(c.on s7 bo).Is m _ s7:=⟨s7.heap,s7.toks,rfl,i7.at.1,i7.at.2⟩
    have gg:=i7.at.2 _ (a8 1 rfl);have ah:=g3.h0;have fe:yM ys kvj ((RS,listOf (refsOf outs).toArray re)::(I,oI)::(r,listOf (refsOf mk).toArray rc)::T3):=jU g3.hb λp hp=>bk 3 hp;refine fh (ib (ix (iY u ((am (k:=(c.on s7 bo).cx) mr).run _ s7 i7 λv8 s8 d8 i8 u=>?_)) (by rfl)) (by rfl) (by rfl));cases d8;have i8:(c.on s7 bo).Is m _ s8:=i8;have c2:=jF i8;refine PySem.Calls.getMethod_list_append (i8.at.2 _ (a8 1 rfl)).1 rfl rfl (lK (aI (vM (aI (iY u (Ez (c:=c.on s7 bo) (n:=(256,bS a6)::SL W0 S D τ (di (di B 6 (.ref fb)) 4 (.ref r)) 10 ((RS,listOf (refsOf outs).toArray re)::(I,oI)::(r,listOf (refsOf mk).toArray rc)::T3)) (xO b0 (FC (aB a5) (FC (Ne.symm iD) (FC t9 g3.hD))) dD dS (FC dR (FC (Ne.symm H) (FC cD g3.h256))) e1 e2 (.inr (cC λp h=>bk 2 h)) e7 e8 (bk 3 (ah _ ar)) (bk 3 (ah _ hw)) (bk 3 (ah _ hj)) (bk 3 (ah _ hk)) a0 ab bl bh bi cz dQ dv fe dd) (am ms) (a8 1 rfl) (a8 2 rfl) (iA λi hi=>nK (by decide) hi) (dl hd) (dl hu) (i8.sub (iz [0,3,4,1,2] 5 rfl)) (c2.1▸d4) λv n' s9 aM G9 eq F9 N9 u=>?_)) (by rfl))) (by rfl)) (by rfl));generalize c4:s9.toks=z9 at aM
    cases aM with|mk b6 u0 r' gb f7 T9 ca n' u1 u2 u3 u4 u5 u6 u7 u8 ur u9 f6 up sub=>
    cases ur r rfl;rw[c6 q O _ u1,show nL (tt q) ((q.2.length:Int)+(ys.length:Int))=km (tt q) ((q.2.length:Int)+(ys.length:Int)) from rfl];have aM:∀h tk,c.P {s9 with heap:=h,toks:=tk}:=λ_ _=>hP _ G9;replace N9:=cm N9 (FC (sub _ (bk 4 (u5 _ (a8 0 rfl)))) (FC (sub _ (a8 0 rfl)) (FC (sub _ (bk 4 (u5 _ (a8 1 rfl)))) (FC (sub _ (a8 2 rfl)) (FC (sub _ (a8 3 rfl)) λp hp=>sub p (bk 4 (u5 p (bk 2 hp))))))));refine iY (fu c4.symm) (aI ((am (k:=(c.on s9 aM).cx) mx).run _ s9 ⟨s9.heap,s9.toks,rfl,F9,N9⟩ λv3 cQ fr ap=>bJ λeB=>?_) (by rfl));cases fr;have ap:(c.on s9 aM).Is m _ cQ:=ap;have c1:=jF ap;refine iC ap.at.1 ap.at.2 (λtA h' F' N' lA=>bJ ?_) (by decide:2≤dY)
    have e9:(refsOf (outs++[(tA,q)])).toArray=(refsOf outs).toArray.push (.ref tA):=by simp [refsOf]
    have aj:∀{A:Addr}{o:Obj},(A,o)∈(RS,listOf (refsOf outs).toArray re)::(256,bS ca)::(I,oI)::(S,cY 278 D)::(D,SO W0 τ (di (di (di B 6 (.ref fb)) 4 (.ref r)) 4 (.ref r)) 10)::(r,listOf (refsOf mk).toArray rc)::T3→tA≠A:=λh=>aF (lA _ h);refine append_K F' (N:=cm N' (iz [1,0] 2 rfl)) (.head ?_) (λh2 F2 N2=>?_) (by rw[aV];exact ez)
    .exact FC (aj (a8 0 rfl)) (FC (Ne.symm dR) (FC (Ne.symm c3) (FC (Ne.symm fp) (FC (Ne.symm (aB a5)) (FC cU g3.hR)))))
    refine eY (eY ?_);rw[← e9] at N2;have tT:∀p∈(r,listOf (refsOf mk).toArray rc)::T3,@aP Nat _ p.1 tA:=λp hp=>lA p (bk 5 hp);exact Y m ((256,bS ca)::(RS,listOf (refsOf (outs++[(tA,q)])).toArray (re+1))::(S,cY 278 D)::(D,SO W0 τ (di (di (di B 6 (.ref fb)) 4 (.ref r)) 4 (.ref r)) 10)::(tA,dO #[.float (km (tt q) ((q.2.length:Int)+(ys.length:Int))) b6,.ref q.1])::(r,listOf (refsOf mk).toArray rc)::T3) (b6+1) {cQ with heap:=h2} eB F2 (cm N2 (FC (a8 3 rfl) (FC (bk 7 (ah _ as)) (FC (a8 2 rfl) (FC (a8 0 rfl) (FC (a8 4 rfl) (FC (a8 5 rfl) (FC (a8 1 rfl) λp hp=>bk 6 hp)))))))) (c1.1▸G9) (c1.2.trans (eq.trans (c2.2.trans (bb.2.trans c0)))) (FC H (FC iR (FC iS (FC iD (FC (aj (a8 2 rfl)) (FC rI d1)))))) ⟨ca,outs++[(tA,q)],re+1,_,τ,di (di (di B 6 (.ref fb)) 4 (.ref r)) 4 (.ref r),aD,up,g4.add aa h3 u0 (CU (c4▸u:tb+1≤b6+1)) (aJ _) tT (aj (a8 4 rfl)) (aj (a8 1 rfl)) (aj (a8 0 rfl)),e2,e7,e8,(eR (e1.symm▸.inr ⟨q.1,va,ep,rfl,bk 2 (ah _ ar)⟩:AV (B 1) _) (.inr ⟨fb,oF,kvF,rfl,bk 2 dM,f1,f2,f3⟩) (.inr ⟨q,O,e1,cC λp h=>bk 1 h⟩)),rfl⟩
inductive RO(W0:World)(R:List (Addr×List Int))(pass:Addr×List Int→Bool)(Rel:List (Addr×(Addr×List Int))→List (Addr×(Addr×List Int))→Prop)(news:Ns)(n':Ns)(v:Value):Prop
 | mk (OUT:Addr) (outs outs2:List (Addr×(Addr×List Int))) (ps:Array Value) (T:Ns) (hv:v=.ref OUT) (h1:outs.map (·.2)=R.filter pass) (h2:Rel outs outs2) (h3:∀o∈outs2,o∈outs) (h4:∀p∈news,p∈T) (h5:∀p∈T,p.1≠OUT) (h6:∀p∈T,p.1≠256) (h7:OUT≠256) (h8:dZ ps.toList) (hn:n'=(OUT,bz (outs2.map λo=>.ref o.2.1))::(256,bS ps)::T)
theorem HY(cD:c.dp+79<aH)(cU:c.un+790<cT)(dK:c.P=λs=>du s.gens)(hG:du c.s.gens){nn:Int}{tn:Tok}{ps:Array Value}{Pre:List (Addr×(Addr×List Int))→Prop}{Rel:List (Addr×(Addr×List Int))→List (Addr×(Addr×List Int))→Prop}(dg:dZ ps.toList)(dv:0<nn)(dM:MW P0 W0 cv)(dy:MV P0 W0 cv)(dN:At P0 W0 cv ge)(cz:au vw ys)(b0:ys.length≤32)(c3:0<ys.length)(b6:ys.Nodup)(s256:∀p∈news,p.1≠256)
  (H:∀q∈R,jo news q) (c4:∀q∈R,∀t,pM q.2 ys 0 q.2.length 0 ys.length t→t=tt q) (ca:∀q∈R,∀z∈R,q.1=z.1→q=z) (aj:∀q∈R,ge (km (tt q) ((q.2.length:Int)+(ys.length:Int)))=true→ge (km ((q.2.filter (·∈ys)).length:Int) ((q.2.length:Int)+(ys.length:Int)))=true∧ge (km (if (ys.length:Int)<(q.2.length:Int) then (ys.length:Int) else (q.2.length:Int)) ((q.2.length:Int)+(ys.length:Int)))=true)
  (hR:R.length≤40) (hw:(lw,listOf vw.toArray epw)∈news) (b5:(pp,listOf (refsOf R).toArray epp)∈news) (b4:∀outs:List (Addr×(Addr×List Int)),outs.map (·.2)=R.filter (λq=>ge (km (tt q) ((q.2.length:Int)+(ys.length:Int))))→Pre outs) (ds:sq W0 nn (λq=>km (tt q) ((q.2.length:Int)+(ys.length:Int))) Pre Rel)
  (mw:m0 (ae "word")=some (.ref lw)) (mp:m0 (ae "possibilities")=some (.ref pp)) (mn:m0 (ae "n")=some (.int nn tn)) (mc:m0 (ae "cutoff")=some cv):
  cK c m0 ((256,bS ps)::news) QJ (λf m' n'=>∃v,f=.ret v∧RO W0 R (λq=>ge (km (tt q) ((q.2.length:Int)+(ys.length:Int)))) Rel news n' v):=by
 refine g6 (dz (qt (eD qk (ai mn) bf)) (λh=>?_) λ_=>bQ ?_)
 .rw[decide_eq_true dv] at h;cases h
 refine dz (qt (G1 wT (am mc) wT dM dy)) (λh=>bH h) λ_=>bQ ?_;refine dG mY λv n1 h=>?_;refine fJ h λRS a7 a6 bm=>?_
 try clear h
 subst a7;subst a6;refine dG (Cn Nu fT (by with_unfolding_all rfl) (dl cD) (dl cU)) λv n1 h=>?_;refine Qg h λS D ua ub n0 τ0 u a5 l1 l2 aM a4=>?_
 try clear h
 subst a5;obtain ⟨τ,bl,bj,bi,bb,d3,e0,cB,T1,_,ab,as,_,_,_,nj,nk,np,_,rfl⟩:=a4;have ms:ci (ci m0 (ae "result") (.ref RS)) (ae "s") (.ref S) (ae "s")=some (.ref S):=rfl;have mr:ci (ci m0 (ae "result") (.ref RS)) (ae "s") (.ref S) (ae "result")=some (.ref RS):=rfl;replace mw:ci (ci m0 (ae "result") (.ref RS)) (ae "s") (.ref S) (ae "word")=some (.ref lw):=mw;replace mp:ci (ci m0 (ae "result") (.ref RS)) (ae "s") (.ref S) (ae "possibilities")=some (.ref pp):=mp;replace mn:ci (ci m0 (ae "result") (.ref RS)) (ae "s") (.ref S) (ae "n")=some (.int nn tn):=mn;replace mc:ci (ci m0 (ae "result") (.ref RS)) (ae "s") (.ref S) (ae "cutoff")=some cv:=mc;generalize ci (ci m0 (ae "result") (.ref RS)) (ae "s") (.ref S)=m at ms mr mw mp mn mc;have ah:∀p∈(RS,listOf [].toArray 0)::(256,bS ps)::news,p∈(bi,dt cB)::(bj,dt e0)::(bl,bb)::T1:=λp hp=>bk 3 (ab p hp);refine oP (pI (DC (dp:=1) (un:=3) (bv:=.ref lw) (P:=λτ=>MY W0 S D 10 τ _ ys ((bi,dt cB)::(bj,dt e0)::(bl,bb)::T1)) (by decide) (by decide) aM (FC np (FC nk (FC nj as))) (by decide) (by decide) rfl (.other rfl (λe=>nomatch e)) λcC _=>FM (n:=10) aM (FC np (FC nk (FC nj as))) (by decide) (by decide) rfl rfl rfl b0 b6 (.inr (nW lw vw epw rfl (ah _ (bk 2 hw)) cz))) (am ms) (.cons (am mw) .nil) (a8 0 rfl) (a8 1 rfl) (iA λi hi=>nK (by decide) hi) (dl cD) (dl cU) rfl) λv n' h=>?_;refine b7 h λ_ a0=>?_
 try clear h
 obtain ⟨cC,u',_,U,lj,lk,lp,oj,kvj,led,led2,T2,_,aa,cy,ap,dx,hB,c0,cQ,cM,_,rfl⟩:=a0;refine E9 λdj N0=>?_;have s3:∀p∈(RS,listOf [].toArray 0)::(256,bS ps)::news,p∈(lp,dt led2)::(lk,dt led)::(lj,oj)::T2:=λp hp=>bk 3 (aa p (ah p hp));have N3:ba c.h₀ c.L dj ((lp,dt led2)::(lk,dt led)::(lj,oj)::T2):=cm N0 λp hp=>bk 2 hp;have ar:∀p∈(lp,dt led2)::(lk,dt led)::(lj,oj)::T2,p.1≠D:=FC cM (FC cQ (FC c0 cy));have aD:yM ys kvj ((lp,dt led2)::(lk,dt led)::(lj,oj)::T2):=jU hB λp hp=>bk 3 hp;have hj:(lj,oj)∈(lp,dt led2)::(lk,dt led)::(lj,oj)::T2:=a8 2 rfl;have hk:(lk,dt led)∈(lp,dt led2)::(lk,dt led)::(lj,oj)::T2:=a8 1 rfl;generalize (lp,dt led2)::(lk,dt led)::(lj,oj)::T2=T3 at s3 N3 ar aD hj hk;have h256:=s3 _ (a8 1 rfl);have O:=s3 _ (a8 0 rfl);have dR:@Ne Nat RS 256:=aF (bm _ (a8 0 rfl));have br:lj≠256:=zm N3 hj h256 (by rw[dict_cls ap];simp);have bo:lk≠256:=zm N3 hk h256 (by simp [dt]);have jR:lj≠RS:=zB N3 hj O (by rw[dict_cls ap];simp [PySem.W.listOf]);have kR:lk≠RS:=zB N3 hk O (by simp [dt,PySem.W.listOf]);have nR:∀p∈news,p.1≠RS:=λp hp=>aB (bm p (bk 1 hp));have cA:yM ys kvj ((T3.filter λp=>p.1 != 256).filter λp=>p.1 != RS):=Bt (a:=[]) (cm N3 pq) (iN O dR) (λj t ep=>by simp [PySem.W.listOf]) (Bt (a:=[]) N3 h256 (λj t ep=>by simp [bS,PySem.W.listOf]) aD)
 have g0:GC ys kvj R (λq=>ge (km (tt q) ((q.2.length:Int)+(ys.length:Int)))) (λq=>km (tt q) ((q.2.length:Int)+(ys.length:Int))) ((lj,oj)::(lk,dt led)::news) D RS ((T3.filter λp=>p.1 != 256).filter λp=>p.1 != RS) [] 0 0:=⟨FC (iN (iN hj br) jR) (FC (iN (iN hk bo) kR) λp hp=>iN (iN (s3 p (bk 2 hp)) (s256 p hp)) (nR p hp)),ko (ko ar),ko uq,uq,cA,(c9 (λ_=>0) (λ_ h=>nomatch h) (λ_ h=>nomatch h)),rfl⟩
 refine(?fin:∀d:Nat→Value,d 1=.str "" ua→d 2=.ref lw→d 4=.none→d 6=.none→d 7=.ref lj→d 8=.ref lk→cK c m (SL W0 S D U d 10 T3) _ _) _ rfl rfl rfl rfl rfl rfl;intro d d1 d2 d4 d6 d7 d8;refine cL (n':=(256,bS ps)::(RS,listOf (refsOf ([]:List (Addr×(Addr×List Int)))).toArray 0)::SL W0 S D U d 10 ((T3.filter λp=>p.1 != 256).filter λp=>p.1 != RS)) ?_ (FC (bk 2 h256) (FC (bk 2 O) (FC (a8 0 rfl) (FC (a8 1 rfl) λp hp=>bk 2 (pq p (pq p hp))))));clear aD cA ar h256 O s3 N3 N0 hB cy aa ah as ab hj hk;generalize ((T3.filter λp=>p.1 != 256).filter λp=>p.1 != RS)=T at g0;have dS:@Ne Nat S 256:=aF (l1 _ (a8 1 rfl));have dD:@Ne Nat 256 D:=aB (l2 _ (a8 1 rfl));have dV:@aP Nat _ RS D:=l2 _ (a8 0 rfl);have dQ:@Ne Nat RS S:=aB (l1 _ (a8 0 rfl));refine⟨λQ s hi hq=>?_⟩;have ig:=jF hi;have ax:∀s:Shared,du s.gens→c.P s:=λs h=>dK▸h;refine fh (DH (l:=pp) (vs:=refsOf R) (n:=epp) (news:=(256,bS ps)::(RS,listOf (refsOf ([]:List (Addr×(Addr×List Int)))).toArray 0)::SL W0 S D U d 10 T) hi.at.1 (cm hi.at.2 (FC (bk 4 (g0.h0 _ (bk 2 b5))) λp h=>h)) (ig.1▸hG) rfl (by rfl) (by rfl) (λQ' hq=>c.cx.load hi mp (by rfl) (by decide) hq) (λ_=>rfl) (Q6 W0 ys kvj R (λq=>ge (km (tt q) ((q.2.length:Int)+(ys.length:Int)))) (λq=>km (tt q) ((q.2.length:Int)+(ys.length:Int))) ((lj,oj)::(lk,dt led)::news) lw lj lk S D RS m) ⟨ps,[],0,T,U,d,(λ_ _=>rfl),dg,g0,d2,d7,d8,(eR (.inl ⟨ua,d1⟩) (.inl d6) (.inl d4)),rfl⟩ ?turn ?done c.hE)
 case turn=>
  intro i v m1 n1 tb I oI s1 hv J c5 G os F N dq off _;refine fK (mH hv) λq dd aQ=>?_;subst aQ;refine DJ λQ9 cw=>?_;refine HX (dl cD) (dl cU) dN cz b0 c3 b6 ap dx aM dS dD dV dR dQ (λq hq=>?_) c4 ca aj hR (bk 2 hw) (a8 0 rfl) (a8 1 rfl) ms mc mr (bk 2 b5) dd J c5 G F N dq off ax λm' n' tb' s' a b cc e f g h=>cw m' n' tb' s' a b cc e (f.trans os) g h;refine pU (H q hq) λva ep h1 h2=>?_;exact(wL va ep (bk 2 h1) h2)
 case done=>
  intro m1 n1 tb s1 J G os F N;obtain ⟨ps',outs,re,T',τ,d',hm,hp,g,_,_,_,_,rfl⟩:=J;have cn:=g.len;have Y:=g.hm;rw[refsOf,aE] at cn;rw[refsOf,aE,cP] at Y;have c1:m1 (ae "result")=some (.ref RS):=(hm _ (by decide)).trans mr;have KD:m1 (ae "n")=some (.int nn tn):=(hm _ (by decide)).trans mn;have sT:=g.h256;have cd:∃tok:Addr→Tok,(∀o∈outs,tok o.1≠0∧(o.1,dO #[.float (km (tt o.2) ((o.2.2.length:Int)+(ys.length:Int))) (tok o.1),.ref o.2.1])∈(256,bS ps')::T')∧∀o∈outs,∀o'∈outs,tok o.1=tok o'.1→o=o':=let ⟨tok,h1,h2⟩:=g.ho;⟨tok,λo ho=>⟨(h1 o ho).1,bk 1 (h1 o ho).2.2⟩,h2⟩
  have c6:∀o∈outs,jo ((256,bS ps')::T') o.2:=λo ho=>by
   refine pU (H o.2 (bY.mp (Y▸fX ho:o.2∈R.filter _)).1) λva ep h1 h2=>?_;exact(wL va ep (bk 1 (g.h0 _ (bk 2 h1))) h2)
  refine Ac (c:=c) (hP:=λ_ _=>ax _ G) (os.trans ig.2) (λf m' n' h=>h.elim λv h=>⟨v,h.1⟩) (cL (n':=(RS,listOf (refsOf outs).toArray re)::(256,bS ps')::T') (dG (Bg (fa:=288) (v1:=.int nn tn) (v2:=.ref RS) (P:=λv n'=>∃(NR:Addr) (outs2:List (Addr×(Addr×List Int))) (c2:Nat),v=.ref NR∧n'=(NR,listOf (refsOf outs2).toArray c2)::(256,bS ps')::T'∧Rel outs outs2∧(∀o∈outs2,o∈outs)∧outs2.length≤40) fT (am KD) (am c1) (by with_unfolding_all rfl) λs Q E F N hq=>?_) λv n' h=>?_) (iz [2,1] 5 rfl)) F N hq
  .exact ds _ _ _ _ _ _ _ _ _ _ _ _ _ _ _ _ _ _ _ _ _ _ _ _ _ _ _ c.B F c.X N c.T c.hk (dl cD) (dl cU) (aw cn hR) (b4 outs Y) cd c6 λNR outs2 c2 h' tk' h1 h2 h3 _ F2 N2=>hq _ _ _ _ (OG NR outs2 c2 rfl rfl h1 h2 h3) F2 N2
  .obtain ⟨NR,outs2,c2,rfl,rfl,h1,h2,h3⟩:=h
   refine bK ⟨λQ s hi hq=>iO (LCp.ListComp_P (cl:=[]) hi.at.1 (by rfl) (by decide) rfl (by decide) (by rfl) (by rfl) (by decide) ((am (k:=(c.on s1 λ_ _=>ax _ G).cx) (x:=ae "result") (v:=.ref NR) rfl).run _ s hi λv s' d i'=>?_))⟩;cases d;refine CR (its:=(refsOf outs2).toArray) (k:=c2) rfl i'.at.1 i'.at.2 (a8 0 rfl) (by rw[aV,refsOf,aE];exact aw h3 (by decide)) λgg=>?_;refine yz (scr:=λq=>km (tt q) ((q.2.length:Int)+(ys.length:Int))) rfl (λo ho=>cd.elim λtok h=>⟨_,bk 1 (h.1 o (h2 o ho)).2⟩) (.inr (cZ (listOf (refsOf outs2).toArray c2) (a8 0 rfl) rfl ⟨_,rfl⟩)) (λ_=>rfl) (λ_=>rfl) (by decide) ?_ _ 0 [] (by simp [refsOf]) rfl;intro OUT h7 d0 F7 N7 off;refine kq off λ_ bh oT=>?_
   try clear off
   exact hq (.ret (.ref OUT)) _ _ _ (c9 _ rfl ⟨OUT,outs,outs2,ps',T',rfl,Y,h1,h2,(λp hp=>g.h0 p (bk 2 hp)),xT oT,sT,Ne.symm bh,hp,rfl⟩) (i'.to F7 (cm N7 (FC (a8 0 rfl) (FC (a8 2 rfl) λp hp=>bk 3 hp)))).lib
end
theorem Lm{cv:Value}{ge:UInt64→Bool}{ys:List Int}{vw:List Value}{epw epp:Nat}{R:List (Addr×List Int)}{tt:Addr×List Int→Int}{news:Ns}{lw pp:Addr}{nn:Int}{O:Tok}{ps:Array Value}{Pre:List (Addr×(Addr×List Int))→Prop}{Rel:List (Addr×(Addr×List Int))→List (Addr×(Addr×List Int))→Prop}(ab:dZ ps.toList)(ar:0<nn)(ax:MW P0 W0 cv)(as:MV P0 W0 cv)(aD:At P0 W0 cv ge)(aM:au vw ys)(U:ys.length≤32)(Y:0<ys.length)(aj:ys.Nodup)(s256:∀p∈news,p.1≠256)
  (u:∀q∈R,jo news q) (aa:∀q∈R,∀t,pM q.2 ys 0 q.2.length 0 ys.length t→t=tt q) (J:∀q∈R,∀z∈R,q.1=z.1→q=z) (B:∀q∈R,ge (km (tt q) ((q.2.length:Int)+(ys.length:Int)))=true→ge (km ((q.2.filter (·∈ys)).length:Int) ((q.2.length:Int)+(ys.length:Int)))=true∧ge (km (if (ys.length:Int)<(q.2.length:Int) then (ys.length:Int) else (q.2.length:Int)) ((q.2.length:Int)+(ys.length:Int)))=true)
  (hR:R.length≤40) (hw:(lw,listOf vw.toArray epw)∈news) (ah:(pp,listOf (refsOf R).toArray epp)∈news) (H:∀outs:List (Addr×(Addr×List Int)),outs.map (·.2)=R.filter (λq=>ge (km (tt q) ((q.2.length:Int)+(ys.length:Int))))→Pre outs) (ap:sq W0 nn (λq=>km (tt q) ((q.2.length:Int)+(ys.length:Int))) Pre Rel):
  tO W0 294 [.ref lw,.ref pp,.int nn O,cv] ((256,bS ps)::news) 80 793 (λv n' _=>RO W0 R (λq=>ge (km (tt q) ((q.2.length:Int)+(ys.length:Int)))) Rel news n' v):=
 Bo (body:=QJ) (scope:=gcS) (binds:=[("word",.ref lw),("possibilities",.ref pp),("n",.int nn O),("cutoff",cv)]) (by with_unfolding_all rfl) (by with_unfolding_all rfl) (λs X=>pQ X rfl (by with_unfolding_all rfl) rfl rfl rfl) (ss rfl) rfl rfl rfl (by decide) λc Q hd hu _ _ hG hi hq=>by
  have hb:=HY (c:={c with P:=λs=>du s.gens,hP:=λ_ _=>hG}) (m0:=λy=>([("word",.ref lw),("possibilities",.ref pp),("n",.int nn O),("cutoff",cv)]:List (Str×Value)).reverse.lookup y) hd hu rfl hG ab ar ax as aD aM U Y aj s256 u aa J B hR hw ah H ap rfl rfl rfl rfl
  exact hb.run Q c.s (let ⟨h',tk,e,F,N⟩:=hi;⟨h',tk,e,F,N⟩) λf m' n' s' r i=>by
   refine fK r λv G hv=>?_
   try clear r
   subst G;exact hq v m' n' s' hv i.2.1 i.1 i.2.2.1 i.2.2.2
theorem Jq{gp:Program}{gl:List Str}{mean:ExcName→Option Value}{mg mb:Lo}{dp un:Nat}{gd:Option (List sR)}{cn:Str}{cs:Scope}{a:Addr}{ccd:Value}{cl:List (Str×Addr)}{outer:List Env}{A₀:Around}{base h₀:Heap}{L:Addr}{m:Lo}{news:Ns}{s:Shared}{Q E:VP}{lw pp:Addr}{epw epp:Nat}{vw:List Value}{R:List (Addr×List Int)}{ps:Array Value}{nn:Int}{tn:Tok}{cv:Value}{ge:UInt64→Bool}{Pre:List (Addr×(Addr×List Int))→Prop}{Rel:List (Addr×(Addr×List Int))→List (Addr×(Addr×List Int))→Prop}
  (B:qU A₀ base outer h₀) (F:Fr h₀ L s.heap m) (X:(hd.heap_1 W0.params).In h₀) (N:ba h₀ L s.heap ((256,bS ps)::(lw,listOf vw.toArray epw)::(pp,listOf (refsOf R).toArray epp)::news)) (T:Top gp gl mean mg mb h₀) (hk:cs.kind=.function)
  (ap:dp+80<aH) (hu:un+800<cT) (ys:List Int) (aD:au vw ys) (O:ys.length≤32) (U:0<ys.length) (ab:ys.Nodup) (aa:dZ ps.toList) (hG:du s.gens) (hR:R.length≤40) (s256:∀p∈news,p.1≠256) (e1:@Ne Nat lw 256) (e2:@Ne Nat pp 256) (aj:0<nn) (as:MW cF.row.prog W0 cv) (ar:MV cF.row.prog W0 cv) (ax:At cF.row.prog W0 cv ge) (tt:Addr×List Int→Int) (e:∀q∈R,jo news q) (Y:∀q∈R,∀t,pM q.2 ys 0 q.2.length 0 ys.length t→t=tt q) (J:∀q∈R,∀z∈R,q.1=z.1→q=z) (u:∀q∈R,ge (km (tt q) ((q.2.length:Int)+(ys.length:Int)))=true→ge (km ((q.2.filter (·∈ys)).length:Int) ((q.2.length:Int)+(ys.length:Int)))=true∧ge (km (if (ys.length:Int)<(q.2.length:Int) then (ys.length:Int) else (q.2.length:Int)) ((q.2.length:Int)+(ys.length:Int)))=true) (H:∀outs:List (Addr×(Addr×List Int)),outs.map (·.2)=R.filter (λq=>ge (km (tt q) ((q.2.length:Int)+(ys.length:Int))))→Pre outs) (ah:sq W0 nn (λq=>km (tt q) ((q.2.length:Int)+(ys.length:Int))) Pre Rel) (hret:∀(OUT:Addr) (outs outs2:List (Addr×(Addr×List Int))) (G:Array Value) (T:Ns) (s2:Shared),outs.map (·.2)=R.filter (λq=>ge (km (tt q) ((q.2.length:Int)+(ys.length:Int))))→Rel outs outs2→(∀o∈outs2,o∈outs)→(∀p∈news,p∈T)→(∀p∈T,p.1≠OUT)→(∀p∈T,p.1≠256)→OUT≠256→OUT≠lw→OUT≠pp→dZ G.toList→du s2.gens→s2.os=s.os→Fr h₀ L s2.heap m→ba h₀ L s2.heap ((OUT,bz (outs2.map λo=>.ref o.2.1))::(256,bS G)::(lw,listOf vw.toArray epw)::(pp,listOf (refsOf R).toArray epp)::T)→Q (.ref OUT) s2)  :
  ay (aq cF.row.prog W0) (ic dp un gd cn cs L a ccd cl outer) (call (.ref 294) [.ref lw,.ref pp,.int nn tn,cv]) Q E s:=by
 refine(Lm (news:=(lw,listOf vw.toArray epw)::(pp,listOf (refsOf R).toArray epp)::news) (Rel:=Rel) aa aj as ar ax aD O U ab (FC e1 (FC e2 s256)) (λq hq=>let ⟨va,ep,h1,h2⟩:=e q hq;⟨va,ep,bk 2 h1,h2⟩) Y J u hR (a8 0 rfl) (a8 1 rfl) H ah).run B F X N T hk ap (dl hu) hG λv n' s' hP G' ho F' N'=>?_;obtain ⟨OUT,outs,outs2,ps',T',rfl,h1,h2,h3,h4,h5,h6,h7,h8,rfl⟩:=hP;exact hret OUT outs outs2 ps' T' s' h1 h2 h3 (λp hp=>h4 p (bk 2 hp)) h5 h6 h7 (Ne.symm (h5 _ (h4 _ (a8 0 rfl)))) (Ne.symm (h5 _ (h4 _ (a8 1 rfl)))) h8 G' ho F' (cm N' (FC (a8 0 rfl) (FC (a8 1 rfl) (FC (bk 2 (h4 _ (a8 0 rfl))) (FC (bk 2 (h4 _ (a8 1 rfl))) λp hp=>bk 2 hp)))))
end
section
open W PyProof.Rows
theorem Li{i:Nat}{M:Model}{A:Around}{E:VP}{s:Shared}{Q:Fin→Shared→Prop}(hl:IsL s.heap l vs n)(hb:IsL s.heap b us n2)(h:vs.toArray[(i:Int).toNat]?=none∨∃x,vs.toArray[(i:Int).toNat]?=some x∧us.toArray[(i:Int).toNat]?=none)(hq:Q (.done (.ret (.bool (decide (us.length<vs.length))))) s):ay M A (Cu l b i 4) Q E s:=by
 refine af (li hl (af (li hb ?_)))
 rcases h with h|⟨x,h,h2⟩
 .rw[h]
  exact af (li hl (af (li hb (ag hq))))
 .rw[h,h2]
  exact af (li hl (af (li hb (ag hq))))
theorem HU{i:Nat}{prog:Program}{w:World}{A:Around}{E:VP}{s:Shared}{Q:Fin→Shared→Prop}(hl:IsL s.heap l vs n)(hb:IsL s.heap b us n2)(h1:vs.toArray[(i:Int).toNat]?=some (.int x t))(h2:us.toArray[(i:Int).toNat]?=some (.int y u))(B:x=y→Q (.again (.builtin "list.__eq__.loop" ⟨[.ref l,.ref b,jf ((i:Int)+1),jf 4],[]⟩)) s)(hn:x≠y→Q (.done (.ret (.bool (decide (y<x))))) s):ay (aq prog w) A (Cu l b i 4) Q E s:=by
 refine af (li hl (af (li hb ?_)));rw[h1,h2];refine af (hU ?_)
 by_cases e:x=y
 .exact PySem.W.KFB.if_so (beq_iff_eq.mpr e) (ag (B e))
 .refine PySem.W.KFB.if_not (beq_eq_false_iff_ne.mpr e) (af (li hl (af (li hb ?_))))
  rw[h1,h2];refine af (PySem.compareOp_gives (op:=.Gt) (iB _ x t) (iB _ y u) PySem.F.slot_int_gt PySem.F.entry_int_gt (PySem.F.args_int_gt_2 _ _) (AutoIntG4.int___gt___int_int_0 x t y u) (λz=>nomatch z) ?_:ay _ _ (fi .Gt (.int x t) (.int y u)) _ _ _);exact ag (hn e)
theorem HK(l b:Addr)(vs us:List Value)(xs ys:List Int)(n n2:Nat)(u:au vs xs)(e:au us ys):Meets (Builtin.«list.__gt__» ⟨[.ref l,.ref b],[]⟩)
   (λ_ R s=>s.heap.get? l=some {cls:=.type "list",dict:=none,data:=.seq vs.toArray n,slots:=#[]}∧s.heap.get? b=some {cls:=.type "list",dict:=none,data:=.seq us.toArray n2,slots:=#[]}∧
    R (.ok (.ret (.bool (ls ys xs)))) s):=by
 intro prog w A R s ⟨hl,hb,h⟩;refine af (bN (a:=(.ref l,[.ref b])) (by kernel_rfl) (af (lz (show s.TypeIs (.ref b) "list" from ⟨_,hb,rfl⟩) xA (PySem.W.KFB.if_not (by rfl) (PySem.W.KFB.if_not (by rfl) (ag ?_))))));exact⟨iH mZ _,yC (C:=λm n=>decide (n<m)) (G:=λa b=>ls b a) (λm n i=>decide_eq_decide.mpr AA) (λys=>by cases ys<;>rfl) (λx xs=>Oh _) (λx xs ys=>Og x ys xs) (λx y xs ys h=>Of y x ys xs (Ne.symm h)) Li HU hl hb u e 0 rfl rfl rfl rfl A h⟩
section
variable {prog:Program}{w:World}{A:Around}{E:VP}{s:Shared}{l b:Addr}{vs us:List Value}{xs ys:List Int}{n n2:Nat}
theorem LQ(hu:A.units<cT)(hl:s.heap.get? l=some (listOf vs.toArray n))(hb:s.heap.get? b=some (listOf us.toArray n2))(u:au vs xs)(e:au us ys)(h:Q (.bool (ls ys xs)) s):
  ay (aq prog w) A (fi .Gt (.ref l) (.ref b)) Q E s:=by
 refine(?_:ay (aq prog w) A (je .Gt (.ref l) (.ref b)) Q E s);exact IT (c9 _ hl rfl) (c9 _ hb rfl) PySem.F.slot_list_gt PySem.F.entry_list_gt (PySem.F.args_list_gt_2 _ _) (HK l b vs us xs ys n n2 u e) (nB hl hb (λz=>nomatch z) h) hu
end
end
section
open W PyProof.Rows
open PySem.Builtin
open PySem.Builtin.Tuple in
theorem JT(args:Args):Builtin.«tuple.__gt__» args=(do
  let (a,[b]) ← slotArgs "__gt__" 1 args|unsupported "internal:tuple.compare"
  if !(← jV b (.type "tuple")) then return ← ret .notImplemented
  let xs ← tupleItemsOf a
  let ys ← tupleItemsOf b
  for (x,y) in xs.toList.zip ys.toList do
   if !(← yQ x y) then
    rule "tuple.compare.by-the-first-pair-that-differs";return ← ret (← je .Gt x y)
  ret (tupleCompareSizes .Gt xs.size ys.size)):=rfl
section
variable {prog:Program}{w:World}{A:Around}{E:VP}{s:Shared}{mc:Lo}
theorem wW(ht:t≠0)(hu:u≠0)(B:a≠b)(e:t≠u)(h:Q (cV a b==some dh) s):
  ay (aq prog w) A (yQ (.float a t) (.float b u)) Q E s:=by
 unfold yQ;rw[if_neg (by intro z;have:=eq_of_beq z;injection this;contradiction)];refine af ?_;refine(?_:ay (aq prog w) A (qp (a==b&&!Float64.isNaN a) t u) _ E s);unfold qp
 have h0:¬((t==0||u==0)=true):=by simp [ht,hu]
 rw[if_neg h0,if_neg (by simpa using e),if_pos (by simp [B])];refine ag ?_;refine af (yW ?_:ay _ _ (fi .Eq (.float a t) (.float b u)) _ _ _);exact aY h
noncomputable def NG(f1 f2:UInt64)(k1 k2:Tok)(a1 a2:Addr)(xs ys:List Int):Prop:=
 (f1=f2∧cV f1 f1=some dh∧(a1=a2∨(a1≠a2∧xs≠ys∧ls ys xs=false)))∨(f1≠f2∧k1≠k2∧cV f1 f2=some kb)
theorem JP(hu:A.units+70<cT)(hn:s.heap.Ns oa mc)(hm:mc gP=none)(h1:k1≠0)(h2:k2≠0)
  (B:s.heap.get? x=some (Dr J k1 a1)) (u:s.heap.get? y=some (Dr H k2 a2)) (hl:s.heap.get? a1=some (listOf vs.toArray n)) (hb:s.heap.get? a2=some (listOf us.toArray n2)) (hi:au vs xs) (hj:au us ys)
  (G:NG J H k1 k2 a1 a2 xs ys) (h:Q (.bool false) s):ay (aq prog w) A (je .Gt (.ref x) (.ref y)) Q E s:=by
 refine wpAny_richCompare_same_room (T:="tuple") (c9 _ B rfl) (c9 _ u rfl) PySem.F.slot_tuple_gt (ej PySem.F.slot_tuple_gt (c9 _ B rfl) PySem.F.entry_tuple_gt ?_ (PySem.F.args_tuple_gt_2 _ _)) (C9 hu);rw[JT];refine af (bN (a:=(.ref x,[.ref y])) (by kernel_rfl) ?_);refine af (lz (T:="tuple") (b:=true) (c9 _ u rfl) (by rw[dr];kernel_rfl) ?_);refine af (nZ B rfl ?_);refine af (nZ u rfl ?_)
 have fin:Go false≠.notImplemented∧Q (.bool false) s:=⟨(λz=>nomatch z),h⟩
 rcases G with ⟨e1,e2,e3⟩|⟨e1,e2,e3⟩
 .refine af (af (af (wn hn hm h1 h2 λe he=>?_)))
  rw[he e1 e2];refine ag (af (af (yq (xs:=xs) (ys:=ys) (by refine(?_:A.in1.units+64<_);have:A.in1.units≤A.units+1:=aR _;exact Rh hu (bR true)) hl hb hi hj λe h3 h4=>?_)))
  cases e with
  | true=>
   exact ag (ag (ag (c9 _ rfl fin)))
  | false=>
   rcases e3 with e3|⟨e4,e5,e6⟩
   .exact absurd (h3 e3) (by decide)
   .refine af (gv (af (LQ (by have:A.in1.units≤A.units+1:=aR _;exact zJ hu (bR true)) hl hb hi hj ?_:ay _ _ (fi .Gt (.ref a1) (.ref a2)) _ _ _)))
    rw[e6];exact af (ag (ag (ag (ag (c9 _ rfl fin)))))
 .refine af (af (af (wW h1 h2 e1 e2 ?_)))
  rw[e3]
  have:(some kb==some dh)=false:=by decide
  rw[this];refine af (gv (af (AutoFloatOps.gt_0 ?_:ay _ _ (fi .Gt (.float J k1) (.float H k2)) _ _ _)));rw[e3];exact af (ag (ag (ag (ag (c9 _ rfl fin)))))
end
end
section
open W PyProof.Rows
theorem Ge(a d:Value):gX "max" ⟨[a],[(PySem.Str.ofString "default",d),(PySem.Str.ofString "key",.none)]⟩:=by unfold gX;kernel_rfl
section
variable {prog:Program}{w:World}{A:Around}{E:VP}{s:Shared}{h₀:Heap}{L l I S:Addr}{m:Lo}{news:Ns}{vs:List Value}{v0 d:Value}{R:Result→Shared→Prop}{Q:VP}
theorem EB(hh:A.handled=none)(hl:∀h,ba h₀ L h news→h.IsList l vs.toArray)(ap:l≠I)(ah:S≠I)(aj:∀p∈news,p.1≠S)(G:∀p∈news,p.1≠I)
  (ab:∀(i:Nat) (v:Value),vs[i]?=some v→0<i→∀(h:Heap) (tk:Nat) (C:VP) (E':VP),Fr h₀ L h m→ba h₀ L h news→C (.bool false) {s with heap:=h,toks:=tk}→ay (aq prog w) A.in1 (je .Gt v v0) C E' {s with heap:=h,toks:=tk})
  (hR:∀h' tk',Fr h₀ L h' m→ba h₀ L h' news→R (.ok (.ret v0)) {s with heap:=h',toks:=tk'}):
  ∀(r i:Nat) (h:Heap) (tk:Nat) (c:Nat) (oI:Obj),vs.length-i=r→1≤i→i≤vs.length→Fr h₀ L h m→
   ba h₀ L h (news++[(S,cE "list" #[v0,v0] c),(I,oI)])→h.IsListIter I l i→
   dH (aq prog w) A (.builtin "max.loop" ⟨[.ref I,.none,.ref S],[("default",d)]⟩) R {s with heap:=h,toks:=tk}:=by
 have B:(Mm "max"++Mm ".loop" : String) = "max.loop":=by decide
 have W:=sr (prog:=prog) (w:=w) (A:=A.in1) hh I l ap vs.toArray;have hsz:vs.toArray.size=vs.length:=aV ..;intro r
 induction r with
 | zero=>
  intro i h tk c oI hr h1 hj F N H;have ar:i=vs.length:=Rd hr hj;have u:=N (S,cE "list" #[v0,v0] c) (zR (.head _));have J:=N (I,oI) (zR (.tail _ (.head _)));have O:ba h₀ L h news:=λp hp=>N p (zL hp);refine eM PySem.F.entry_max_loop ?_;rw[fH PySem.F.plain_max_loop _];refine af (jd u.1 rfl ?_);refine af (jc (W.done _ _ _ ⟨by rw[hsz,← ar];exact H,hl h O⟩ λh' tk' e=>?_));have F1:=kmb_fr F e J.2.1 J.2.2;have N1:=MH O e G;have as:=e S _ (by simpa using ah) u.1;have s1:=cu h' S (bI λ_=>(#[]:Array Value));refine af ?_;refine jH as rfl (af (mh (ag ?_)));exact hR _ _ (ksk_fr F1 s1 u.2.1 u.2.2) (ksk_news N1 s1 aj)
 | succ r ih=>
  intro i h tk c oI hr h1 hj F N H;have aa:i<vs.length:=Rf hr;have u:=N (S,cE "list" #[v0,v0] c) (zR (.head _));have J:=N (I,oI) (zR (.tail _ (.head _)));have O:ba h₀ L h news:=λp hp=>N p (zL hp);refine eM PySem.F.entry_max_loop ?_;rw[fH PySem.F.plain_max_loop _];refine af (jd u.1 rfl ?_);refine af (jc (W.item i _ _ _ (by rw[hsz];exact aa) ⟨H,hl h O⟩ λv h' tk' hP z e=>?_))
  have hv:vs[i]?=some v:=by simpa using hP
  refine fJ (id z.1) λU Y aD ax=>?_;have F1:=kmb_fr F e J.2.1 J.2.2
  have N1:ba h₀ L h' (news++[(S,cE "list" #[v0,v0] c),(I,U)]):=λp hp=>by
   rcases aC.mp hp with hp|hp
   .exact MH O e G p hp
   .rcases ak.mp hp with rfl|hp
    .exact⟨e S _ (by simpa using ah) u.1,u.2⟩
    .rw[aA.mp hp]
     exact⟨Y,J.2⟩
  refine(?_:ay _ A.in1 (tryCatch (gm [v,v] (je .Gt v v0 >>= _)) _ >>= _) _ _ _);refine af (jc (bA (af (ab i v hv h1 h' tk' _ _ F1 (MH O e G) ?_))));refine af (bA (aY ?_));refine af (mh (ag ?_));refine af (mh ?_);rw[B];exact ag ⟨iH PySem.F.plain_max_loop _,ih (i+1) _ _ c U (RX hr) (dI h1) aa F1 N1 z.1⟩
theorem Hz(hh:A.handled=none)(F:Fr h₀ L s.heap m)(N:ba h₀ L s.heap ((I,oI)::news))(hl:(l,listOf vs.toArray n)∈news)(hI:s.heap.IsListIter I l 0)(B:∀p∈news,p.1≠I)(h0:vs[0]?=some v0)
  (ab:∀(i:Nat) (v:Value),vs[i]?=some v→0<i→∀(h:Heap) (tk:Nat) (C:VP) (E':VP),Fr h₀ L h m→ba h₀ L h news→C (.bool false) {s with heap:=h,toks:=tk}→ay (aq prog w) A.in1 (je .Gt v v0) C E' {s with heap:=h,toks:=tk})
  (hQ:∀h' tk',Fr h₀ L h' m→ba h₀ L h' news→Q v0 {s with heap:=h',toks:=tk'}):
  ay (aq prog w) A (call (.builtin "max") [.ref I] [(PySem.Str.ofString "default",d),(PySem.Str.ofString "key",.none)]) Q E s:=by
 have u:(Mm "max"++Mm ".loop" : String) = "max.loop":=by decide
 have hL:L<s.heap.objs.size:=F.ns.lt;have ar:I<s.heap.objs.size:=bM (N _ (zH)).1;have nI:=N _ (zH)
 have z:∀h,ba h₀ L h news→h.IsList l vs.toArray:=λh N'=>(cZ _ ((N' _ hl).1) rfl ⟨n,rfl⟩)
 refine kmb_tree PySem.F.kind_max PySem.F.plain_max PySem.F.entry_max (Ge _ _) ?_;refine af (bN (rfl:Na "max" ["key","default"] 0 ⟨[],[(PySem.Str.ofString "default",d),(PySem.Str.ofString "key",.none)]⟩=ck [some .none,some d]) ?_);refine af (ag ?_);refine af (wpAny_pyIter_listiter hI ?_);refine af (vi ?_ (c7 _));rw[u];have W:=sr (prog:=prog) (w:=w) (A:=A.in1) hh I l (B _ hl) vs.toArray;have J:0<vs.length:=(bP.mp h0).1;have hsz:vs.toArray.size=vs.length:=aV ..;have up:∀b o,s.heap.get? b=some o→(s.heap.push (cE "list" #[] 0)).get? b=some o:=λb o e=>aG _ e;have F1:Fr h₀ L (s.heap.push (cE "list" #[] 0)) m:=F.push _;have N1:=N.grown up;have hS:(s.heap.push (cE "list" #[] 0)).get? s.heap.objs.size=some (cE "list" #[] 0):=a9 _ rfl;have G:s.heap.objs.size≠I:=aF ar;have aa:∀p∈news,p.1≠s.heap.objs.size:=λp hp=>aB (bM (N p (zT hp)).1);have ah:s.heap.objs.size≠L:=aF hL;have aj:h₀.get? s.heap.objs.size=none:=jh F;have Nn:ba h₀ L (s.heap.push (cE "list" #[] 0)) news:=λp hp=>N1 p (zT hp)
 have aQ:(s.heap.push (cE "list" #[] 0)).IsListIter I l 0:=by refine fK hI λo e r=>?_;try clear hI;exact(c9 o (up _ _ e) r)
 refine ag ⟨iH PySem.F.plain_max_loop _,eM PySem.F.entry_max_loop ?_⟩;rw[fH PySem.F.plain_max_loop _];refine af (jd hS rfl ?_);refine af (jc (W.item 0 _ _ _ (by rw[hsz];exact J) ⟨aQ,z _ Nn⟩ λv h' tk' hP Y O=>?_))
 have hv:vs[0]?=some v:=by simpa using hP
 have ax:v=v0:=dJ (hv.symm.trans h0);subst ax;refine fJ (id Y.1) λU H aM aD=>?_;have F2:=kmb_fr F1 O nI.2.1 nI.2.2;have N2:=MH Nn O B;have ap:=O _ _ (by simpa using G) hS;have s1:=cu h' s.heap.objs.size (bI λ_=>#[v,v])
 obtain ⟨c2,hc2⟩:∃c2,(h'.update s.heap.objs.size (bI λ_=>#[v,v])).get? s.heap.objs.size=some (cE "list" #[v,v] c2):=⟨_,fA ap λ_=>#[v,v]⟩
 refine(?_:ay _ A.in1 (GF s.heap.objs.size (λ_=>#[v,v]) >>= _) _ _ _);refine af ?_;refine jH ap rfl ?_;rw[u];refine ag ⟨iH PySem.F.plain_max_loop _,EB hh z (B _ hl) G aa B ab (λh3 as F3 N3=>hQ h3 as F3 N3) _ 1 _ _ c2 U rfl (aR _) J (ksk_fr F2 s1 ah aj) (λp hp=>?_) (cZ U ((s1.2 I G.symm).trans H) aM aD)⟩
 rcases aC.mp hp with hp|hp
 .exact ksk_news N2 s1 aa p hp
 .rcases ak.mp hp with rfl|hp
  .exact(eR hc2 ah aj)
  .rw[aA.mp hp]
   exact⟨(s1.2 I G.symm).trans H,nI.2⟩
end
theorem Aj:kC xb "iter"=some Builtin.«iter»:=qP (by kernel_rfl)
theorem CF(a:Value):gX "iter" ⟨[a],[]⟩:=by unfold gX;kernel_rfl
theorem Cy{prog:Program}{w:World}{A:Around}{E:VP}{s:Shared}{h₀:Heap}{L l:Addr}{m:Lo}{news:Ns}{its:Array Value}{n:Nat}{Q:VP}(F:Fr h₀ L s.heap m)(N:ba h₀ L s.heap news)(hl:(l,listOf its n)∈news)
  (h:∀D h',Fr h₀ L h' m→ba h₀ L h' ((D,({cls:=.type "list_iterator",data:=.fields #[.ref l,.int 0 0]} : Obj))::news)→(∀p∈news,p.1<D)→Q (.ref D) {s with heap:=h'}):ay (aq prog w) A (call (.builtin "iter") [.ref l]) Q E s:=by
 refine xx (by decide +kernel) (by decide +kernel) Aj (CF _) ?_;unfold Builtin.«iter»;refine af (m:=someArgs "iter" 1 2 _) (bN (a:=[bF l]) (by first|rfl|kernel_rfl) ?_);refine af (kx (cZ _ ((N _ hl).1) rfl ⟨n,rfl⟩) ?_);refine ag (c9 _ rfl (h _ _ (F.push _) (λp hp=>?_) λp hp=>bM (N p hp).1))
 rcases ak.mp hp with e|hp
 .rw[e];exact(eR (a9 _ rfl) (aF F.ns.lt) (jh F))
 .exact⟨aG _ (N p hp).1,(N p hp).2⟩
end
section
open W PyProof Rows
theorem rU:Slot "object" "__init__" "object.__init__":=
 .of (owner:="object") (n:="__init__") (by rw[cr,bu];kernel_rfl) (by decide +kernel) (by decide +kernel) (by decide +kernel)
  (by first|exact .inl (by decide +kernel)|exact .inr (by decide +kernel)) (by rw[dr];kernel_rfl)
theorem qy:mroOf (.type "object")=ck [.type "object"]:=by rw[mroOf_type];kernel_rfl
theorem rg:gw (.type "object") "__new__"=ck (some (.builtin "object.__new__")):=by rw[cr,bu];kernel_rfl
theorem qm:TypeCalled "object" "object.__new__" "object.__init__":=
 ⟨by decide +kernel,by decide +kernel,(ro _ _ qy),madeBy_type qy rg (by decide +kernel),by decide +kernel,by rw[dr];kernel_rfl,rU⟩
theorem sH:checkTypeCall "object" ⟨[],[]⟩=ck ():=by kernel_rfl
theorem ux:yS "object.__new__" ⟨[.type "object"],[]⟩=ck ():=by kernel_rfl
theorem sk(a:Value):gX "object.__init__" ⟨[a],[]⟩:=by unfold gX;kernel_rfl
theorem r6:Meets (Builtin.«object.__new__» ⟨[.type "object"],[]⟩) (λ_ R s=>R (.ok (.ret (.ref s.heap.objs.size))) {s with heap:=s.heap.push {cls:=.type "object",data:=.plain} }):=
 .of_wp λprog w A R s h=>by
  obtain ⟨hp,g,d,tk,os⟩:=s;have h1:=qy;have h2:=qm.made
  wp_walk
  exact(c9 _ rfl h)
theorem rf(e:Value):Meets (Builtin.«object.__init__» ⟨[e],[]⟩) (λ_ R s=>R (.ok (.ret .none)) s):=Meets.of_wp λprog w A R s hs=>ag (c9 _ rfl hs)
theorem yF(F:Fr h₀ L s.heap m)(N:ba h₀ L s.heap news)
  (h:∀D h',Fr h₀ L h' m→ba h₀ L h' ((D,({cls:=.type "object",data:=.plain} : Obj))::news)→(∀p∈news,p.1<D)→Q (.ref D) {s with heap:=h'}):ay (aq prog w) A (call (.type "object") []) Q E s:=by
 refine callType_meets (Q₁:=λG s₁=>G=.ref s.heap.objs.size∧s₁ = {s with heap:=s.heap.push {cls:=.type "object",data:=.plain} }) qm sH ux PySem.F.entry_object_new PySem.F.entry_object_init r6 ⟨rfl,rfl⟩ λG s₁ u=>?_;refine b7 u λB z=>?_
 try clear u
 subst B;subst z;refine(eR (c9 _ (a9 _ rfl) rfl) (sk _) ⟨_,rf _,rfl,h _ _ (F.push _) (λp hp=>?_) λp hp=>bM (N p hp).1⟩)
 rcases ak.mp hp with e|hp
 .rw[e];exact(eR (a9 _ rfl) (aF F.ns.lt) (jh F))
 .exact⟨aG _ (N p hp).1,(N p hp).2⟩
end
section
open W PyProof Rows PySem.Calls
noncomputable def IN(scr:Addr×List Int→UInt64)(outs:List vC):Prop:=
 ∃o0 rest,outs=o0::rest∧∀o∈rest,(scr o.2=scr o0.2∧cV (scr o.2) (scr o.2)=some dh∧(o.2.1=o0.2.1∨(o.2.1≠o0.2.1∧o.2.2≠o0.2.2∧ls o0.2.2 o.2.2=false)))∨(scr o.2≠scr o0.2∧cV (scr o.2) (scr o0.2)=some kb)
noncomputable abbrev zD:Obj:={cls:=.type "object",data:=.plain}
theorem B3{M:Model}{A:Around}{E:VP}{s:Shared}{Q:VP}{x y:Addr}{a:Array Value}(e:x≠y)(z:s.heap.get? x=some (dO a))(u:s.heap.get? y=some zD)(h:Q (.bool false) s):ay M A (fi .Is (.ref x) (.ref y)) Q E s:=by
 refine af ?_;refine(?_:ay M A (if (x==y)=true then ck true else _) _ E s);rw[if_neg (by rw[beq_iff_eq];exact e)];exact af (n4 z (af (n4 u (ag (ag h)))))
noncomputable def Md(outs outs2:List vC):Prop:=∀o0 rest,outs=o0::rest→outs2=[o0]
noncomputable abbrev Rq(l:Addr):Obj:={cls:=.type "list_iterator",data:=.fields #[.ref l,.int 0 0]}
section
variable {cs:Scope}{c:Fm W0 cs}{sc:Scope}{k:Cx c sc}{m:Lo}{n:Ns}{R:Re}{rest:List Stmt}
theorem Im{f e:PE}{pos:Pos}{l:Addr}{its:Array Value}{ep:Nat}(hf:Ev c.cx m n f (.val (.builtin "iter")))(he:Ev c.cx m n e (.val (.ref l)))(hl:(l,listOf its ep)∈n)
  (h1:autoParam (CC c.env f [e] pos) zAa) (h2:autoParam (SE c.env e []) zAa):Er c.cx m n (.Call f [e] [] pos) (λv n'=>∃D,v=.ref D∧n'=(D,Rq l)::n∧∀p∈n,@aP Nat _ p.1 D):=
 oU (P:=λv n'=>v=.ref l∧n'=n) hf (fx (iL he) λv n' h=>⟨h.1,h.2⟩) (λv n' p Q s hi hq=>by
  obtain ⟨rfl,rfl⟩:=p
  exact Cy hi.at.1 hi.at.2 hl λD h' F N l=>hq _ _ _ ⟨D,rfl,rfl,l⟩ (hi.to (tk:=s.toks) F N)) h1 h2
theorem Ck{f:PE}{pos:Pos}(hf:Ev c.cx m n f (.val (.type "object")))(h1:autoParam (CC c.env f [] pos) zAa):Er c.cx m n (.Call f [] [] pos) (λv n'=>∃D,v=.ref D∧n'=(D,zD)::n∧∀p∈n,@aP Nat _ p.1 D):=
 ⟨λQ s hi hQ=>gq (hf.run _ s hi λv s1 e i1=>by
  cases e
  exact By (yF i1.at.1 i1.at.2 λD h' F N l=>hQ _ _ _ ⟨D,rfl,rfl,l⟩ (i1.to (tk:=s1.toks) F N))) h1⟩
theorem Fo{f e1 e2 e3:PE}{id:String}{x y:Str}{u e pos:Pos}{v1 v2 z:Value}{P:Value→Ns→Prop}(hf:Ev c.cx m n f (.val (.builtin id)))(h1:Ev c.cx m n e1 (.val v1))(h2:Ev c.cx m n e2 (.val v2))(h3:Ev c.cx m n e3 (.val z))
  (hC:∀(Q:VP) s,c.cx.Is m n s→(∀v n' s',P v n'→c.cx.Is m n' s'→Q v s')→ay (aq P0 W0) c.A (call (.builtin id) [v1] [(x,v2),(y,z)]) Q c.E s)
  (c1:autoParam (eval (.Call f [e1] [⟨some x,e2,u⟩,⟨some y,e3,e⟩] pos) c.env=(do iG pos (← eval f c.env) [] (ff pos (bV [e1] c.env)) (backToKw pos (keywordEach [⟨some x,e2,u⟩,⟨some y,e3,e⟩] c.env)))) zAa) (c2:autoParam (SE c.env e1 []) zAa):Er c.cx m n (.Call f [e1] [⟨some x,e2,u⟩,⟨some y,e3,e⟩] pos) P:=
 ⟨λQ s hi hQ=>by
  refine(?_:ay _ _ (eval (.Call f [e1] [⟨some x,e2,u⟩,⟨some y,e3,e⟩] pos) c.env) _ _ _);rw[show _=_ from c1];refine af (hf.run _ s hi λv s1 U i1=>?_);cases U;refine callWith_kw (kws:=[⟨some x,e2,u⟩,⟨some y,e3,e⟩]) ?_ (congrArg (ff pos) c2) (congrArg (λl=>(ff pos l).any (·.1)) c2);refine aI (h1.run _ s1 i1 λv s2 d2 i2=>bJ ?_) c2;refine kws_cons (h2.run _ s2 i2 λv G O i3=>?_);refine kws_cons (h3.run _ G i3 λv B J H=>kws_nil ?_);cases d2;cases O;cases J
  exact hC Q B H hQ⟩
theorem LF{test b1 b2:PE}{pos:Pos}{P:Value→Ns→Prop}(ht:Tw k m n test (eval test k.env) false)(h:Er k m n b2 P):Er k m n (.IfExp test b1 b2 pos) P:=
 ⟨λQ s hi hq=>wpAny_IfExp (ht.run _ s hi λs' i=>h.run Q s' i hq)⟩
theorem Nl{l r:PE}{pos:Pos}{wh}{x y:Addr}{a:Array Value}(hl:Ev k m n l (.val (.ref x)))(hr:Ev k m n r (.val (.ref y)))(z:(x,dO a)∈n)(u:(y,zD)∈n)(e:x≠y)(hm:autoParam (eN .Is r=false) zAc):Tw k m n (.Compare l [.Is] [r] pos) wh false:=
 ⟨λ_ s hi hq=>bX (hl.run _ s hi λv s1 B i1=>hr.run _ s1 i1 λv2 s2 d2 i2=>by
  cases B;cases d2
  exact B3 e (i2.get z) (i2.get u) (aY (hq _ i2))) hm⟩
theorem E4{body u:List Stmt}{h0:ExceptHandler}{hs:List ExceptHandler}{pos:Pos}(hb:∀(E':VP) (hE':lG (aq P0 W0) c.A c.env E'),cK {c with E:=E',hE:=hE'} m n body (λf m' n'=>f=.next∧cK c m' n' u (md c rest R))):cK c m n (.Try body (h0::hs) u [] pos::rest) R:=
 bK ⟨λQ s hi hq=>by
  refine wpAny_Try_except ?_;have hE:=c.hE;refine(hb (λe s₁=>ay (aq P0 W0) c.A (yP e c.env) (λ_ s₂=>ay (aq P0 W0) c.A (setFlight e none) (λ_ s₃=>ay (aq P0 W0) c.A (handleBy e c.env (h0::hs)) Q c.E s₃) c.E s₂) c.E s₁) ?hE').run _ s (let ⟨h,tk,e,F,N⟩:=hi;⟨h,tk,e,F,N⟩) λf m' n' s' r i=>?_
  case hE'=>passes_own
  obtain ⟨rfl,r⟩:=r
  exact r.run Q s' (let ⟨h,tk,e,F,N⟩:=i;⟨h,tk,e,F,N⟩) hq⟩
theorem LA{u z:PE}{pos p:Pos}{i:Int}{P P':Value→Ns→Prop}(hv:Er k m n u P)(hu:∀n',Ev k m n' z (.int i))(hP:∀v n',P v n'→∃l vs ep,v=.ref l∧(l,listOf (bO vs) ep)∈n'∧vs.length≤1000∧jE vs.toArray.toList none (some i)=vs∧∀D,(∀q∈n',@aP Nat _ q.1 D)→P' (.ref D) ((D,listOf vs.toArray 0)::n'))
  (hs:autoParam (∀(l d:Addr),j4 (.Slice none (some z) none p) false (.ref l) (.ref d)=tQ [.ref d,.ref l] (pP (.ref l) (.ref d))) zAq):
  Er k m n (.Subscript u (.Slice none (some z) none p) pos) P':=
 ⟨λQ s hi hq=>og (hv.run _ s hi λo n1 s1 B i1=>by
  obtain ⟨l,vs,ep,rfl,hm,hz,e,hD⟩:=hP _ _ B;refine y7 (ag ((hu n1).run _ s1 i1 λv s2 d2 i2=>ag ?_));obtain ⟨t,rfl⟩:=d2;obtain ⟨m0,ex,F,N,cl⟩:=qw k i2
  exact kba_turn (value':=.Name "" pos) (λ_=>rfl) (Gn F N ⟨_,i2.get hm,rfl,⟨ep,rfl⟩⟩ .none (.int _ _) e (λD h' J H G=>hq _ _ _ (hD D λq hq=>G q (zR hq)) (cl h' s2.toks D _ J H)) (hs _ _) (λ_=>rfl) (by rw[aV];exact aw hz (by decide))))⟩
end
inductive MU(Rel:List vC→List vC→Prop)(outs:List vC)(news:Ns):Value→Ns→Prop
 | mk (NR:Addr) (outs2:List vC) (c2:Nat) (h1:Rel outs outs2) (h2:∀o∈outs2,o∈outs) (h3:outs2.length≤40) (h4:∀p∈news,@aP Nat _ p.1 NR):MU Rel outs news (.ref NR) ((NR,listOf (refsOf outs2).toArray c2)::news)
theorem Ep{c:Fm W0 (tw P0.main.body 9)}{m:Lo}{RS:Addr}{re:Nat}{outs:List vC}{scr:Addr×List Int→UInt64}{tn:Tok}{tok:Addr→Tok}{oK:Obj}{news N:Ns}(hK:(c.L+1,oK)∈N)(H:∀p∈(RS,listOf (refsOf outs).toArray re)::news,p∈N)(aj:c.cl=fQ (c.L+1) (tw P0.main.body 9).names [])(dK:oK.data=.cell (some .none))(mn:m "n"=some (.int 1 tn))(mi:m "iterable"=some (.ref RS))(hu:c.un+197<cT)(U:IN scr outs)(ho:∀o∈outs,tok o.1≠0∧(o.1,dO #[.float (scr o.2) (tok o.1),.ref o.2.1])∈news)(aa:∀o∈outs,∀o'∈outs,tok o.1=tok o'.1→o=o')(B:∀o∈outs,jo news o.2):
  cK c m N (vh P0.main.body 9) (λfl _ n'=>∃n2,MU Md outs ((RS,listOf (refsOf outs).toArray re)::news) (yc fl) n2∧∀p∈n2,p∈n'):=by
 obtain ⟨u,rest,rfl,hp⟩:=U;refine dz (eD wp (ai mn) bf) (λ_=>?_) (λh=>nomatch h);refine dG (Im cO (am mi) (H _ (zH))) λv n' h=>?_;obtain ⟨I,rfl,rfl,l1⟩:=h;refine dG (Ck cO) λv n' h=>?_;obtain ⟨O,rfl,rfl,l2⟩:=h;have hw:∀{p:Addr×Obj},p∈news→p∈(O,zD)::N:=λh=>zT (H _ (zT h));refine dG (Fo (P:=λv n'=>v=.ref u.1∧n'=(O,zD)::N) cO (am (bc cW)) (am cW) (eH (a:=c.L+1) (o:=oK) (by refine(?_:c.cl.lookup _=_);rw[aj];rfl) (bk 2 hK) dK) λQ s hi hq=>?_) λv n' h=>?_
 .have i2:c.cx.Is _ ((I,Rq RS)::(O,zD)::N) s:=hi.sub (iz [1,0] 2 rfl)
  refine Hz (v0:=.ref u.1) (vs:=refsOf (u::rest)) (l:=RS) rfl i2.at.1 i2.at.2 (zT (H _ (zH))) ⟨_,i2.get (a8 0 rfl),rfl,rfl⟩ (FC (aF (l2 _ (a8 0 rfl))) λp hp=>aB (l1 p hp)) rfl (λi v hv h0 h' tk' C E' F' J hC=>?_) λh' tk' F' J=>hq _ _ _ ⟨rfl,rfl⟩ (i2.to F' J);obtain ⟨o,ab,rfl⟩:=mH hv
  have Y:o∈rest:=by
   cases i with
   | zero=>exact absurd h0 (by decide)
   | succ i=>exact cq ab
  have G:o∈u::rest:=zT Y;obtain ⟨ah,m1⟩:=ho _ G;obtain ⟨hk2,m2⟩:=ho u (zH);obtain ⟨va,ea,l1,i1,_⟩:=B _ G;obtain ⟨vb,eb,l2,i2,_⟩:=B u (zH);obtain ⟨mc,hn,hm⟩:=uh (c.X.keeps F'.keep) (c.T.nolimit.keeps F'.keep) (by kernel_rfl);refine JP (aK (bq (by decide:71≤197) c.un) hu:c.un+71<cT) hn hm ah hk2 (J _ (hw m1)).1 (J _ (hw m2)).1 (J _ (hw l1)).1 (J _ (hw l2)).1 i1 i2 ?_ hC
  rcases hp o Y with ⟨q1,q2,q3⟩|⟨q1,q2⟩
  .exact .inl ⟨q1,q2,q3⟩
  .exact .inr ⟨q1,λz=>q1 (by rw[aa o G u (zH) z]),q2⟩
 .obtain ⟨rfl,rfl⟩:=h
  have m0:=(ho u (zH)).2;refine mU (LF (Nl (am cW) (am (bc cW)) (hw m0) (a8 0 rfl) (aB (l2 _ (bk 1 (H _ (zT m0))))) (by decide)) (rA (iL (am cW)) (P':=λv n'=>∃D,v=.ref D∧n'=(D,listOf [bF u.1].toArray 0)::(O,zD)::N∧∀p∈(RS,listOf (refsOf (u::rest)).toArray re)::news,@aP Nat _ p.1 D) λv n' D h l=>?_)) λv n' h=>?_
  .obtain ⟨h,rfl⟩:=h
   cases h;exact⟨D,rfl,rfl,λp hp=>l p (bk 1 (H p hp))⟩
  .obtain ⟨D,rfl,rfl,l⟩:=h
   exact⟨_,.mk D [u] 0 (λa b e=>by cases e;rfl) (λo h=>by rw[aA.mp h];exact zH) (by decide:1≤40) l,FC (zH) λp hp=>bk 2 (H p hp)⟩
theorem AU{nn:Int}{scr:Addr×List Int→UInt64}{Pre:List vC→Prop}{Rel:List vC→List vC→Prop}(hb:∀{c:Fm W0 (tw P0.main.body 9)}{m:Lo}{RS:Addr}{re:Nat}{outs:List vC}{u:Tok}{tok:Addr→Tok}{oK:Obj}{news N:Ns},(c.L+1,oK)∈N→(∀p∈(RS,listOf (refsOf outs).toArray re)::news,p∈N)→c.cl=fQ (c.L+1) (tw P0.main.body 9).names []→oK.data=.cell (some .none)→m "n"=some (.int nn u)→m "iterable"=some (.ref RS)→c.un+197<cT→Pre outs→(∀o∈outs,tok o.1≠0∧(o.1,dO #[.float (scr o.2) (tok o.1),.ref o.2.1])∈news)→(∀o∈outs,∀o'∈outs,tok o.1=tok o'.1→o=o')→(∀o∈outs,jo news o.2)→
  cK c m N (vh P0.main.body 9) (λfl _ n'=>∃n2,MU Rel outs ((RS,listOf (refsOf outs).toArray re)::news) (yc fl) n2∧∀p∈n2,p∈n')):sq W0 nn scr Pre Rel:=by
 intro gp gl mean mg mb dp un gd cn cs a ccd cl outer A₀ base h₀ L m news s Q E RS re outs u B F X N T hk z hu hl hp ht hr hret;obtain ⟨tok,h1,h2⟩:=ht
 exact(tH (n:=(RS,listOf (refsOf outs).toArray re)::news) (P:=MU Rel outs ((RS,listOf (refsOf outs).toArray re)::news)) (dp:=19) (un:=197) (body:=vh P0.main.body 9) (scope:=tw P0.main.body 9) (binds:=[("n",.int nn u),("iterable",.ref RS),("key",.none)]) (by with_unfolding_all rfl) (by with_unfolding_all rfl) (λs X=>pQ X rfl (by with_unfolding_all rfl) rfl rfl rfl) rfl (by decide +kernel) rfl rfl rfl λc m H hd hu G Y off e=>by
  subst e;obtain ⟨o,rfl,d1⟩:=JE (n:=ae "key") (c:=c.L+1) Y
  exact hb (zH) (λp hp=>zT hp) G d1 rfl rfl hu hp h1 h2 hr).run B F X N T hk z hu λv n' h' tk' p F' N'=>by
  cases p with|mk NR outs2 c2 q1 U O J=>exact hret NR outs2 c2 h' tk' q1 U O (λp hp=>J p (zT hp)) F' (cm N' (FC (zH) λp hp=>zT (zT hp)))
theorem Eo{scr:Addr×List Int→UInt64} : sq W0 1 scr (IN scr) Md:=AU Ep
theorem Lx{cs:Scope}{c:Fm W0 cs}{sc:Scope}{k:Cx c sc}{m:Lo}{n:Ns}{kk:Nat}{pos:Pos} : Ev k m n (.Constant (.bool true) kk pos) (.val (.bool true)):=⟨λ_ _ hi hq=>wpAny_Constant_bool (hq _ _ rfl hi)⟩
theorem DT{vs:List Value}{n:Nat}(h:vs.length≤n):jE vs.toArray.toList none (some (n:Int))=vs:=by
 have e:=BN h;rw[kms_pick_eq] at e;exact e
theorem BZ{c:Fm W0 (tw P0.main.body 9)}{m:Lo}{RS:Addr}{re:Nat}{outs:List vC}{scr:Addr×List Int→UInt64}{tn:Tok}{tok:Addr→Tok}{oK:Obj}{news N:Ns}(hK:(c.L+1,oK)∈N)(hS:∀p∈(RS,listOf (refsOf outs).toArray re)::news,p∈N)(ax:c.cl=fQ (c.L+1) (tw P0.main.body 9).names [])(dK:oK.data=.cell (some .none))(mn:m "n"=some (.int 16 tn))(mi:m "iterable"=some (.ref RS))(hu:c.un+197<cT)(G:outs.length≤16)(ho:∀o∈outs,tok o.1≠0∧(o.1,dO #[.float (scr o.2) (tok o.1),.ref o.2.1])∈news)(U:∀o∈outs,jo news o.2):
  cK c m N (vh P0.main.body 9) (λfl _ n'=>∃n2,MU (wt scr) outs ((RS,listOf (refsOf outs).toArray re)::news) (yc fl) n2∧∀p∈n2,p∈n'):=by
 have u:(refsOf outs).length=outs.length:=aE ..;have Y:(refsOf outs).length≤16:=u▸G;refine dz (eD wp (ai mn) bf) (λh=>nomatch h) (λ_=>bQ ?_);refine E4 λE' hE'=>ft (qF cO (am mi) (hS _ (zH)) (aw Y (by decide))) λt=>b9 ⟨rfl,?_⟩;refine dz (eD FF (ai (bc mn)) (ai cW)) (λ_=>?_) (λh=>absurd (dk.mpr Y) (of_decide_eq_false h));have hw:∀{p:Addr×Obj},p∈news→p∈N:=λh=>hS _ (zT h);refine mU (LA (Fo (P:=λv n'=>∃D outs2 c2,v=.ref D∧wt scr outs outs2∧(∀p∈N,@aP Nat _ p.1 D)∧n'=(D,listOf (refsOf outs2).toArray c2)::N) cO (am (bc mi)) (eH (a:=c.L+1) (o:=oK) (by refine(?_:c.cl.lookup _=_);rw[ax];rfl) hK dK) Lx λQ s hi hq=>?_) (P':=λv n'=>∃n2,MU (wt scr) outs ((RS,listOf (refsOf outs).toArray re)::news) v n2∧∀p∈n2,p∈n') (λn'=>ai (bc mn)) λv n' h=>?_) λv n' h=>h
 .refine ug (vs:=refsOf outs) (κ:=tuples' true) (R:=RJ scr outs.reverse) (lt:=λi j=>ls (rl outs.reverse i) (rl outs.reverse j)) hi.at.1 hi.at.2 ⟨_,hi.get (hS _ (zH)),rfl,⟨re,rfl⟩⟩ (aK Y (by decide)) (ksk_s2 _ _ _) (λx=>ksk_l2 _ _ _) J4 (λh2 h' Q' F' O hq=>?_) (λi j h' tk C hi hj F' O hC=>?_) λD p cc h' tk hp ab hD F' O=>?_
  .obtain ⟨fs,t1,t2,t3⟩:=Hb (h:=h') (scr:=scr) (λo ar=>let ⟨_,hm⟩:=ho o ar;⟨_,(O _ (hw hm)).1⟩)
   refine kat_kind (T:=.type "float") (fs:=fs) t1 (by rw[u] at h2;rw[t3];exact iE h2) (λv hv=>?_) (by decide) hq;obtain ⟨f,t,rfl⟩:=t2 v hv;exact .now
  .have J:i<outs.reverse.length:=by rw[bg,← u];exact hi
   have H:j<outs.reverse.length:=by rw[bg,← u];exact hj
   rw[mG,gZ _ J,gZ _ H];have aj:outs.reverse[i]∈outs:=fB.mp (bG J);have ah:outs.reverse[j]∈outs:=fB.mp (bG H);obtain ⟨as,m1⟩:=ho _ aj;obtain ⟨hk2,m2⟩:=ho _ ah;obtain ⟨va,ea,l1,i1,_⟩:=U _ aj;obtain ⟨vb,eb,l2,i2,_⟩:=U _ ah;obtain ⟨mc,hn,hm⟩:=uh (c.X.keeps F'.keep) (c.T.nolimit.keeps F'.keep) (by kernel_rfl);refine JO (aK (bq (by decide:66≤197) c.un) hu:c.un+66<cT) hn hm as hk2 (O _ (hw m1)).1 (O _ (hw m2)).1 (O _ (hw l1)).1 (O _ (hw l2)).1 i1 i2 λb hb=>hC b tk ⟨J,H,λp p' e e'=>?_⟩;rw[ao J] at e;rw[ao H] at e';cases e;cases e';exact hb
  .have aa:P outs.reverse.length p:=by rw[bg,← u];exact hp
   have e2:(p.toList.map λi=>(refsOf outs).reverse.getD i Value.none).reverse=refsOf ((p.toList.map λi=>outs.reverse.getD i ((0,(0,[])):vC)).reverse):=by
    rw[mG,pj outs.reverse ((0,(0,[])):vC) aa,mG]
   rw[e2] at O;have B:=po outs.reverse ((0,(0,[])):vC) aa;refine hq _ _ _ ⟨D,_,cc,rfl,⟨(jK _).trans (B.trans (jK _)),λg1 g2 g3 g4=>?_⟩,hD,rfl⟩ (hi.to F' O);rw[kj]
   by_cases h2:2≤(refsOf outs).length
   .have gd:=Lj (scr:=scr) (outs:=outs.reverse) (λo h o' h'=>g1 o (fB.mp h) o' (fB.mp h')) (λo h=>g2 o (fB.mp h)) (by rw[vk];exact(jK _).nodup_iff.mpr g3) (λo h o' h'=>g4 o (fB.mp h) o' (fB.mp h'))
    rw[bg,← u] at gd;have:=ab h2 gd;rw[u,← bg] at this;exact Nz aa this _
   .have hl:(p.toList.map λi=>outs.reverse.getD i ((0,(0,[])):vC)).length<2:=by rw[B.length_eq,bg,← u];exact cI h2
    match hm:(p.toList.map λi=>outs.reverse.getD i ((0,(0,[])):vC)),hl with
    | [],_=>exact qc
    | [x],_=>exact gS _ _
 .obtain ⟨D,outs2,c2,rfl,z,hD,rfl⟩:=h
  have ap:(refsOf outs2).length≤16:=by rw[refsOf,aE,z.1.length_eq];exact G
  exact⟨D,refsOf outs2,c2,rfl,zH,aw ap (by decide),DT (n:=16) ap,λD2 l=>⟨_,.mk D2 outs2 0 z (λo h=>z.1.mem_iff.mp h) (aw (z.1.length_eq▸G) (by decide)) (λp hp=>l p (bk 1 (hS p hp))),FC (zH) λp hp=>bk 2 (hS p hp)⟩⟩
theorem BY{scr:Addr×List Int→UInt64} : sq W0 16 scr (λouts=>outs.length≤16) (wt scr):=AU λhK B e G u z hu hl ho _ hr=>BZ hK B e G u z hu hl ho hr
end
section
open W PyProof Rows
theorem kw_LW15_0:True:=by
 k_with_none
 k_with "zcall ref"=>(k_here;refine sf ?_)
 k_with "zeval BinOp"=>(k_here;refine sf ?_)
 trivial
theorem km_LW15:True:=by
 k_with "zmm"=>first|with_reducible assumption|exact a8 0 rfl|exact a8 1 rfl|exact a8 2 rfl|exact a8 3 rfl|exact a8 4 rfl|exact a8 5 rfl|exact a8 6 rfl|exact a8 7 rfl|exact a8 8 rfl|exact a8 9 rfl|(refine bk 1 ?_;assumption)|(refine bk 2 ?_;assumption)|(refine bk 3 ?_;assumption)|(refine bk 4 ?_;assumption)|(refine bk 5 ?_;assumption)|(refine bk 6 ?_;assumption)|(refine bk 7 ?_;assumption)|(refine bk 8 ?_;assumption)|(refine bk 9 ?_;assumption)|k_extra "zmt"
 trivial
open PyProof.Rows.LCg
theorem B4(hb:0<b)(u:b≤40)(h2:2*m≤b):¬nb (nJ m b)=true:=by
 refine pU (tu (ui hb u h2).1) λx e h _=>?_;unfold nb;rw[h];intro e;cases e
theorem Ia{cs:Scope}{c:Fm W0 cs}{sc:Scope}{k:Cx c sc}{m:Lo}{n:Ns}{l r:PE}{pos}{a b:Int}(hl:Ev k m n l (.int a))(hr:Ev k m n r (.int b)){p q:Nat}(ha:a=2*(p:Int))(hb:b=(q:Int))(h0:0<q)(H:q≤40)(h2:2*p≤q):Ev k m n (.BinOp l .Div r pos) (.flt (nJ p q)):=
 ⟨λ_ s hi hq=>dX (hl.run _ s hi λv s1 hv h1=>hr.run _ s1 h1 λv2 s2 G J=>by
  refine cp hv λt B=>?_
  try clear hv
  subst B;refine cp G λu z=>?_
  try clear G
  subst z
  have e:lH (decide (a<0) != decide (b<0)) a.natAbs b.natAbs=nJ p q:=by
   rw[(ui h0 H h2).2,decide_eq_false (by exact λhh=>(qz (g5 [a,p] 1 Y0 (.k (-1)) 1 (.a Z0 Y1) Y0 1 (.m 2 Z1) Z0 2 Y0 Z1 rfl hh (iq ha) j0))),decide_eq_false (by exact λhh=>(qz (g5 [b,q] 2 Y0 (.k (-1)) 1 (.a Z0 Y1) Y0 1 (.a Y0 Y1) Z1 1 Z1 Z0 rfl hh (d9 h0) (iq hb)))),show a.natAbs=2*p by lia,show b.natAbs=q by exact Sk hb];rfl
  refine xB (by simp;exact λhh=>(qz (g5 [b,q] 1 Y0 (.k (-1)) 1 Z0 Y0 1 (.a Y0 Y1) Z1 1 Z1 Z0 rfl (gV hh) (d9 h0) (iq hb)))) (by rw[e];exact B4 h0 H h2) ?_;rw[e]
  exact hq _ _ ⟨_,rfl⟩ J.toks)⟩
theorem QP(h0:0<q)(e:q≤40)(h2:2*p≤q):MW prog W0 (.float (nJ p q) t):=λA E s u Q hq=>yV (by rw[xD h0 e h2];exact hq)
theorem QO(h0:0<q)(e:q≤40)(h2:2*p≤q):MV prog W0 (.float (nJ p q) t):=λA E s u Q hq=>yV (by rw[zv h0 e h2];exact hq)
theorem QQ:At prog W0 (.float x t) (λy=>H1 y x):=λA E s y u Q hq=>AutoFloatOps.ge_0 hq
theorem ip(h:jo T q)(hs:∀p∈T,p∈T'):jo T' q:=by
 refine pU h λva ep h1 h2=>?_
 try clear h
 exact(wL va ep (hs _ h1) h2)
theorem uu{l:List Int}(h:l.Pairwise (· < ·)):l.Nodup:=h.imp λh e=>absurd (e▸h) (om _)
theorem Jy(h:cR bs R Rw):∀q∈R,∀z∈R,q.1=z.1→q=z:=by
 intro q hq z hz e;obtain ⟨i,hi,rfl⟩:=lL hq;obtain ⟨j,hj,rfl⟩:=lL hz;have nd:=ce.mp h.nd
 rcases jY i j with g|g|g
 .refine absurd ?_ (nd i j (by simp;omega) (by simp;omega) g)
  rw[cG,cG];exact e
 .subst g;rfl
 .refine absurd ?_ (nd j i (by simp;omega) (by simp;omega) g)
  rw[cG,cG];exact e.symm
theorem Pl(h:cR bs R Rw):R.length≤17:=by
 have l:=h.len
 rcases h.hR with e|⟨_,a,e⟩
 .rw[e];exact Ky l (bR true)
 .rw[e,aT,l];exact aR _
noncomputable def vZ(L:Addr)(o1 o2 o3 o4 o5:Obj)(ps:Array Value):Ns:=[(L+1+1+1+1+1,o5),(L+1+1+1+1,o4),(L+1+1+1,o3),(L+1+1,o2),(L+1,o1),(364,bS ps)]
theorem vY(hl:@aP Nat _ 366 L):∀p∈vZ L o1 o2 o3 o4 o5 ps,p.1≠256:=by
 have z:∀k:Nat,@aP Nat _ 256 (L+k):=λk=>aN (aO (by decide:(256:Nat)<366) hl) (bx L k);exact FC (jx (z 5)) (FC (jx (z 4)) (FC (jx (z 3)) (FC (jx (z 2)) (FC (jx (z 1)) (FC (by decide:(364:Nat)≠256) FN)))))
theorem A4(h:p∈vZ L o1 o2 o3 o4 o5 ps):p∈bL L o1 o2 o3 o4 o5 ps qs:=qY [(256,bS qs)] h
theorem uC{P:Addr×Obj→Prop}{L:Addr}{o1 o2 o3 o4 o5:Obj}{ps qs:Array Value}(h:∀p∈vZ L o1 o2 o3 o4 o5 ps,P p)(h2:P (256,bS qs)):∀p∈bL L o1 o2 o3 o4 o5 ps qs,P p:=FA (r:=[(256,bS qs)]) h (FC h2 FN)
theorem b8.n256(h:b8 L n)(hp:p∈n):p.1≠256:=h.all.2.2.2.2.2.2 p hp
theorem K0{c:Fm W0 lawS}{m:Lo}{n0:Ns}{Rr:Re}{rest:List Stmt}(hc:LawC c)(ht:oW c){o1 o2 o3 o4 o5:Obj}{ps qs:Array Value}{wa rl:Addr}{wv:List Value}{ew er:Nat}{bs:List Int}{R Rw:List RowT}{tm tb:Tok}(hof:b8 c.L n0)(hok:cR bs R Rw)
  (d3:o3.data=.cell (some (.int (dn (aZ bs)) tb))) (hwa:(wa,listOf wv.toArray ew)∈n0) (hwi:au wv (bw bs)) (hrl:(rl,listOf (refsOf R).toArray er)∈n0) (hrows:∀q∈R,jo n0 q) (htr:dZ qs.toList)
  (hm1:m (ae "wishes")=some (.ref wa)) (hm2:m (ae "rows")=some (.ref rl)) (hm3:m (ae "most")=some (.int (dc (aZ bs)) tm)) (hRr:∀f m n,Rr f m n→∃v,f=.ret v)
  (hnext:∀(c':Fm W0 lawS) (OUT:Addr) (NR:List RowT) (qs':Array Value),LawC c'→oW c'→c'.L=c.L→ki (aZ bs) Rw NR→dZ qs'.toList→(∀p∈bL c.L o1 o2 o3 o4 o5 ps qs++n0,p.1≠OUT)→cK c' (ci m (ae "near") (.ref OUT)) (bL c.L o1 o2 o3 o4 o5 ps qs'++(OUT,bz (refsOf NR))::n0) rest Rr):
  cK c m (bL c.L o1 o2 o3 o4 o5 ps qs++n0) (bp 12::rest) Rr:=by
 refine(?_:cK c m _ (.Assign [.Name _ _] (.Call (.Name _ _) [.Name _ _,.Name _ _,_,.BinOp (.BinOp _ .Mult (.Name _ _) _) .Div (.Name _ _) _] [] _) _::_) _);have hkk:=mQ (m:=m) (ks:=[(ae "wishes",.ref wa),(ae "rows",.ref rl)]) (eR hm1 hm2 trivial);refine kq (wX hok) λq0 q40 q2=>?_
 have hG:du c.s.gens:=by
  have:=c.hP c.s.heap c.s.toks;rw[ht.hP] at this;exact this
 refine⟨λQ s hi hq=>?_⟩;rw[← hkk] at hi;obtain ⟨h1,tk1,rfl,F1,N1⟩:=hi;have BB:=c.B;have XX:=c.X;have TT:=c.T;dsimp only [Fm.cx,Fm.A,Fm.env]
 k_steps
 refine iF ?_;have v:=hok.vf;have vm0:=v.m0;have vmb:=v.mb;refine' Ev.run (k:=c.cx) (Ia (p:=(dc (aZ bs)).toNat) (q:=(dn (aZ bs)).toNat) (kh bf (ai (i:=dc (aZ bs)) (t:=tm) (by rw[hkk];exact hm3)) (fL (by decide))) (qj (eH (a:=c.L+1+1+1) (o:=o3) (by refine(?_:c.cl.lookup _=_);rw[hc.cl];rfl) (zL (by k_extra "zmm")) d3)) (nA (cS [dc (aZ bs),↑((dc (aZ bs)).toNat)] 1 (.m 2 Z0) (.m 2 Z1) 2 Z0 Z1 rfl tq) (cS [↑((dc (aZ bs)).toNat),dc (aZ bs)] 1 (.m 2 Z0) (.m 2 Z1) 2 Z0 Z1 rfl (iZ (cS [dc (aZ bs)] 1 Y0 Z0 1 (.a Y0 Y1) Z0 rfl vm0)))) (nA (cS [dn (aZ bs),↑((dn (aZ bs)).toNat)] 1 Z0 Z1 1 Z0 Z1 rfl tq) (cS [↑((dn (aZ bs)).toNat),dn (aZ bs)] 1 Z0 Z1 1 Z0 Z1 rfl (iZ (eQ [dn (aZ bs),dc (aZ bs)] 1 Y0 Z0 1 (.m 2 Z1) Z0 2 (.a Y0 Y1) Z1 rfl vmb vm0)))) q0 q40 q2) _ _ ⟨_,_,rfl,F1,N1⟩ ?_;intro v9 s2 zo429 i2;refine cp zo429 λt2 zo430=>?_;clear zo429;subst zo430;obtain ⟨h2,tk2,rfl,F2,N2⟩:=i2
 k_steps
 refine iF ?_;have N3:ba c.h₀ c.L h2 ((256,bS qs)::(wa,listOf wv.toArray ew)::(rl,listOf (refsOf R).toArray er)::(vZ c.L o1 o2 o3 o4 o5 ps++n0)):=cm N2 (FC (zL (a8 6 rfl)) (FC (zR hwa) (FC (zR hrl) (FA (λp hp=>zL (A4 hp)) λp hp=>zR hp))));have w256:wa≠256:=hof.n256 hwa;have r256:rl≠256:=hof.n256 hrl;refine' Jq (ge:=λy=>H1 y (wY (aZ bs))) (Pre:=λouts=>outs.length≤16) (Rel:=wt (lr bs)) ?B F2 ?X N3 ?T ?hk ?hd ?hu (bw bs) hwi ?yl ?y0 (uu iX) htr hG ?R40 ?s256 w256 r256 (by decide) (QP q0 q40 q2) (QO q0 q40 q2) QQ (AK bs) ?rows (λq hq t ht=>Dt hok hq ht) (Jy hok) (λq hq hp=>KA hok hq hp) ?pre BY ?hret
 case B=>exact c.B
 case X=>exact c.X
 case T=>exact c.T
 case hk=>exact rfl
 case hd=>have:=hc.hd;exact zJ this (bR true)
 case hu=>have:=hc.hu;exact zJ this (bR true)
 case yl=>have:=hok.wl;exact rZ this.right.right (bR true)
 case y0=>have:=hok.wl;exact this.right.left
 case R40=>have:=Pl hok;exact rZ this (bR true)
 case s256=>
  exact FA (vY hc.lo) λp hp=>hof.n256 hp
 case rows=>exact λq hq=>ip (hrows q hq) λp hp=>zR hp
 case pre=>
  intro outs ho;have e:outs.map (·.2)=dR (aZ bs) Rw:=ho.trans (Bc hok);have:=FD (Rw:=Rw) (aZ bs);rw[← e,aE] at this;exact this
 intro OUT outs outs2 ps2 T s2 ho hrel hsub2 hT o1' o2' o3' o4' o5' hps2 hG2 hos F5 N5
 k_steps
 rename Fr _ _ _ _=>FZ;rename ba _ _ _ _=>NZ;rw[hkk] at FZ;have hK:∀p∈vZ c.L o1 o2 o3 o4 o5 ps++n0,p.1≠OUT:=λp hp=>o1' p (hT p hp);have e:outs.map (·.2)=dR (aZ bs) Rw:=ho.trans (Bc hok);have hnear:=Hw hok e hrel
 have eo:outs2.map (λo=>bF o.2.1)=refsOf (outs2.map (·.2)):=by unfold refsOf;rw[iQ];rfl
 rw[eo] at NZ;have hNZ:ba c.h₀ c.L _ (bL c.L o1 o2 o3 o4 o5 ps ps2++(OUT,bz (refsOf (outs2.map (·.2))))::n0):=cm NZ (FA (uC (λp h=>bk 4 (hT p (zL h))) (a8 1 rfl)) (FC (a8 0 rfl) λp h=>bk 4 (hT p (zR h))));refine Ac (hP:=by intro h tk;rw[ht.hP];exact hG2) hos hRr (hnext (c.on _ _) OUT (outs2.map (·.2)) ps2 ⟨hc.cl,hc.hd,hc.hu,hc.lo⟩ ⟨ht.cd,ht.ch,ht.hP⟩ rfl hnear hps2 (FA (uC (λp h=>hK p (zL h)) (Ne.symm o3')) λp h=>hK p (zR h))) FZ hNZ hq
end
section
open W PyProof Rows
noncomputable def Jk(x:UInt64):Bool:=fG x 0==some pS||fG x 0==some dh
theorem wM(h0:0<n)(B:n≤40)(h2:2*t≤n):Jk (nJ t n)=true:=by
 refine pU (tu (ui h0 B h2).1) λm e h _=>?_;unfold Jk fG;rw[h];dsimp only
 have u:∀z:Int,0≤z→(some (compare z 0)==some pS||some (compare z 0)==some dh)=true:=by
  intro z hz
  rcases Int.lt_or_eq_of_le hz with h|h
  .rw[JK.mpr h];rfl
  .subst h;rfl
 have hm:(0:Int)≤M8 false m:=by refine(?_:(0:Int)≤if false=true then -(m:Int) else m);rw[if_neg (by decide)];exact j0
 split
 .exact u _ (Int.mul_nonneg hm (Int.pow_nonneg (by decide)))
 .rw[C3];exact u _ hm
theorem Bm(vs:List Int):∀i,(qJ vs i).1=0∨∃S:Nat,S<i∧qJ vs i=(fM vs (S:Int),((th (S:Int)).length:Int))
 | 0=>.inl rfl
 | i+1=>by
  by_cases h:fM vs i*(gu vs+5*(qJ vs i).2) > (qJ vs i).1*(gu vs+5*((th (i:Int)).length:Int))
  .exact .inr (c9 i (aJ _) (wZ h))
  .rw[Am h]
   rcases Bm vs i with e|⟨S,h1,h2⟩
   .exact .inl e
   .exact .inr (c9 S (aW h1) h2)
section
variable {bs:List Int}{R Rw NR:List RowT}
theorem Jn(h:cR bs R Rw){c:Nat}(hc:c<16)(hd:pW (aZ bs) (c:Int)=true):Rw.getD c (0,[])∈dR (aZ bs) Rw:=by
 unfold dR;exact eg.mpr (c9 c (bY.mpr ⟨bD.mpr hc,hd⟩) rfl)
theorem OY(h:cR bs R Rw):dR (aZ bs) Rw≠[]:=by
 have v:=h.vf
 rcases Bm (aZ bs) 16 with e|⟨S,h1,h2⟩
 .have:=v.m0
  unfold dc at this;exact λhh=>PK this (Eq.symm e)
 .refine List.ne_nil_of_mem (Jn h h1 ?_)
  rw[v.due S h1];refine decide_eq_true ?_;unfold dn dc sizeOf;rw[h2]
theorem oH(h:cR bs R Rw)(hn:ki (aZ bs) Rw NR)(hq:q∈NR):q∈dR (aZ bs) Rw:=hn.perm.mem_iff.mp hq
theorem Bl(h:cR bs R Rw)(hq:q∈dR (aZ bs) Rw):q∈Rw:=by
 refine fJ (ma h hq) λc hc e _=>?_;rw[e];exact(h.get hc).2
theorem Mc(h:cR bs R Rw)(hq:q∈Rw):q∈R:=by
 rcases h.hR with e|⟨_,a,e⟩
 .rw[e];exact hq
 .rw[e];exact zL hq
noncomputable def R2(Rw NR:List RowT):List RowT:=NR.take 2++[Rw.getD 8 (0,[])]
theorem wu(h:cR bs R Rw)(hn:ki (aZ bs) Rw NR)(hq:q∈R2 Rw NR):q∈Rw:=by
 unfold R2 at hq
 rcases aC.mp hq with hq|hq
 .exact Bl h (oH h hn (gz hq))
 .rw[aA.mp hq];exact(h.get (by exact uw (aR 8) (bR true))).2
theorem KC(h:cR bs R Rw)(hq:q∈Rw):
  Jk (km ((q.2.filter (·∈bw bs)).length:Int) ((q.2.length:Int)+((bw bs).length:Int)))=true∧Jk (km (if ((bw bs).length:Int)<(q.2.length:Int) then ((bw bs).length:Int) else (q.2.length:Int)) ((q.2.length:Int)+((bw bs).length:Int)))=true:=by
 refine fK (h.idx hq) λc hc e0=>?_
 have e:q.2=gI c:=by rw[e0];exact(h.get hc).1
 refine kq (qZ h hc) λt1 t2 t3=>?_;have l:=te c hc
 have el:q.2.length=5*(th (c:Int)).length:=by rw[e,l]
 have a:=kt h hc;have u:=rW h.bl c
 have B:((q.2.length:Int)+((bw bs).length:Int))=((5*(th (c:Int)).length+(bw bs).length:Nat):Int):=by exact nA (cS [q.snd.length,↑((bw bs).length),↑((th (c:Int)).length)] 1 (.a Z0 Z1) (.a (.m 5 Z2) Z1) 1 Z0 (.m 5 Z2) rfl (vX el)) (cS [↑((th (c:Int)).length),↑((bw bs).length),q.snd.length] 1 (.a (.m 5 Z0) Z1) (.a Z2 Z1) 1 (.m 5 Z0) Z2 rfl (l9 el))
 have z:(if ((bw bs).length:Int)<(q.2.length:Int) then ((bw bs).length:Int) else (q.2.length:Int))=((if (bw bs).length<q.2.length then (bw bs).length else q.2.length:Nat):Int):=Rn;rw[B,z,rp,rp];refine⟨wM t1 t2 ?_,wM t1 t2 (el▸Rs)⟩
 have e2:(q.2.filter (·∈bw bs)).length=((gI c).filter λx=>decide (x∈bw bs)).length:=by rw[e]
 exact nV (Jj [↑((eP (λ(x:Int)=>decide (x∈bw bs)) q.snd).length),↑((th (c:Int)).length),↑((bw bs).length),↑((eP (λ(x:Int)=>decide (x∈bw bs)) (gI c)).length),fM (aZ bs) (c:Int),↑((gI c).length)] 1 (.m 2 Z0) (.a (.m 5 Z1) Z2) 2 Z0 Z3 2 Z3 Z4 1 Z4 Z5 1 Z4 Z2 1 Z5 (.m 5 Z1) rfl (vX e2) (gV u) a.2.1 a.2.2 (vX l))
theorem Ke(h:cR bs R Rw)(hq:q∈Rw):Jk (lr bs q)=true:=by
 refine fK (h.idx hq) λc hc e0=>?_
 have e:q.2=gI c:=by rw[e0];exact(h.get hc).1
 refine kq (qZ h hc) λt1 t2 t3=>?_;rw[(lS h e).resolve_right (by exact λhh=>wP hc hh)];exact wM t1 t2 t3
theorem DG(h:cR bs R Rw){q:RowT}(hq:q∈dR (aZ bs) Rw){c:Nat}(hc:c<16)(hd:pW (aZ bs) (c:Int)=false){z:RowT}(hz:z.2=gI c):cV (lr bs z) (lr bs q)=some kb:=by
 refine sI (ma h hq) λc' e _ O G=>?_;rw[(lS h hz).resolve_right (by exact λhh=>wP hc hh),(lS h O).resolve_right (by exact λhh=>wP e hh)];refine kq (qZ h hc) λt1 t2 t3=>?_;refine kq (qZ h e) λu1 u2 u3=>?_;rw[(pn t1 t2 t3 u1 u2 u3).1,gF.mpr];rw[h.vf.due c hc] at hd;rw[h.vf.due c' e] at G;have hd:=of_decide_eq_false hd;have G:=of_decide_eq_true G;have le:=h.vf.le c hc;have w:=h.wl;have a:=kt h hc;have U:=kt h e;have m0:=h.vf.m0;have mb:=h.vf.mb;generalize (th (c:Int)).length=k at *;generalize (th (c':Int)).length=J at *;generalize fM (aZ bs) (c:Int)=x at *;generalize fM (aZ bs) (c':Int)=u at *;generalize dc (aZ bs)=M at *;generalize dn (aZ bs)=B at *;generalize gu (aZ bs)=n at *
 have H:x*B<M*(n+5*(k:Int)):=by omega
 have g:x*(n+5*(J:Int))<u*(n+5*(k:Int)):=by
  refine Int.lt_of_mul_lt_mul_right (a:=B) ?_ (by exact eQ [B,M] 1 Y0 Z0 1 (.m 2 Z1) Z0 2 (.a Y0 Y1) Z1 rfl mb m0);rw[ij,ij u,← G,ij M];exact Int.mul_lt_mul_of_pos_right H (by exact eQ [n,J,↑((bw bs).length)] 1 (.a Y0 Y1) (.a Z0 (.m 5 Z1)) 1 Z2 Z0 1 (.a Y0 Y1) (.a (.m 5 Z1) Z2) rfl (gV w.1) (d9 u1))
 have e1:((x.toNat:Nat):Int)=x:=by exact EQ a.left
 have e2:((u.toNat:Nat):Int)=u:=by exact EQ U.left
 refine gG.mp ?_;rw[dC,dC,e1,e2,jw,jw,dC,dC,w.1];rw[gf _ n,gf _ n];exact g
theorem Hv(h:cR bs R Rw)(hn:ki (aZ bs) Rw NR):(NR.map (·.1)).Nodup:=(hn.perm.map _).nodup_iff.mpr (Fz h)
theorem Jf(h:cR bs R Rw)(hn:ki (aZ bs) Rw NR){outs:List (Addr×RowT)}(ho:outs.map (·.2)=R2 Rw NR):IN (lr bs) outs∧∀O rest,outs=O::rest→[O.2]=NR.take 1:=by
 have hne:NR≠[]:=λe=>OY h (by have:=hn.perm;rw[e] at this;exact this.nil_eq.symm)
 cases NR with
 | nil=>exact absurd rfl hne
 | cons G NT=>
  cases outs with
  | nil=>exact absurd (congrArg eE ho) (by unfold R2;simp)
  | cons O rest=>
   unfold R2 at ho;rw[List.take_succ_cons,fE,kH] at ho;refine b7 (List.cons.inj ho) λe0 e1=>?_;have u:G∈dR (aZ bs) Rw:=oH h hn (zH);refine⟨(wL O rest rfl (λo U=>?_)),λa b e=>by cases e;rw[e0];rfl⟩
   have B:∀q∈NT,lr bs q=lr bs G∧cV (lr bs q) (lr bs q)=some dh∧(q.1=G.1∨(q.1≠G.1∧q.2≠G.2∧ls G.2 q.2=false)):=λq hq=>by
    have H:q∈dR (aZ bs) Rw:=oH h hn (zT hq);refine sI (ma h H) λc hc _ e _=>?_;have nd:=(dW.mp (Hv h hn)).1 q.1 (fX hq);have ds:=(dW.mp hn.desc).1 q hq;refine(eR (xM h H u) (rd h hc e) (.inr (eR (Ne.symm nd) (uT h H u (Ne.symm nd)) ?_)))
    cases hl:ls G.2 q.2 with
    | false=>rfl
    | true=>exact absurd ds (EJ _ _ hl)
   have Y:o.2∈NT.take 1++[Rw.getD 8 (0,[])]:=by rw[← e1];exact fX U
   rw[e0]
   rcases aC.mp Y with h1|h1
   .exact .inl (B _ (gz h1))
   .have e8:=aA.mp h1
    cases d8:pW (aZ bs) ((8:Nat):Int) with
    | true=>
     have m8:o.2∈G::NT:=by
      rw[e8];exact hn.perm.mem_iff.mpr (Jn h (by exact uw (aR 8) (bR true)) d8)
     rcases ak.mp m8 with e|e
     .refine sI (ma h u) λc hc _ e' _=>?_
      rw[e];exact .inl (eR rfl (rd h hc e') (.inl rfl))
     .exact .inl (B _ e)
    | false=>
     have J:=DG h u (c:=8) (by exact uw (aR 8) (bR true)) d8 (z:=o.2) (by rw[e8];exact(h.get (by exact uw (aR 8) (bR true))).1);refine .inr ⟨λe=>?_,J⟩;refine sI (ma h u) λc hc _ e' _=>?_;rw[e,rd h hc e'] at J;cases J
theorem Fu(h:cR bs R Rw){sv:List Value}(hs:sv=refsOf Rw):((aU 16).filter (λc:Nat=>pW (aZ bs) (c:Int))).map (λc=>sv.getD c .none)=refsOf (dR (aZ bs) Rw):=by
 unfold dR refsOf;rw[iQ];refine rR λc hc=>?_;have hc:=bD.mp (bY.mp hc).1;have hl:=h.len;rw[hs,gZ Rw (by exact pV hl hc)];refine(?_:bF _=bF (Rw.getD c (0,[])).1);rw[az,ao (by exact pV hl hc)];rfl
theorem yy(h:cR bs R Rw):(dR (aZ bs) Rw).Pairwise (λa b=>a.2≠b.2):=by
 have nd:=Fz h;rw[List.Nodup,jL] at nd;exact nd.imp_of_mem λ{a b} ha hb hne=>uT h ha hb hne
end
end
section
open W PyProof Rows PySem.Spec PySem.SeqAt
section
variable {prog:Program}{A:Around}{E:VP}{s:Shared}{h₀:Heap}{L:Addr}{m:Lo}{news:Ns}
noncomputable def yx:Addr×List Int:=(0,[])
noncomputable def KJ(rs:List (Addr×List Int))(i j:Nat):Bool:=ls (rs.getD i yx).2 (rs.getD j yx).2
theorem ON(hn:rs.Pairwise (λa b=>a.2≠b.2)):Good (λi j b=>b=KJ rs i j) (KJ rs) rs.length:=by
 refine⟨⟨λi j hi hj hne hf=>?_,λi j k a b=>pu a b⟩,λi j b h=>h⟩;unfold KJ at hf ⊢;refine r8 (λe=>?_) hf;rw[az,az,ao hi,ao hj] at e;have z:rs[i].2=rs[j].2:=e;have:=ce.mp hn
 rcases sY hne with u|u
 .exact this i j hi hj u z
 .exact this j i hj hi u z.symm
theorem RZ(hp:P rs.length p)(h:tL (KJ rs) p rs.length):(p.toList.map λi=>rs.getD i yx).Pairwise (λa b=>ls a.2 b.2=true):=by
 rw[ce];intro i j hi hj B
 have z:p.toList.length=rs.length:=by rw[hp.list.length_eq,db]
 simp only[aE] at hi hj
 have e:∀(k:Nat) (hk:k<p.toList.length),p.toList[k]'hk=p.getD k 0:=by
  intro k hk
  have u:k<p.size:=by simpa using hk
  rw[qV];simp [Gw,u]
 rw[cG,cG,e i hi,e j hj];exact h i j B (pV (Eq.symm z) hj)
theorem J7(a v:Value):gX "sorted" ⟨[a],[(PySem.Str.ofString "reverse",v)]⟩:=by unfold gX;kernel_rfl
theorem J6(a v:Value):gX "list.sort" ⟨[a],[(PySem.Str.ofString "reverse",v)]⟩:=by unfold gX;kernel_rfl
theorem xI(hu:A.units+64<cT)(F:Fr h₀ L s.heap m)(N:ba h₀ L s.heap news)(hl:s.heap.IsList l (refsOf rs).toArray)(ab:rs.length<64)
  (ho:∀o∈rs,jo news o) (hn:rs.Pairwise (λa b=>a.2≠b.2))
  (h:∀D G c h' tk,G.Perm rs→G.Pairwise (λa b=>ls b.2 a.2=true)→(∀q∈news,q.1<D)→Fr h₀ L h' m→ba h₀ L h' ((D,listOf (refsOf G).toArray c)::news)→Q (.ref D) {s with heap:=h',toks:=tk}):
  ay (aq prog W0) A (call (.builtin "sorted") [.ref l] [(PySem.Str.ofString "reverse",.bool true)]) Q E s:=by
 have u:(refsOf rs).length=rs.length:=by simp [refsOf]
 refine ug (vs:=refsOf rs) (κ:=oneType') (R:=λi j b=>b=KJ rs.reverse i j) (lt:=KJ rs.reverse) F N hl (HD u ab) (J7 _ _) (λx=>J6 _ _) J5 ?hk2 ?hc ?_
 case hk2=>
  intro h2 h' Q' F' U hq;refine kas_kind (T:=.type "list") h2 (λv hv=>?_) (by decide) (by decide) hq;refine fK (eg.mp hv) λo aa B=>?_;subst B;refine pU (ho o aa) λva ep h1 _=>?_;exact(kE (M:=aq prog W0) (part:=some n9) (U _ h1).1).andThen .now
 case hc=>
  intro i j h' tk C hi hj F' U hC
  have O:i<rs.reverse.length:=by rw[bg];exact pV (Eq.symm u) hi
  have J:j<rs.reverse.length:=by rw[bg];exact pV (Eq.symm u) hj
  rw[mG,gZ _ O,gZ _ J];refine gJ (ho _ (fB.mp (bG O))) λva ea l1 i1 _=>?_;refine gJ (ho _ (fB.mp (bG J))) λvb eb l2 i2 _=>?_;rw[keyLt'_oneType];refine Kg (by refine(?_:A.units+1+1<cT);exact Rh hu (bR true)) (U _ l1).1 (U _ l2).1 i1 i2 (hC _ tk ?_);unfold KJ;rw[az,az,ao O,ao J];rfl
 intro D p c h' tk hp Y hD F' U
 have H:P rs.reverse.length p:=by rw[bg,← u];exact hp
 have e2:(p.toList.map λi=>(refsOf rs).reverse.getD i Value.none).reverse=refsOf ((p.toList.map λi=>rs.reverse.getD i yx).reverse):=by
  rw[mG,pj rs.reverse yx H,mG]
 rw[e2] at U;have z:=po rs.reverse yx H;refine h D _ c h' tk ((jK _).trans (z.trans (jK _))) ?_ hD F' U;rw[kj]
 by_cases h2:2≤(refsOf rs).length
 .have gd:=ON (rs:=rs.reverse) (kj.mpr (hn.imp λh e=>h e.symm))
  rw[bg,← u] at gd;have:=Y h2 gd;rw[u,← bg] at this;exact RZ H this
 .have hl:(p.toList.map λi=>rs.reverse.getD i yx).length<2:=by rw[z.length_eq,bg];exact HD (Eq.symm u) (cI h2)
  match hm:(p.toList.map λi=>rs.reverse.getD i yx),hl with
  | [],_=>exact qc
  | [x],_=>exact gS _ _
noncomputable def iu(rs:List (Addr×List Int)):List PyData:=rs.map λq=>.list (q.2.map .int)
theorem qh:∀{rs:List (Addr×List Int)},(∀q∈rs,∃va ep,h.get? q.1=some (listOf va.toArray ep)∧au va q.2)→∃fp,ReadsAll h (refsOf rs) (iu rs) fp
 | [],_=>⟨[],.nil⟩
 | q::r,hr=>by
  refine pU (hr q (zH)) λva ep h1 h2=>?_;refine cp (qh λz hz=>hr z (zT hz)) λfp e=>?_;exact⟨_,.cons (reads_of_ints (cZ _ h1 rfl ⟨ep,rfl⟩) h2) e⟩
theorem x6:∀rs:List (Addr×List Int),sF (iu rs)=true
 | []=>by simp [iu,sF]
 | q::r=>by
  have:=x6 r;simp only[iu] at this;simp [iu,sF,wx,canLayAll0_ints,this]
theorem uS:∀rs:List (Addr×List Int),vj (iu rs)≤3
 | []=>by simp [iu,vj]
 | q::r=>by
  have:=uS r;have h2:=W.depthAll_ints q.2;simp only[iu] at this;simp only[iu,kH,vj,sD];lia
theorem sw(rs:List (Addr×List Int)):shaped (.list (iu rs))=true:=by
 have h1:=uS rs
 have h2:sD (.list (iu rs))≤64:=by simp only[sD];exact rZ (eZ h1 1) (bR true)
 refine(?_:(wx (.list (iu rs))&&decide (sD (.list (iu rs))≤64))=true);rw[dE];exact⟨by simp only[wx];exact x6 rs,decide_eq_true h2⟩
theorem xX:∀rs:List (Addr×List Int),noMixAll (iu rs) (iu rs)=true
 | []=>by simp [iu,noMixAll]
 | q::r=>by
  have:=xX r;simp only[iu] at this;simp [iu,noMixAll,noMix,noMix_ints,this]
theorem vQ:∀rs:List (Addr×List Int),PySem.Spec.sameAll (iu rs) (iu rs)=true
 | []=>by simp [iu,PySem.Spec.sameAll]
 | q::r=>by
  have:=vQ r;simp only[iu] at this;simp [iu,PySem.Spec.sameAll,PySem.Spec.same,same_ints,this]
theorem AW(hu:A.units+64<cT)(ha:s.heap.get? a=some (listOf (refsOf rs).toArray ea))(hb:s.heap.get? b=some (listOf (refsOf rs).toArray eb))(hr:∀q∈rs,∃va ep,s.heap.get? q.1=some (listOf va.toArray ep)∧au va q.2)(h:Q (.bool false) s):ay (aq prog W0) A (fi .NotEq (.ref a) (.ref b)) Q E s:=by
 refine cp (qh hr) λfp hf=>?_;refine ne_dataH_same (Reads.list ha rfl rfl (by simpa using hf)) (Reads.list hb rfl rfl (by simpa using hf)) (sw rs) (sw rs) hu (by simp only[noMix];exact xX rs) ?_;simp only[PySem.Spec.same];rw[vQ];exact h
end
end
section
open W PyProof Rows
theorem kw_LW16_0:True:=by
 k_with_none
 k_with "zk_ne"=>first|assumption|(refine' NP ?h ?m;(case h=>assumption);(case m=>k_memK))|(refine' NQ ?h ?m;(case h=>assumption);(case m=>k_memK))|(refine neN ?_;(try dsimp only);lia)
 k_with "zk_all"=>first|assumption|(refine EP ?_;assumption)|with_reducible exact List.forall_mem_nil _|((with_reducible refine zC ⟨?_,?_⟩);(focus k_ne);k_all)|(intro z9p9 z9hp9;refine' R4 ?h ?m;(case h=>assumption);(case m=>k_ownIn))
 k_with "zent"=>(refine' code_defC ?k1 ?k2 ?k3 ?k4 ?k5 ?kA ?kF ?kK ?k6 ?k7 ?k8 ?k9 ?kB ?kD ?_ ?c2 ?c3 ?c4;(case kA=>exact rfl);(case kF=>exact rfl);(case kK=>first|exact rfl|assumption);(case k1=>k_asm);(case k2=>k_asm);(case k3=>k_asm);(case k4=>k_asm);(case k5=>k_asm);(case k6=>k_is);(case k7=>k_is);(case k8=>ktr_room);(case k9=>first|exact dB rfl|exact pQ (by k_in) rfl (by k_is) rfl rfl rfl);(case kB=>exact rfl);(case kD=>decide +kernel);(case c2=>exact rfl);(case c3=>exact rfl);(case c4=>exact rfl);k_whole;intro z9gp z9Lp z9hp z9tkp z9cellsp z9FGp z9Fp z9Np z9Yp z9Bp z9Xp z9Tp z9l1;(try k_lt z9l1);k_cells z9Yp;(try simp only[fE,ik] at z9Np);(try dsimp only);(try k_fold))
 k_with "zcall ref"=>(k_here;refine ev ?_;k_dflt ktr_enter)
 k_with "zgetAttr ref"=>(k_here;first
  | ((with_reducible show ay _ _ (jJ (bF _) (ae "get") _) _ _ _);k_dflt (refine' Pe ?F ?N ?m ?d ?_;(case F=>k_asm);(case N=>k_asm);(case m=>k_mem);(case d=>assumption);k_whole);intro z9qp z9hp z9Fp z9Np z9l1;(try k_lt z9l1);(try k_sweep))
  | ((with_reducible show ay _ _ (jJ (bF _) (ae "__contains__") _) _ _ _);k_dflt (refine' Pd ?F ?N ?m ?d ?_;(case F=>k_asm);(case N=>k_asm);(case m=>k_mem);(case d=>assumption);k_whole);intro z9qp z9hp z9Fp z9Np z9l1;(try k_lt z9l1);(try k_sweep))
  | ((with_reducible show ay _ _ (jJ (bF _) (ae "__contains__") _) _ _ _);k_dflt (refine' Jw ?F ?N ?m ?_;(case F=>k_asm);(case N=>k_asm);(case m=>k_mem);k_whole);intro z9qp z9hp z9Fp z9Np z9l1;(try k_lt z9l1);(try k_sweep)))
 k_with "zcallWith ref"=>(k_here;(with_reducible show ay _ _ (iG _ (bF _) _ (ff _ (bV (_::_) _)) []) _ _ _);k_dflt (refine' pK ?kfbN ?kfbM ?_;(case kfbN=>k_asm);(case kfbM=>k_mem);k_whole))
 k_with "zAnd"=>((with_reducible show tK _ _ _ _∧_);k_dflt (refine⟨zq (by k_asm) (by k_mem),?_⟩);(try dsimp only [ik,fE]))
 k_with "zcall ref"=>(k_here;first
  | ((with_reducible show ay _ _ (call (bF _) [fn _ _,_]) _ _ _);k_dflt (refine' Jv ?N ?q ?m ?d ?lo ?e ?_;(case N=>k_asm);(case q=>k_mem);(case m=>k_mem);(case d=>assumption);(case lo=>assumption);(case e=>assumption));(try dsimp only [Option.getD]))
  | ((with_reducible show ay _ _ (call (bF _) [fn _ _]) _ _ _);k_dflt (refine' Ju ?N ?q ?m ?d ?lo ?e ?_;(case N=>k_asm);(case q=>k_mem);(case m=>k_mem);(case d=>assumption);(case lo=>assumption);(case e=>assumption));(try dsimp only [Option.isSome]))
  | ((with_reducible show ay _ _ (call (bF _) [fn _ _]) _ _ _);k_dflt (refine' Jr ?N ?q ?m ?_;(case N=>k_asm);(case q=>k_mem);(case m=>k_mem))))
 k_with "zgetMethod ref"=>(k_here;first
  | ((with_reducible show ay _ _ (gL (bF _) (ae "get") _) _ _ _);k_dflt (refine' Ob ?N ?m ?d ?_;(case N=>k_asm);(case m=>k_mem);(case d=>assumption)))
  | ((with_reducible show ay _ _ (gL (bF _) (ae "setdefault") _) _ _ _);k_dflt (refine' Od ?N ?m ?d ?_;(case N=>k_asm);(case m=>k_mem);(case d=>assumption))))
 k_with "zcall builtin:dict.get"=>(k_here;(with_reducible show ay _ _ (call (jg "dict.get") [bF _,fn _ _,_]) _ _ _);k_dflt (refine' Jp ?N ?m ?d ?lo ?e ?_;(case N=>k_asm);(case m=>k_mem);(case d=>assumption);(case lo=>assumption);(case e=>assumption));(try dsimp only [Option.getD]))
 k_with "zsetItem ref int"=>(k_here;k_dflt (refine' kda_set (knd:=PySem.intKind _ _) ?F ?N ?U ?d (jW _ _ _ _) ?z ?_;(case F=>k_asm);(case N=>k_asm);(case U=>k_updF);(case d=>assumption);(case z=>assumption));intro z9hp z9op z9Fp z9Np z9hdp;(try dsimp only at z9Np))
 k_with "zexec For Name Attribute cons nil"=>(k_here;(rename Fr _ _ _ _=>z9lFp);(with_unfolding_all refine' qS z9lFp ?_;k_whole))
 k_with "zpyIter ref"=>((with_reducible show ay _ _ (rH (bF _)) (λit s₂=>TurnsAt _ _ _ _ _ _ _ _ _ it s₂) _ _);k_dflt (refine' CO ?hh ?F ?N ?m ?c ?d ?_;(case hh=>exact rfl);(case F=>k_asm);(case N=>k_asm);(case m=>k_mem);(case c=>exact rfl);(case d=>exact rfl));intro z9Ip z9l1;(try k_lt z9l1))
 k_with "zcall ref"=>(k_here;refine sf ?_)
 k_with "zeval BinOp"=>(k_here;refine sf ?_)
 k_with "zeval Subscript"=>(k_here;refine sf ?_)
 k_with "zcall builtin:sorted"=>(k_here;refine sf ?_)
 k_with "zcompareOp NotEq ref ref"=>(k_here;refine sf ?_)
 trivial
theorem km_LW16:True:=by
 k_with "zmt"=>first|with_reducible assumption|with_reducible exact zH|(with_reducible refine zR ?_;k_extra "zmt")|(with_reducible refine zL ?_;k_extra "zmt")|(with_reducible refine zT ?_;k_extra "zmt")
 k_with "zmm"=>first|with_reducible assumption|exact a8 0 rfl|exact a8 1 rfl|exact a8 2 rfl|exact a8 3 rfl|exact a8 4 rfl|exact a8 5 rfl|exact a8 6 rfl|exact a8 7 rfl|exact a8 8 rfl|exact a8 9 rfl|(refine bk 1 ?_;assumption)|(refine bk 2 ?_;assumption)|(refine bk 3 ?_;assumption)|(refine bk 4 ?_;assumption)|(refine bk 5 ?_;assumption)|(refine bk 6 ?_;assumption)|(refine bk 7 ?_;assumption)|(refine bk 8 ?_;assumption)|(refine bk 9 ?_;assumption)|k_extra "zmt"
 k_with "zsu"=>first|exact FN|(refine FC ?_ ?_;(focus k_extra "zmm");k_extra "zsu")|(refine FA ?_ ?_;(focus k_extra "zsu");k_extra "zsu")|(intro p9 hp9;k_extra "zmm")
 trivial
open PyProof.Rows.LCg
theorem LC(he:Ev k m n e (.val x))(u:autoParam (∀r,SE k.env e r) zAb):Er k m n (.List [e] pos) (λv n'=>∃D,v=.ref D∧n'=(D,listOf [x].toArray 0)::n∧∀q∈n,@aP Nat _ q.1 D):=
 ⟨λQ s hi hq=>List_ (aI (he.run _ s hi λv s1 B i1=>bJ (by
  cases B;refine gJ (qw k i1) λm0 ex F N cl=>?_
  exact yT F N (λD h' H G z=>hq _ _ _ (cZ D rfl rfl (λq hq=>z q (zR hq))) (cl h' s1.toks D _ H G)) (by refine(?_:1≤dY);decide))) (u _))⟩
theorem vU(l:List Value)(k:Nat):jE l.toArray.toList none (some (k:Int))=l.take k:=by
 unfold jE kms_lo kms_hi;dsimp only;rw[if_neg (λhh=>MR hh j0),bC,Nc,Nat.sub_zero]
 by_cases hb:k≤l.length
 .rw[qq hb]
 .have e:Min.min k l.length=l.length:=vN (aL (cI hb))
  rw[e,cP,pT (aL (cI hb))]
theorem vS(l:List (Addr×α))(k:Nat):(refsOf l).take k=refsOf (l.take k):=by
 unfold refsOf;rw[List.map_take]
theorem Nh:MW prog W0 (.int 0 t):=λA E s u Q hq=>le_fi (by
 have e:(fG 0 0==some kb||fG 0 0==some dh)=true:=by decide +kernel
 rw[e];exact hq)
theorem Ng:MV prog W0 (.int 0 t):=λA E s u Q hq=>le_if (by
 have e:(fG 4607182418800017408 0==some pS||fG 4607182418800017408 0==some dh)=true:=by decide +kernel
 rw[e];exact hq)
theorem Ni:At prog W0 (.int 0 t) Jk:=λA E s y u Q hq=>ge_fi hq
theorem KS{c:Fm W0 lawS}{m:Lo}{n0:Ns}{Rr:Re}{rest:List Stmt}(hc:LawC c)(ht:oW c){o1 o2 o3 o4 o5:Obj}{ps qs:Array Value}{wa na dl sa:Addr}{wv:List Value}{ew en ed es:Nat}{bs:List Int}{R Rw NR:List RowT}(hof:b8 c.L n0)(hok:cR bs R Rw)(hnr:ki (aZ bs) Rw NR)
  (hwa:(wa,listOf wv.toArray ew)∈n0) (hwi:au wv (bw bs)) (hna:(na,listOf (refsOf NR).toArray en)∈n0) (hdl:(dl,listOf (refsOf (dR (aZ bs) Rw)).toArray ed)∈n0) (hsa:(sa,listOf (refsOf Rw).toArray es)∈n0) (hrows:∀q∈Rw,jo n0 q) (htr:dZ qs.toList)
  (hm1:m (ae "wishes")=some (.ref wa)) (hm2:m (ae "near")=some (.ref na)) (hm3:m (ae "due")=some (.ref dl)) (hm4:m (ae "sets")=some (.ref sa)) (hRr:∀f m n,Rr f m n→∃v,f=.ret v)
  (hnext:∀(c':Fm W0 lawS) (qs':Array Value),LawC c'→oW c'→c'.L=c.L→cK c' m (bL c.L o1 o2 o3 o4 o5 ps qs'++n0) rest Rr):
  cK c m (bL c.L o1 o2 o3 o4 o5 ps qs++n0) (bp 17::rest) Rr:=by
 refine(?_:cK c m _ (.If (.BoolOp .Or [.Compare (.Name _ _) [.NotEq] [.Call (.Name _ _) [.Name _ _] [_] _] _,.Compare (.Call (.Name _ _) [.Name _ _,.BinOp (.Subscript (.Name _ _) (.Slice none (some _) none _) _) .Add (.List [.Subscript (.Name _ _) _ _] _) _,_,_] [] _) [.NotEq] [.Subscript (.Name _ _) (.Slice none (some _) none _) _] _] _) [.Return _ _] [] _::_) _);have hkk:=mQ (m:=m) (ks:=[(ae "wishes",.ref wa),(ae "near",.ref na),(ae "due",.ref dl),(ae "sets",.ref sa)]) (OL hm1 hm2 hm3 hm4 trivial)
 have hG:du c.s.gens:=by
  have:=c.hP c.s.heap c.s.toks;rw[ht.hP] at this;exact this
 have hDl:=FD (Rw:=Rw) (aZ bs)
 have hNl:NR.length≤16:=by rw[hnr.perm.length_eq];exact hDl
 have hrz:(refsOf NR).length≤1000:=by rw[refsOf,aE];lia
 refine⟨λQ s hi hq=>?_⟩;rw[← hkk] at hi;obtain ⟨h1,tk1,rfl,F1,N1⟩:=hi;have BB:=c.B;have XX:=c.X;have TT:=c.T;dsimp only [Fm.cx,Fm.A,Fm.env]
 k_steps
 refine iF ?_;refine xI (rs:=dR (aZ bs) Rw) (by have:=hc.hu;refine(?_:c.un+64<cT);exact ltN (cS [c.un,cT] 1 (.a (.a Z0 (.k 64)) Y1) Z1 1 (.a (.a Z0 (.k 1000)) Y1) Z1 rfl (d9 this))) F1 N1 (cZ _ ((N1 _ (zR hdl)).1) rfl ⟨ed,rfl⟩) (by lia) (λo ho=>ip (hrows o (Bl hok ho)) λp hp=>zR hp) (yy hok) ?_;intro Ds rs' cz h2 tk2 hperm hdesc hltD F2 N2;have ers:rs'=NR:=ki.eq (vs:=aZ bs) (Rw:=Rw) ⟨hperm,hdesc⟩ hnr;subst ers
 k_steps
 refine iF ?_;refine AW (rs:=rs') (by have:=hc.hu;refine(?_:c.un+64<cT);exact ltN (cS [c.un,cT] 1 (.a (.a Z0 (.k 64)) Y1) Z1 1 (.a (.a Z0 (.k 1000)) Y1) Z1 rfl (d9 this))) (N2 _ (zT (zR hna))).1 (N2 _ (zH)).1 (λq hq=>?_) ?_
 .refine gJ (hrows q (Bl hok (oH hok hnr hq))) λva ep h1' h2' _=>?_
  exact(wL va ep ((N2 _ (zT (zR h1'))).1) h2')
 k_steps
 refine iF ?_;have hR8:=hok.get (c:=8) (ltN (kJ [] (.a (.k 8) Y1) (.k 16) rfl))
 have hx8:(refsOf Rw)[(8:Int).toNat]?=some (.ref (Rw.getD 8 (0,[])).1):=by
  have hl:=hok.len;rw[show (8:Int).toNat=8 from rfl,refsOf,eO,ao (by lia),az,ao (ltN (cS [Rw.length] 1 (.a (.k 8) Y1) Z0 1 (.k 16) Z0 rfl (l9 hl)))];rfl
 refine' Er.run (k:=c.cx) (m:=zS [(ae "wishes",.ref wa),(ae "near",.ref na),(ae "due",.ref dl),(ae "sets",.ref sa)] m) (P:=λv n'=>∃D,v=.ref D∧(D,listOf (refsOf (R2 Rw rs')).toArray 0)∈n'∧(∀p∈bL c.L o1 o2 o3 o4 o5 ps qs++n0,p∈n')∧D≠256) (wV (P:=λv n1=>∃D,v=.ref D∧n1=(D,listOf (refsOf (rs'.take 2)).toArray 0)::(Ds,listOf (refsOf rs').toArray cz)::(bL c.L o1 o2 o3 o4 o5 ps qs++n0)) (P2:=λv n2=>∃D,v=.ref D∧(D,listOf [bF (Rw.getD 8 (0,[])).1].toArray 0)∈n2) (fx (oR (lv:=none) (uv:=some 2) (am (v:=.ref na) rfl) (zT (zR hna)) hrz mJ (oG bf) ((vU _ 2).trans (vS _ 2))) λv n' h=>by refine fJ h λD h1 h2 _=>?_;try clear h;exact(c9 D h1 h2)) (λv n1 p1=>?er2) ?er3) _ _ ⟨_,_,rfl,F2,N2⟩ ?kont
 case er2=>
  refine fK p1 λD zo432 zo433=>?_
  try clear p1
  subst zo432;subst zo433;refine fx (LC (uM (am (v:=.ref sa) rfl) bf (zT (zT (zR hsa))) hx8 (by decide) (by decide))) ?_;intro v2 n2 zo434;refine fJ zo434 λD2 zo435 zo436 _=>?_;clear zo434;subst zo435;subst zo436;exact⟨(c9 D2 rfl (zH)),λp hp=>zT hp⟩
 case er3=>
  intro v n1 v2 n2 zo437 zo440 hsub;refine fK zo437 λD zo438 zo439=>?_;clear zo437;subst zo438;subst zo439;refine fK zo440 λD2 zo441 hm2=>?_;clear zo440;subst zo441;refine(Lf D D2 _ _ 0 0 rfl rfl (zH) hm2 (by rw[refsOf,aE,eJ,df];exact nV (cS [↑(min 2 rs'.length)] 1 (.a Z0 Y1) (.k 1000) 1 Z0 (.k 2) rfl KD)) (λD3 hlt=>⟨D3,rfl,?_,λp hp=>zT (hsub p (zT (zT hp))),jx (hlt (256,bS qs) (hsub _ (zT (zT (zL (by k_extra "zmm"))))))⟩))
  have e:refsOf (R2 Rw rs')=refsOf (rs'.take 2)++[bF (Rw.getD 8 (0,[])).1]:=by unfold refsOf R2;rw[aX];rfl
  rw[e];exact zH
 intro v n' s' zo442 i3;refine sI zo442 λD3 zo443 hmD3 hsubN hD256=>?_;clear zo442;subst zo443;obtain ⟨h3,tk3,rfl,F3,N3⟩:=i3
 k_steps
 refine iF ?_;have N4:ba c.h₀ c.L h3 ((256,bS qs)::(wa,listOf wv.toArray ew)::(D3,listOf (refsOf (R2 Rw rs')).toArray 0)::(vZ c.L o1 o2 o3 o4 o5 ps++n0)):=cm N3 (FC (hsubN _ (zL (a8 6 rfl))) (FC (hsubN _ (zR hwa)) (FC hmD3 (FA (λp hp=>hsubN p (zL (A4 hp))) λp hp=>hsubN p (zR hp)))));have w256:wa≠256:=hof.n256 hwa;have hfil:(R2 Rw rs').filter (λq=>Jk (km (AK bs q) ((q.2.length:Int)+((bw bs).length:Int))))=R2 Rw rs':=rS.mpr λq hq=>Ke hok (wu hok hnr hq);refine' Jq (ge:=Jk) (Pre:=IN (lr bs)) (Rel:=Md) ?B F3 ?X N4 ?T ?hk ?hd ?hu (bw bs) hwi ?yl ?y0 (uu iX) htr hG ?R40 ?s256 w256 hD256 (by decide) Nh Ng Ni (AK bs) ?rows (λq hq t ht=>Dt hok (Mc hok (wu hok hnr hq)) ht) (λq hq z hz e=>Jy hok q (Mc hok (wu hok hnr hq)) z (Mc hok (wu hok hnr hz)) e) (λq hq _=>KC hok (wu hok hnr hq)) (λouts ho=>(Jf hok hnr (ho.trans hfil)).1) Eo ?hret
 case B=>exact c.B
 case X=>exact c.X
 case T=>exact c.T
 case hk=>exact rfl
 case hd=>have:=hc.hd;exact ltN (cS [c.dp,aH] 1 (.a (.a Z0 (.k 80)) Y1) Z1 1 (.a (.a Z0 (.k 100)) Y1) Z1 rfl (d9 this))
 case hu=>have:=hc.hu;exact ltN (cS [c.un,cT] 1 (.a (.a Z0 (.k 800)) Y1) Z1 1 (.a (.a Z0 (.k 1000)) Y1) Z1 rfl (d9 this))
 case yl=>have:=hok.wl;exact nV (cS [↑((bw bs).length)] 1 Z0 (.k 32) 1 Z0 (.k 20) rfl (d9 this.2.2))
 case y0=>have:=hok.wl;exact ltN (cS [↑((bw bs).length)] 1 (.a Y0 Y1) Z0 1 (.a Y0 Y1) Z0 rfl (d9 this.2.1))
 case R40=>
  unfold R2;rw[aT,eJ,df];exact nV (cS [↑(min 2 rs'.length)] 1 (.a Z0 Y1) (.k 40) 1 Z0 (.k 2) rfl KD)
 case s256=>
  exact FA (vY hc.lo) λp hp=>hof.n256 hp
 case rows=>exact λq hq=>ip (hrows q (wu hok hnr hq)) λp hp=>zR hp
 intro OUT outs outs2 ps2 T s2 ho hrel hsub2 hT o1' o2' o3' o4' o5' hps2 hG2 hos F5 N5;refine b7 (Jf hok hnr (ho.trans hfil)) λzo444 htk=>?_;refine pU zo444 λo0 rest0 hou _=>?_
 try clear zo444
 rw[hrel o0 rest0 hou] at N5
 have hout:(([o0]:List (Addr×RowT)).map λo=>bF o.2.1)=refsOf (rs'.take 1):=by
  rw[← htk o0 rest0 hou];rfl
 rw[hout] at N5
 have hP2:∀h tk,c.P {s2 with heap:=h,toks:=tk}:=λh tk=>by
  rw[ht.hP];exact hG2
 have hTn:∀p∈n0,p∈(OUT,bz (refsOf (rs'.take 1)))::(256,bS ps2)::(wa,listOf wv.toArray ew)::(D3,listOf (refsOf (R2 Rw rs')).toArray 0)::T:=λp hp=>zT (zT (zT (zT (hT p (zR hp)))))
 k_steps
 refine iF ?_;refine' Er.run (k:=(c.on s2 hP2).cx) (m:=zS [(ae "wishes",.ref wa),(ae "near",.ref na),(ae "due",.ref dl),(ae "sets",.ref sa)] m) (oR (k:=(c.on s2 hP2).cx) (lv:=none) (uv:=some 1) (am (v:=.ref na) rfl) (hTn _ hna) hrz mJ (oG bf) ((vU _ 1).trans (vS _ 1))) _ _ ⟨_,_,rfl,F5,N5⟩ ?_;intro v n'' s'' zo445 i4;refine fJ zo445 λD4 zo446 zo447 _=>?_;clear zo445;subst zo446;subst zo447;obtain ⟨h4,tk4,rfl,F6,N6⟩:=i4;have F6':Fr c.h₀ c.L h4 (zS [(ae "wishes",.ref wa),(ae "near",.ref na),(ae "due",.ref dl),(ae "sets",.ref sa)] m):=F6;have N6':ba c.h₀ c.L h4 ((D4,listOf (refsOf (rs'.take 1)).toArray 0)::(OUT,bz (refsOf (rs'.take 1)))::(256,bS ps2)::(wa,listOf wv.toArray ew)::(D3,listOf (refsOf (R2 Rw rs')).toArray 0)::T):=N6;clear F6 N6;dsimp only [Fm.on]
 k_steps
 refine iF ?_;refine AW (rs:=rs'.take 1) (by have:=hc.hu;refine(?_:c.un+64<cT);exact ltN (cS [c.un,cT] 1 (.a (.a Z0 (.k 64)) Y1) Z1 1 (.a (.a Z0 (.k 1000)) Y1) Z1 rfl (d9 this))) (N6' _ (zT (zH))).1 (N6' _ (zH)).1 (λq hq=>?_) ?_
 .refine gJ (hrows q (Bl hok (oH hok hnr (gz hq)))) λva ep h1' h2' _=>?_
  exact(wL va ep ((N6' _ (zT (hTn _ h1'))).1) h2')
 k_steps
 rw[hkk] at F6';have hNZ:ba c.h₀ c.L h4 (bL c.L o1 o2 o3 o4 o5 ps ps2++n0):=cm N6' (FA (uC (λp h=>bk 5 (hT p (zL h))) (a8 2 rfl)) λp h=>zT (hTn p h));exact Ac (s2:={heap:=h4,gens:=s2.gens,drawn:=s2.drawn,toks:=tk4,os:=s2.os}) (hP:=by intro h tk;rw[ht.hP];exact hG2) hos hRr (hnext (c.on _ _) ps2 ⟨hc.cl,hc.hd,hc.hu,hc.lo⟩ ⟨ht.cd,ht.ch,ht.hP⟩ rfl) F6' hNZ hq
end
section
open W PyProof Rows
section
variable {cs:Scope}{c:Fm W0 cs}{sc:Scope}{k:Cx c sc}{m:Lo}{n:Ns}{R:Re}{rest:List Stmt}
theorem Ae{pos}(hl:Ev k m n l (.int a))(hr:Ev k m n r (.int b))(hb:(b==0)=false):Ev k m n (.BinOp l .Mod r pos) (.int (a.fmod b)):=
 ⟨λ_ s hi hq=>dX (hl.run _ s hi λv s1 hv h1=>hr.run _ s1 h1 λv2 s2 e h2=>by
  obtain ⟨t,rfl⟩:=hv;obtain ⟨u,rfl⟩:=e
  exact AutoIntOps.mod_1 (by rw[hb];decide) (hq _ _ ⟨_,rfl⟩ h2.toks))⟩
theorem Ad{o i e:PE}{z pos:Pos}{l:Addr}{va:List Value}{xs:List Int}{ep:Nat}{j y:Int}{n':Value→Ns}(ho:Ev c.cx m n o (.val (.ref l)))(hj:Ev c.cx m n i (.int j))(hv:Ev c.cx m n e (.int y))(hm:(l,listOf va.toArray ep)∈n)(Y:au va xs)(h0:0≤j)(h1:j<xs.length)(hf:j<2 ^ 63)
  (U:∀v,Upd l (listOf va.toArray ep) (listOf (va.set j.toNat v).toArray ep) n (n' v)) (h:∀u,au (va.set j.toNat (.int (xs.getD j.toNat 0+y) u)) (xs.set j.toNat (xs.getD j.toNat 0+y))→cK c m (n' (.int (xs.getD j.toNat 0+y) u)) rest R)
  (hi:autoParam (∀B G new,augStore i B G new=(do gm [new,B,G] (setItem B G new);release [new,B,G] [];ck .next)) zAr):cK c m n (.AugAssign (.Subscript o i z) .Add e pos::rest) R:=
 bK ⟨λQ s J hq=>wpAny_AugAssign_SubscriptAny (ho.run _ s J λv1 s1 d1 i1=>hj.run _ s1 i1 λv2 s2 d2 i2=>by
  cases d1;obtain ⟨u,rfl⟩:=d2;refine getItem_intsK (cZ _ (i2.get hm) rfl ⟨ep,rfl⟩) Y h0 h1 hf λt=>hv.run _ s2 i2 λv3 O d3 i3=>?_;obtain ⟨t3,rfl⟩:=d3;have H:=i3.toks (tk:=O.toks+1)
  exact iadd_int (ksa_set H.at.1 H.at.2 (U _) Y h0 h1 hf λh' F' N' hI _ _=>hq .next _ _ _ (h _ hI) (H.to (tk:=O.toks+1) F' N'))) hi⟩
theorem Cf(hf:Ev c.cx m n f (.val (.type "enumerate")))(he:Ev c.cx m n e (.val (.ref l)))(hl:c.h₀.IsList l vs.toArray)(hx:au vs xs)(J:Lo→Ns→Prop)(h0:J m n)
  (turn:∀(i:Nat) x t t2 B u own,xs[i]?=some x→J B u→(∀p∈own,∀q∈n,p.1≠q.1)→cK c (ci (ci B Y (.int (i:Int) t)) U (.int x t2)) (own++u) body (λf m' n'=>f=.next∧∃G,n'=own++G∧G.map (·.1)=u.map (·.1)∧J m' G)) (done:∀B u,J B u→cK c B u rest R)
  (c1:autoParam (CC c.env f [e] H) zAa) (c2:autoParam (SE c.env e []) zAa)
  (k1:autoParam (c.env.kindOf Y=some .local) zAa) (k2:autoParam (c.env.kindOf U=some .local) zAa) (hp:autoParam ((c.env.scope.kind == .class||(c.env.scope.kind == .module&&c.env.locals != c.env.globals))=false) zAa) (hs:autoParam (∀z,bW (.Call f [e] [] H) c.env z=ck z) zAb):
  cK c m n (.For (.Tuple [.Name Y pk,.Name U pv] kk pt) (.Call f [e] [] H) body [] pos::rest) R:=
 bK ⟨λQ s ah hq=>For_pair3 (env:=c.env) c.h₀ rfl k1 k2 hp (gq (hf.run _ s ah λv s1 d1 i1=>by
  cases d1;refine callWith_type1 (aI (he.run _ s1 i1 λv2 s2 d2 i2=>bJ ?_) c2) c2;cases d2;obtain ⟨h1,aj,rfl,F0,N0⟩:=i2;refine call_enum_list rfl hl (IntsAre.areOf hx) F0 N0 λh' e' F' N' S=>S.at c.env rfl Y U body Q (λ_=>J) h0 (λi a t v B u s₃ own O ha hk j hn ho F1 N1=>?_) (λh3 tk m' n' F3 N3 _ j=>hq .next _ _ _ (done m' n' j) ⟨h3,tk,rfl,F3,N3⟩);obtain ⟨h3,ab,rfl⟩:=O;obtain ⟨t2,rfl⟩:=ItemKind.int_is hk;refine(turn i a t t2 B u own ha j ho).run _ _ ⟨h3,ab,rfl,F1,N1⟩ λf' m' n' s' r i'=>?_;obtain ⟨rfl,G,rfl,hm,j'⟩:=r;obtain ⟨h4,aa,rfl,F4,N4⟩:=i'
  exact⟨rfl,h4,aa,m',G,rfl,F4,N4,hm,j'⟩) c1) hs c.hE⟩
theorem Fl(h1:Ev c.cx m n e1 (.int a1))(h2:Ev c.cx m n e2 (.int a2))(h3:Ev c.cx m n e3 (.int a3))(h4:Ev c.cx m n e4 (.int a4))(h5:Ev c.cx m n e5 (.int a5))
  (O:autoParam (∀r,SE c.env e1 r) zAb) (J:autoParam (∀r,SE c.env e2 r) zAb) (H:autoParam (∀r,SE c.env e3 r) zAb) (G:autoParam (∀r,SE c.env e4 r) zAb) (B:autoParam (∀r,SE c.env e5 r) zAb):
  Er c.cx m n (.List [e1,e2,e3,e4,e5] pos) (λv n'=>∃D va,v=.ref D∧n'=(D,listOf (bO va) 0)::n∧au va [a1,a2,a3,a4,a5]∧∀q∈n,@aP Nat _ q.1 D):=
 ⟨λQ s hi hq=>List_ (aI (h1.run _ s hi λv1 s1 d1 i1=>aI (h2.run _ s1 i1 λv2 s2 d2 i2=>aI (h3.run _ s2 i2 λv3 z d3 i3=>aI (h4.run _ z i3 λv4 u d4 Y=>aI (h5.run _ u Y λv5 e d5 i5=>bJ (by
  obtain ⟨t1,rfl⟩:=d1;obtain ⟨t2,rfl⟩:=d2;obtain ⟨t3,rfl⟩:=d3;obtain ⟨t4,rfl⟩:=d4;obtain ⟨t5,rfl⟩:=d5
  exact yT i5.at.1 i5.at.2 (λD h' F' N' U=>hq _ _ _ (se D _ rfl rfl (.cons _ _ (.cons _ _ (.cons _ _ (.cons _ _ (.cons _ _ .nil))))) U) (i5.to (tk:=e.toks) F' N')) (by decide:(5:Nat)≤dY))) (B _)) (G _)) (H _)) (J _)) (O _))⟩
structure CH(bs:List Int):Prop where
 l:bs.length=5
 b:∀b∈bs,0≤b∧b<16
 h:∃b r,bs=b::r∧1≤b∧b<16
theorem QX{xs:List Int}(h:xs.length=5):CH ((1+(xs.getD 0 0).fmod 15)::(xs.drop 1).map (·.fmod 16)) where
 l:=by rw[gT,aE,eV,h]
 b:=λb hb=>by
  rcases ak.mp hb with rfl|hb
  .exact⟨cj (by decide) (Ln _).1,(Ln _).2⟩
  .obtain ⟨z,_,rfl⟩:=eg.mp hb
   exact QL z
 h:=⟨_,_,rfl,Ln _⟩
theorem CE{c:Fm W0 (tw P0.main.body 22)}{m:Lo}{n:Ns}{sl:Addr}{vs:List Value}{ns:List Int}(hm:m "script"=some (.ref sl))(hl:c.h₀.IsList sl vs.toArray)(hx:au vs ns)(hn:ns.length≤63):
  cK c m n (vh P0.main.body 22) (λfl _ n'=>∃D va bs ep,yc fl=.ref D∧au va bs∧CH bs∧(∀p∈n,@aP Nat _ p.1 D)∧∀p∈(D,listOf (bO va) ep)::n,p∈n'):=by
 refine dG (Fl bf bf bf bf bf) λv n' h=>?_;obtain ⟨D,va,rfl,rfl,hi,lD⟩:=h;refine Cf cO (am (bc hm)) hl hx (λm' n'=>m' "cells"=some (.ref D)∧∃va xs,n'=(D,listOf (bO va) 0)::n∧au va xs∧xs.length=5) ⟨cW,va,_,rfl,hi,rfl⟩ (λi x t t2 O J own ha j ho=>?_) λO J j=>?_
 .obtain ⟨hc,va,xs,rfl,hi,h5⟩:=j
  have f5:=Su (i:Int);refine Ad (n':=λv=>own++(D,listOf (va.set ((i:Int).fmod 5).toNat v).toArray 0)::n) (am (bc (bc hc))) (Ae (ai (bc cW)) bf rfl) (ai cW) (zR (zH)) hi f5.1 (by rw[h5];exact f5.2) (jZ f5.2 (by decide)) (λv=>AE (λp hp=>ho p hp _ (zH)) (.head λp hp=>aB (lD p hp))) λu ab=>b9 ⟨rfl,_,rfl,rfl,bc (bc hc),_,_,rfl,ab,by rw[List.length_set,h5]⟩
 .obtain ⟨hc,va,xs,rfl,hi,h5⟩:=j
  have z:(D,listOf (bO va) 0)∈(D,listOf (bO va) 0)::n:=zH;have e:∀p∈n,p∈(D,listOf (bO va) 0)::n:=λp h=>zT h;generalize (D,listOf (bO va) 0)::n=N at z e ⊢
  have U:va.length=5:=by rw[hi.length,h5]
  refine uI (wV (P:=λv n1=>∃A t,v=.ref A∧n1=(A,listOf [fn (1+(xs.getD 0 0).fmod 15) t].toArray 0)::N) (P2:=λv n2=>∃B G,v=.ref B∧(B,bz G)∈n2∧au G ((xs.drop 1).map (·.fmod 16))) (P':=λv n'=>∃D va bs ep,v=.ref D∧au va bs∧CH bs∧(∀p∈N,@aP Nat _ p.1 D)∧∀p∈(D,listOf (bO va) ep)::N,p∈n')
   (rA (iL (ec bf (Ae (fk (am hc) bf z hi (by decide) (by rw[h5];decide) (by decide)) bf rfl))) λv n' A h _=>?_) (λv n1 h=>?_) λv n1 v2 n2 h h2 H=>?_) λv n' h=>?_
  .obtain ⟨⟨t,rfl⟩,rfl⟩:=h
   exact⟨A,t,rfl,rfl⟩
  .have Y:∀p∈N,p∈n1:=by
    obtain ⟨A,t,_,rfl⟩:=h;exact λp h=>zT h
   refine nC rfl (sj (oR (am hc) (Y _ z) (by rw[U];decide) (oG (i:=(1:Nat)) bf) mJ rfl)) λv n' s1 h i1=>?_;obtain ⟨D2,rfl,rfl,l2⟩:=h;have S:=pC i1 (zH) (sd hi 1) (by rw[eV,h5];decide);refine⟨_,_,_,_,S.p,EF (f:=(·.fmod 16)) rfl S (λC E' mC n2 y t hy aa hs2=>Ae (ai aa) bf rfl) λD G hz hl=>⟨⟨D,G,rfl,zH,hz⟩,λp hp=>zT (zT hp)⟩⟩
  .obtain ⟨A,t,rfl,rfl⟩:=h
   obtain ⟨B,G,rfl,hB,hz⟩:=h2;refine⟨A,B,_,G,0,_,rfl,rfl,zH,hB,by rw[hz.length,aE,eV,h5];exact(by decide:1+(5-1)≤1000),λD hD=>⟨D,_,_,0,rfl,.cons _ _ hz,QX h5,λp hp=>hD _ (H _ (zT hp)),FC (zH) λp hp=>zT (H _ (zT hp))⟩⟩
  .obtain ⟨D,va,bs,ep,rfl,h1,h2,h3,h4⟩:=h
   exact⟨D,va,bs,ep,rfl,h1,h2,λp hp=>h3 p (e p hp),FC (h4 _ (zH)) λp hp=>h4 p (zT (e p hp))⟩
theorem IJ{sl:Addr}(hd:c.dp+1<aH)(hl:c.h₀.IsList sl vs.toArray)(H:au vs ns)(hn:ns.length≤63)(F:Fr c.h₀ c.L s.heap m)(N:ba c.h₀ c.L s.heap n)
  (hq:∀v n' h' tk',(∃D va bs ep,v=.ref D∧au va bs∧CH bs∧(∀p∈n,@aP Nat _ p.1 D)∧n'=(D,listOf (bO va) ep)::n)→Fr c.h₀ c.L h' m→ba c.h₀ c.L h' n'→Q v {s with heap:=h',toks:=tk'}):ay (aq P0 W0) (ic c.dp c.un c.gd c.cn cs c.L c.a c.ccd c.cl c.outer) (call (.ref 347) [.ref sl]) Q E s:=
 ev (xg (body:=vh P0.main.body 22) (scope:=tw P0.main.body 22) (binds:=[("script",.ref sl)]) c.B F c.X N c.T rfl rfl c.hk (by with_unfolding_all rfl) (by with_unfolding_all rfl) (by show _<aH;simp only;exact C9 hd) (dB rfl) (ss rfl) (λg L' u Y F' U B' J T'=>by
  refine wj (cs:=tw P0.main.body 22) B' F' J U T' rfl (by passes_own) (λz _ n'=>∃D va bs ep,yc z=.ref D∧au va bs∧CH bs∧(∀p∈n,@aP Nat _ p.1 D)∧∀p∈(D,listOf (bO va) ep)::n,p∈n') (λc' _ _ _ _ _ hh=>CE rfl (by rw[hh];exact hl.at λo e=>Y.keep _ o e) H hn) ?_;intro z m' n' h' tk hP F2 O;obtain ⟨D,va,bs,ep,e,h1,h2,h3,h4⟩:=hP
  exact tS F2 (cm O h4) λkF G=>hq _ _ _ _ ⟨D,va,bs,ep,e,h1,h2,h3,rfl⟩ kF G) rfl rfl rfl (by decide))
end
end
section
open W PyProof Rows
open PyProof.Rows.LCg
theorem PY(hl:@aP Nat _ 366 L)(e:b8 L n0):
  xh (L+1) o1 (bL L o1 o2 o3 o4 o5 ps qs++n0) (λo'=>bL L o' o2 o3 o4 o5 ps qs++n0):=by
 have z:∀k:Nat,@aP Nat _ (L+1) (L+1+(k+1)):=λk=>JF (bx (L+1) k);have y:∀a:Nat,a<366→a≠L+1:=λa h=>aB (aW (aO h hl));exact .tail (aF (z 3)) (.tail (aF (z 2)) (.tail (aF (z 1)) (.tail (aF (z 0)) (.head (FC (y 364 (by decide)) (FC (y 256 (by decide)) e.all.1))))))
theorem Ow{sl:Addr}(hc:LawC c)(G:o1.data=.cell none)(hm:m (ae "script")=some (.ref sl))(hl:c.h₀.IsList sl vs.toArray)(hi:au vs ns)(hn:ns.length≤63)(u:b8 c.L n0)
  (e:∀(D:Addr) (va:List Value) (bs:List Int) (ep:Nat) (o:Obj),au va bs→CH bs→o.data=.cell (some (.ref D))→(∀p∈bL c.L o1 o2 o3 o4 o5 ps qs++n0,@aP Nat _ p.1 D)→cK c m (bL c.L o o2 o3 o4 o5 ps qs++(D,listOf (bO va) ep)::n0) rest R):
  cK c m (bL c.L o1 o2 o3 o4 o5 ps qs++n0) (bp 0::rest) R:=by
 refine pF (a:=c.L+1) (Bh (fa:=347) (v0:=.ref sl) fT (am hm) (by with_unfolding_all rfl) λs Q E F N hq=>IJ (zJ hc.hd (bR true)) hl hi hn F N hq) (by rw[hc.cl];rfl) λv n' h=>?_;obtain ⟨D,va,bs,ep,rfl,h1,h2,B,rfl⟩:=h;exact⟨o1,_,none,.tail (aF (B (c.L+1,o1) (a8 4 rfl))) (PY hc.lo u),G,λo' z=>cL (e D va bs ep o' h1 h2 z B) (FA (λp h=>zT (zL h)) (FC (zH) λp h=>zT (zR h)))⟩
end
section
open W PyProof Rows
open PyProof.Rows.LCg
theorem Ov(hc:LawC c)(B:o1.data=.cell (some (.ref D)))(hD:(D,listOf va.toArray ep)∈n0)(hi:au va bs)(z:bs.length=5):
  Ex c m (bL c.L o1 o2 o3 o4 o5 ps qs++n0) (bp 1) (λf m' n'=>f=.next∧∃(W:Addr) (ys:List Value),m'=ci m (ae "wishes") (.ref W)∧au ys (jB (zl bs) (λi j=>5*(i:Int)+(j:Int)) 5 4)∧(∀p∈bL c.L o1 o2 o3 o4 o5 ps qs++n0,p.1<W)∧n'=bL c.L o1 o2 o3 o4 o5 ps qs++(W,bz ys)::n0):=by
 refine H6 (Io (P':=λv n'=>∃W ys,v=.ref W∧au ys (jB (zl bs) (λi j=>5*(i:Int)+(j:Int)) 5 4)∧(∀p∈bL c.L o1 o2 o3 o4 o5 ps qs++n0,p.1<W)∧n'=bL c.L o1 o2 o3 o4 o5 ps qs++(W,bz ys)::n0) (Fq (AC (zR hD) hi z) fT (eH (a:=c.L+1) (o:=o1) (by refine(?_:c.cl.lookup _=_);rw[hc.cl];rfl) (a8 4 rfl) B) (by with_unfolding_all rfl) (aK (bq (by decide) _) hc.hd) (aK (bq (by decide) _) hc.hu)) λv n' h=>by
  obtain ⟨W,_,rfl,⟨ys,rfl,e⟩,rfl,u⟩:=h
  exact⟨_,⟨W,ys,rfl,e,u,rfl⟩,FA (λp h=>zT (zL h)) (FC (zH) λp h=>zT (zR h))⟩) λv n' h=>?_
 obtain ⟨W,ys,rfl,e,u,rfl⟩:=h;exact⟨rfl,W,ys,rfl,e,u,rfl⟩
end
section
open W PyProof Rows
open PyProof.Rows.LCg
noncomputable def Ox(bs:List Int):List Nat:=(aU 4).map (FH bs)
theorem zQ(bs:List Int):aZ bs=(Ox bs).map oZ:=by
 unfold aZ Ox;rw[iQ];rfl
theorem EN(hl:bs.length=5):∀k∈Ox bs,k≤5:=by
 intro k hk;refine fK (eg.mp hk) λt _ e=>?_;subst e;exact aw (bU ..) (Ky hl (bR true))
structure Mf(o3 o4 o5:Obj)(n0:Ns)(m:Lo)(bs:List Int)(Rw:List RowT):Prop where
 W:∃wa wv ew,m (ae "wishes")=some (.ref wa)∧(wa,listOf (bO wv) ew)∈n0∧au wv (bw bs)
 V:∃vt vv,o5.data=.cell (some (.ref vt))∧(vt,bz vv)∈n0∧au vv (aZ bs)
 P:∃pa vp,o4.data=.cell (some (.ref pa))∧(pa,bz vp)∈n0∧jp vp (Ox bs)
 Ro:∃ra va ea,m (ae "row")=some (.ref ra)∧(ra,listOf (bO va) ea)∈n0∧au va (eh (aZ bs) 4)
 Wd:∃wd dv ed,m (ae "wanted")=some (.ref wd)∧(wd,listOf (bO dv) ed)∈n0∧au dv (dF (aZ bs))
 S:∃sa es,m (ae "sets")=some (.ref sa)∧(sa,listOf (refsOf Rw).toArray es)∈n0
 rows:∀q∈Rw,jo n0 q
 bo:∃tb,o3.data=.cell (some (.int (dn (aZ bs)) tb))
 mo:∃tm,m (ae "most")=some (.int (dc (aZ bs)) tm)
section
variable {o3 o4 o5:Obj}{n0 n1:Ns}{m m':Lo}{bs:List Int}{R Rw:List RowT}
noncomputable def uF:List Str:=[ae "wishes",ae "row",ae "wanted",ae "sets",ae "most"]
theorem Mf.mono(h:Mf o3 o4 o5 n0 m bs Rw)(hs:∀p∈n0,p∈n1)(hm:∀x∈uF,m' x=m x):Mf o3 o4 o5 n1 m' bs Rw:=by
 have k1:=hm (ae "wishes") (by k_extra "zmm");have k2:=hm (ae "row") (by k_extra "zmm");have k3:=hm (ae "wanted") (by k_extra "zmm");have k4:=hm (ae "sets") (by k_extra "zmm");have k5:=hm (ae "most") (by k_extra "zmm");obtain ⟨⟨wa,wv,ew,a1,a2,a3⟩,⟨vt,vv,b1,b2,b3⟩,⟨pa,vp,c1,c2,c3⟩,⟨ra,va,ea,B,d2,z⟩,⟨wd,dv,ed,e1,e2,e3⟩,⟨sa,es,u,e⟩,g,i,⟨tm,j⟩⟩:=h;exact⟨(nW wa wv ew (k1.trans a1) (hs _ a2) a3),(ir vt vv b1 (hs _ b2) b3),(ir pa vp c1 (hs _ c2) c3),(nW ra va ea (k2.trans B) (hs _ d2) z),(nW wd dv ed (k3.trans e1) (hs _ e2) e3),(wL sa es (k4.trans u) (hs _ e)),λq hq=>ip (g q hq) hs,i,⟨tm,k5.trans j⟩⟩
theorem EO(z:x∉uF):∀y∈uF,ci m x v y=m y:=λy u=>if_neg (λe:y=x=>z (e▸u))
noncomputable def As:Re:=λf m' n'=>f=.ret (.bool true)∧∃ps qs,(364,bS ps)∈n'∧(256,bS qs)∈n'
theorem uX:∀f m n,As f m n→∃v,f=.ret v:=λ_ _ _ h=>⟨_,h.1⟩
end
section
variable {c:Fm W0 lawS}{m:Lo}{n0:Ns}{bs:List Int}{R Rw NR:List RowT}{o1 o2 o3 o4 o5:Obj}{ps qs:Array Value}
theorem Oj(hc:LawC c)(ht:oW c)(u:b8 c.L n0)(e:cR bs R Rw)(O:ki (aZ bs) Rw NR)(M:Mf o3 o4 o5 n0 m bs Rw){v2:Option Value}(d2:o2.data=.cell v2){na dl:Addr}{en ed:Nat}
  (U:(na,listOf (refsOf NR).toArray en)∈n0) (ah:(dl,listOf (refsOf (dR (aZ bs) Rw)).toArray ed)∈n0) (J:dZ qs.toList) (aa:m (ae "near")=some (.ref na)) (Y:m (ae "due")=some (.ref dl)):
  cK c m (bL c.L o1 o2 o3 o4 o5 ps qs++n0) [bp 17,bp 18,bp 19,bp 20] As:=by
 have M0:=M;obtain ⟨⟨wa,wv,ew,a1,a2,a3⟩,⟨vt,vv,b1,b2,b3⟩,⟨pa,vp,c1,c2,c3⟩,⟨ra,va,ea,ar,ap,aj⟩,⟨wd,dv,aD,e1,e2,e3⟩,⟨sa,es,f1,f2⟩,g,i,⟨tm,j⟩⟩:=M;have vf:=e.vf;refine KS hc ht u e O a2 a3 U ah f2 g J a1 aa Y f1 uX λc' qs' z as eL=>?_;rw[← eL] at u ⊢;refine KR z d2 u b1 b2 b3 rfl e2 e3 (wB _) e1 (λi hi=>vf.dif i hi) λm' oC v0 ab ax=>?_;refine KQ z c1 b1 b2 c2 c3 rfl (zQ bs) (EN e.bl) b3 λH G=>?_;have B:H (ae "row")=some (.ref ra):=(G _ (by decide) (by decide) (by decide)).trans ((ab _ (by decide)).trans ar)
 exact kZ (KP z b1 b2 b3 rfl ap aj B vf.inc) λf m1 n1 h=>⟨h.1,ps,qs',h.2 _ (zL (by k_extra "zmm")),h.2 _ (zL (by k_extra "zmm"))⟩
theorem kQ:ci m x v x=some v:=if_pos rfl
theorem jO(h:autoParam (y≠x) zAd):ci m x v y=m y:=if_neg h
theorem wD(h1:y≠B)(h2:y≠z)(h3:y≠u)(h4:y≠e):ci (ci (ci (ci m B v1) z v2) u G) e v4 y=m y:=(jO h4).trans ((jO h3).trans ((jO h2).trans (jO h1)))
theorem b8.consNe(h:b8 L n)(l:∀p∈bL L o1 o2 o3 o4 o5 ps qs,p.1≠D):b8 L ((D,o)::n):=by
 intro p hp
 rcases ak.mp hp with rfl|hp
 .simp only[bL,eW] at l
  refine Qq l λz B G l2 H u e _=>?_
  try clear l
  simp only[ak,bT,or_false,not_or];exact(Lh (Ne.symm H) (Ne.symm l2) (Ne.symm G) (Ne.symm B) (Ne.symm z) (Ne.symm u) (Ne.symm e))
 .exact h p hp
theorem Ji(hc:LawC c)(ht:oW c)(ar:b8 c.L n0)(B:cR bs R Rw)(M:Mf o3 o4 o5 n0 m bs Rw){v2:Option Value}(d2:o2.data=.cell v2){rl:Addr}{er:Nat}{cA cB:Addr}(aQ:ps=kT (B0 (bp 7)) (kT (oN (bp 6)) #[] cA) cB)
  (aM:(rl,listOf (refsOf R).toArray er)∈n0) (O:∀q∈R,jo n0 q) (aD:dZ qs.toList) (a6:m (ae "rows")=some (.ref rl)):
  cK c m (bL c.L o1 o2 o3 o4 o5 ps qs++n0) [bp 12,bp 13,bp 14,bp 15,bp 16,bp 17,bp 18,bp 19,bp 20] As:=by
 have M0:=M;obtain ⟨⟨wa,wv,ew,a1,a2,a3⟩,⟨vt,vv,b1,b2,b3⟩,⟨pa,vp,c1,c2,c3⟩,⟨ra,va,ea,ab,aa,Y⟩,⟨wd,dv,bi,e1,e2,e3⟩,⟨sa,es,f1,f2⟩,g,⟨tb,i⟩,⟨tm,j⟩⟩:=M;have vf:=B.vf;have ah:=zg B.bl;refine K0 hc ht ar B i a2 a3 aM O aD a1 a6 j uX λc' OUT NR qs' G J eL a0 aj hne=>?_;have z:b8 c.L ((OUT,bz (refsOf NR))::n0):=ar.consNe λp hp=>hne p (zL hp);rw[← eL] at z ⊢;subst aQ;refine KZ G J z (True.intro) rfl i b1 (zT b2) b3 rfl ah ab j (zT aa) Y λcC u=>?_;refine KY G J z (True.intro) rfl i b1 (zT b2) b3 rfl ah ab j (zT aa) Y λcD e=>?_;refine KW λdl as=>?_;refine cL ?_ mM;have H:b8 c'.L ((dl,listOf ([]:List Value).toArray 0)::(OUT,bz (refsOf NR))::n0):=z.cons λp hp=>as p (zL hp);change cK c' (ci (ci (ci (ci m (ae "near") (.ref OUT)) (ae "low") (.int (jj (aZ bs):Nat) u)) (ae "high") (.int (gr (aZ bs):Nat) e)) (ae "due") (.ref dl)) _ _ _;have q1:(ci (ci (ci (ci m (ae "near") (.ref OUT)) (ae "low") (.int (jj (aZ bs):Nat) u)) (ae "high") (.int (gr (aZ bs):Nat) e)) (ae "due") (.ref dl)) (ae "row")=some (.ref ra):=(wD (by decide) (by decide) (by decide) (by decide)).trans ab;have q2:(ci (ci (ci (ci m (ae "near") (.ref OUT)) (ae "low") (.int (jj (aZ bs):Nat) u)) (ae "high") (.int (gr (aZ bs):Nat) e)) (ae "due") (.ref dl)) (ae "wanted")=some (.ref wd):=(wD (by decide) (by decide) (by decide) (by decide)).trans e1;have q3:(ci (ci (ci (ci m (ae "near") (.ref OUT)) (ae "low") (.int (jj (aZ bs):Nat) u)) (ae "high") (.int (gr (aZ bs):Nat) e)) (ae "due") (.ref dl)) (ae "sets")=some (.ref sa):=(wD (by decide) (by decide) (by decide) (by decide)).trans f1;have q4:(ci (ci (ci (ci m (ae "near") (.ref OUT)) (ae "low") (.int (jj (aZ bs):Nat) u)) (ae "high") (.int (gr (aZ bs):Nat) e)) (ae "due") (.ref dl)) (ae "due")=some (.ref dl):=kQ;have q5:(ci (ci (ci (ci m (ae "near") (.ref OUT)) (ae "low") (.int (jj (aZ bs):Nat) u)) (ae "high") (.int (gr (aZ bs):Nat) e)) (ae "due") (.ref dl)) (ae "high")=some (.int (gr (aZ bs):Nat) e):=(jO).trans kQ;have q6:(ci (ci (ci (ci m (ae "near") (.ref OUT)) (ae "low") (.int (jj (aZ bs):Nat) u)) (ae "high") (.int (gr (aZ bs):Nat) e)) (ae "due") (.ref dl)) (ae "low")=some (.int (jj (aZ bs):Nat) u):=(jO).trans ((jO).trans kQ);have q7:(ci (ci (ci (ci m (ae "near") (.ref OUT)) (ae "low") (.int (jj (aZ bs):Nat) u)) (ae "high") (.int (gr (aZ bs):Nat) e)) (ae "due") (.ref dl)) (ae "near")=some (.ref OUT):=(jO).trans ((jO).trans ((jO).trans kQ))
 have q8:∀x∈uF,(ci (ci (ci (ci m (ae "near") (.ref OUT)) (ae "low") (.int (jj (aZ bs):Nat) u)) (ae "high") (.int (gr (aZ bs):Nat) e)) (ae "due") (.ref dl)) x=m x:=λx hx=>by
  simp only[uF,ak,bT,or_false] at hx
  rcases hx with rfl|rfl|rfl|rfl|rfl<;>exact wD (by decide) (by decide) (by decide) (by decide)
 generalize (ci (ci (ci (ci m (ae "near") (.ref OUT)) (ae "low") (.int (jj (aZ bs):Nat) u)) (ae "high") (.int (gr (aZ bs):Nat) e)) (ae "due") (.ref dl))=m9 at q1 q2 q3 q4 q5 q6 q7 q8 ⊢;refine KU G (sv:=refsOf Rw) (vs:=aZ bs) d2 H (λp hp=>kX (as p (zR hp))) (zT aa) Y (zT e2) e3 (zT f2) (by rw[refsOf,aE];exact B.len) q1 q2 q3 q4 q5 q6 λm' oC v0 ed U bb=>?_;have a7:jS (aZ bs) (refsOf Rw) 16=refsOf (dR (aZ bs) Rw):=Fu B rfl;rw[a7]
 have bh:Mf o3 o4 o5 ((dl,listOf (refsOf (dR (aZ bs) Rw)).toArray ed)::(OUT,bz (refsOf NR))::n0) m' bs Rw:=M0.mono (λp hp=>zT (zT hp)) λx hx=>by
  have ax:x≠ae "lacking":=by
   simp only[uF,ak,bT,or_false] at hx
   rcases hx with rfl|rfl|rfl|rfl|rfl<;>decide
  exact(U x ax).trans (q8 x hx)
 have h9:=H (dl,listOf ([]:List Value).toArray 0) (zH)
 have ap:b8 c'.L ((dl,listOf (refsOf (dR (aZ bs) Rw)).toArray ed)::(OUT,bz (refsOf NR))::n0):=λp hp=>by
  rcases ak.mp hp with rfl|hp
  .exact h9
  .exact z p hp
 have r7:m' (ae "near")=some (.ref OUT):=(U _ (by decide)).trans q7;have r4:m' (ae "due")=some (.ref dl):=(U _ (by decide)).trans q4;have a4:(OUT,listOf (refsOf NR).toArray (refsOf NR).length)∈(dl,listOf (refsOf (dR (aZ bs) Rw)).toArray ed)::(OUT,bz (refsOf NR))::n0:=zT (zH);have a5:(dl,listOf (refsOf (dR (aZ bs) Rw)).toArray ed)∈(dl,listOf (refsOf (dR (aZ bs) Rw)).toArray ed)::(OUT,bz (refsOf NR))::n0:=zH;exact Oj G J ap B a0 bh bb a4 a5 aj r7 r4
end
end
section
open W PyProof Rows
open PyProof.Rows.LCg
section
variable {c:Fm W0 lawS}{m:Lo}{n0:Ns}{bs:List Int}{Rw:List RowT}{o1 o2 o3 o4 o5:Obj}{ps qs:Array Value}
theorem KN(hc:LawC c)(ht:oW c)(ab:b8 c.L n0)(as:bs.length=5)(h0:gu (aZ bs)≠0)(hw:Rw.map (·.2)=(aU 16).map gI)(aj:(Rw.map (·.1)).Nodup)(M:Mf o3 o4 o5 n0 m bs Rw)(d2:o2.data=.cell v2)(Y:ps=kT (B0 (bp 7)) (kT (oN (bp 6)) #[] cA) cB)(U:dZ qs.toList):
  cK c m (bL c.L o1 o2 o3 o4 o5 ps qs++n0) [bp 10,bp 11,bp 12,bp 13,bp 14,bp 15,bp 16,bp 17,bp 18,bp 19,bp 20] As:=by
 have M0:=M;obtain ⟨⟨wa,wv,ew,a1,a2,a3⟩,_,_,_,_,⟨sa,es,f1,f2⟩,g,_,_⟩:=M
 have B:(refsOf Rw).length=16:=by
  have:=congrArg eE hw;rw[aE,aE,db] at this;rw[refsOf,aE,this]
 refine K3 (zR f2) (Ky B (bR true)) f1 λrl er O=>?_;have H:ci m (ae "rows") (.ref rl) (ae "rows")=some (.ref rl):=kQ;have ap:ci m (ae "rows") (.ref rl) (ae "wishes")=some (.ref wa):=(jO).trans a1;have hk:∀x∈uF,ci m (ae "rows") (.ref rl) x=m x:=EO (by decide);generalize ci m (ae "rows") (.ref rl)=m1 at ap H hk ⊢;refine K2 (zR a2) a3 (aw sZ (gy 20 12)) (Ky B (bR true)) (λp hp=>kX (O p hp)) ap H λaQ er2 ex hx=>?_
 rcases hx with ⟨_,rfl,rfl⟩|⟨h3,u,z,e,rfl,rfl,ax,ar,aM⟩
 .have G:b8 c.L ((rl,listOf (refsOf Rw).toArray er2)::n0):=ab.consNe λp hp=>kX (O p (zL hp))
  refine cL (Ji (R:=Rw) hc ht G ⟨as,h0,hw,.inl rfl,aj⟩ (M0.mono (λp hp=>zT hp) hk) d2 Y (zH) (λq hq=>ip (g q hq) λp hp=>zT hp) U H) mM
 .have e2:refsOf Rw++[bF u]=refsOf (Rw++[(u,(bw bs).reverse)]):=by
   unfold refsOf;rw[aX];rfl
  rw[e2];have aa:b8 c.L ((u,listOf z.toArray e)::n0):=ab.consNe λp hp=>kX (ar p (zL hp));have G:b8 c.L ((rl,listOf (refsOf (Rw++[(u,(bw bs).reverse)])).toArray er2)::(u,listOf z.toArray e)::n0):=aa.consNe λp hp=>kX (O p (zL hp));have sub:∀p∈n0,p∈(rl,listOf (refsOf (Rw++[(u,(bw bs).reverse)])).toArray er2)::(u,listOf z.toArray e)::n0:=λp hp=>zT (zT hp)
  have aD:∀q∈Rw++[(u,(bw bs).reverse)],jo ((rl,listOf (refsOf (Rw++[(u,(bw bs).reverse)])).toArray er2)::(u,listOf z.toArray e)::n0) q:=λq hq=>by
   rcases aC.mp hq with hq|hq
   .exact ip (g q hq) sub
   .rw[aA.mp hq]
    refine(se z e (zT (zH)) ax ?_ ?_)
    .refine(?_:(bw bs).reverse.length≤32)
     rw[bg];exact aw sZ (gy 20 12)
    .exact kj.mpr ((uu (iX (bs:=bs))).imp Ne.symm)
  have ah:((Rw++[(u,(bw bs).reverse)]).map (·.1)).Nodup:=by
   rw[aX];refine List.nodup_append.mpr (eR aj (by simp) (λa ha b hb=>?_));rw[List.map_singleton,aA] at hb;refine fK (eg.mp ha) λq hq J=>?_;subst J;refine pU (g q hq) λva ep hm _=>?_;rw[hb];exact kX (ar _ (zR hm))
  refine cL (Ji (o1:=o1) (R:=Rw++[(u,(bw bs).reverse)]) hc ht G ⟨as,h0,hw,.inr ⟨h3,u,rfl⟩,ah⟩ (M0.mono sub hk) d2 Y (zH) aD U H) λp (hp:p∈bL c.L o1 o2 o3 o4 o5 ps qs++(rl,listOf (refsOf (Rw++[(u,(bw bs).reverse)])).toArray er2)::(u,listOf z.toArray e)::n0)=>?_;simp only[aC,ak,bT,or_false,ik,List.singleton_append,fE] at hp ⊢
  rcases hp with h|h|h|h
  .exact .inr (.inr (.inl h))
  .exact .inl h
  .exact .inr (.inl h)
  .exact .inr (.inr (.inr h))
theorem KO(hc:LawC c)(ht:oW c)(a4:b8 c.L n0)(z:bs.length=5)(h0:gu (aZ bs)≠0)(hw:Rw.map (·.2)=(aU 16).map gI)(a5:(Rw.map (·.1)).Nodup)(d1:o1.data=.cell (some (.ref B)))(d2:o2.data=.cell v2)(d3:o3.data=.cell none)(d4:o4.data=.cell none)(d5:o5.data=.cell none)
  (hB:(B,listOf va.toArray ep)∈n0) (hi:au va bs) (W:∃wa wv ew,m (ae "wishes")=some (.ref wa)∧(wa,listOf (bO wv) ew)∈n0∧au wv (bw bs)) (S:∃sa es,m (ae "sets")=some (.ref sa)∧(sa,listOf (refsOf Rw).toArray es)∈n0) (a0:∀q∈Rw,jo n0 q):
  cK c m (bL c.L o1 o2 o3 o4 o5 #[] #[]++n0) [bp 3,bp 4,bp 5,bp 6,bp 7,bp 8,bp 9,bp 10,bp 11,bp 12,bp 13,bp 14,bp 15,bp 16,bp 17,bp 18,bp 19,bp 20] As:=by
 refine zG W λwa wv ew w1 w2 w3=>?_
 try clear W
 refine pU S λsa es s1 s2=>?_
 try clear S
 have as:(Ox bs).length=4:=rfl;refine Ot hc d1 d5 hB hi z a4 λV vv o5' e5 hv ar pV=>?_;refine Oq hc d1 d4 (zT hB) hi z ar λP vp o4' e4 hp U R8=>?_;refine Op λra HD=>?_;refine cL ?_ mM;have ah:∀p∈(P,bz vp)::(V,bz vv)::n0,p.1≠ra:=λp hp=>kX (HD p (zR hp));have ap:b8 c.L ((ra,bz [])::(P,bz vp)::(V,bz vv)::n0):=U.consNe λp hp=>kX (HD p (zL hp));have k1:ci m (ae "row") (.ref ra) (ae "row")=some (.ref ra):=kQ;have k2:ci m (ae "row") (.ref ra) (ae "wishes")=some (.ref wa):=(jO).trans w1;have k3:ci m (ae "row") (.ref ra) (ae "sets")=some (.ref sa):=(jO).trans s1;generalize ci m (ae "row") (.ref ra)=m1 at k1 k2 k3 ⊢;refine Oo hc ht ap ah e4 (zH) hp as (zQ bs) (EN z) k1 λJ H er cA oc Y ab _ aM=>?_;have j1:=(Y (ae "row") (by decide)).trans k1;have j2:=(Y (ae "wishes") (by decide)).trans k2;have j3:=(Y (ae "sets") (by decide)).trans k3;have aj:b8 c.L ((cA,oc)::(P,bz vp)::(V,bz vv)::n0):=U.consNe λp hp=>kX (aM p (zL hp));have O:b8 c.L ((ra,listOf H.toArray er)::(cA,oc)::(P,bz vp)::(V,bz vv)::n0):=aj.consNe λp hp=>kX (HD p (zL hp));refine Om hc ht O (True.intro) rfl e4 (zT (zT (zH))) hp as (zQ bs) (EN z) j1 (zH) ab λwd cB e u aQ aD=>?_;have G:b8 c.L ((wd,listOf e.toArray u)::(ra,listOf H.toArray er)::(cA,oc)::(P,bz vp)::(V,bz vv)::n0):=O.consNe λp hp=>kX (aD p (zL hp));have sub:∀p∈n0,p∈(wd,listOf e.toArray u)::(ra,listOf H.toArray er)::(cA,oc)::(P,bz vp)::(V,bz vv)::n0:=λp hp=>zT (zT (zT (zT (zT hp))));have mV:(V,bz vv)∈(wd,listOf e.toArray u)::(ra,listOf H.toArray er)::(cA,oc)::(P,bz vp)::(V,bz vv)::n0:=zT (zT (zT (zT (zH))));have mP:(P,bz vp)∈(wd,listOf e.toArray u)::(ra,listOf H.toArray er)::(cA,oc)::(P,bz vp)::(V,bz vv)::n0:=zT (zT (zT (zH)));have mR:(ra,listOf H.toArray er)∈(wd,listOf e.toArray u)::(ra,listOf H.toArray er)::(cA,oc)::(P,bz vp)::(V,bz vv)::n0:=zT (zH);have mW:(wd,listOf e.toArray u)∈(wd,listOf e.toArray u)::(ra,listOf H.toArray er)::(cA,oc)::(P,bz vp)::(V,bz vv)::n0:=zH;generalize (wd,listOf e.toArray u)::(ra,listOf H.toArray er)::(cA,oc)::(P,bz vp)::(V,bz vv)::n0=n6 at G sub mV mP mR mW ⊢;refine Ol hc e5 mV hv rfl (zg z) λt1 t2=>?_;have z1:ci (ci (ci J (ae "wanted") (.ref wd)) (ae "most") (.int (dc (aZ bs)) t1)) (ae "size") (.int (sizeOf (aZ bs)) t2) (ae "row")=some (.ref ra):=(jO).trans ((jO).trans ((jO).trans j1));have z2:ci (ci (ci J (ae "wanted") (.ref wd)) (ae "most") (.int (dc (aZ bs)) t1)) (ae "size") (.int (sizeOf (aZ bs)) t2) (ae "wishes")=some (.ref wa):=(jO).trans ((jO).trans ((jO).trans j2));have z3:ci (ci (ci J (ae "wanted") (.ref wd)) (ae "most") (.int (dc (aZ bs)) t1)) (ae "size") (.int (sizeOf (aZ bs)) t2) (ae "sets")=some (.ref sa):=(jO).trans ((jO).trans ((jO).trans j3));have z4:ci (ci (ci J (ae "wanted") (.ref wd)) (ae "most") (.int (dc (aZ bs)) t1)) (ae "size") (.int (sizeOf (aZ bs)) t2) (ae "wanted")=some (.ref wd):=(jO).trans ((jO).trans kQ);have z5:ci (ci (ci J (ae "wanted") (.ref wd)) (ae "most") (.int (dc (aZ bs)) t1)) (ae "size") (.int (sizeOf (aZ bs)) t2) (ae "most")=some (.int (dc (aZ bs)) t1):=(jO).trans kQ;have z6:ci (ci (ci J (ae "wanted") (.ref wd)) (ae "most") (.int (dc (aZ bs)) t1)) (ae "size") (.int (sizeOf (aZ bs)) t2) (ae "size")=some (.int (sizeOf (aZ bs)) t2):=kQ;change cK c (ci (ci (ci J (ae "wanted") (.ref wd)) (ae "most") (.int (dc (aZ bs)) t1)) (ae "size") (.int (sizeOf (aZ bs)) t2)) _ _ _;generalize ci (ci (ci J (ae "wanted") (.ref wd)) (ae "most") (.int (dc (aZ bs)) t1)) (ae "size") (.int (sizeOf (aZ bs)) t2)=m3 at z1 z2 z3 z4 z5 z6 ⊢;have aa:wv.length=(bw bs).length:=w3.length;have ax:(bw bs).length≤20:=sZ;refine Ok hc G d3 (sub _ w2) (rZ (Sb aa ax) (bR true)) z2 z6 λo3' tb e3=>?_
 have hb:((wv.length:Nat):Int)+5*sizeOf (aZ bs)=dn (aZ bs):=by
  rw[aa,xE z];rfl
 rw[hb] at e3;exact KN hc ht G z h0 hw a5 ⟨(nW wa wv ew z2 (sub _ w2) w3),(ir V vv e5 mV hv),(ir P vp e4 mP hp),(nW ra H er z1 mR ab),(nW wd e u z4 mW aQ),(wL sa es z3 (sub _ s2)),λq hq=>ip (a0 q hq) sub,⟨tb,e3⟩,⟨t1,z5⟩⟩ d2 rfl True.intro
end
theorem IB:∀n:Fin 16,n.val≠0→(jD 0 n.val||jD 1 n.val||jD 2 n.val||jD 3 n.val)=true:=by decide
theorem GW(h1:1≤b)(e:b<16):gu (aZ (b::bs))≠0:=by
 have hb:=IB ⟨b.toNat,by exact ltN (eQ [b.toNat,b] 1 (.a Z0 Y1) (.k 16) 1 (.a Z1 Y1) (.k 16) 1 Z0 Z1 rfl e (iZ (cS [b] 1 Y0 Z0 1 Y1 Z0 rfl h1)))⟩ (by refine(?_:b.toNat≠0);exact λhh=>(qz (g5 [b.toNat,b] 1 Y0 (.k (-1)) 1 Z0 Y0 1 Y1 Z1 1 Z1 Z0 rfl (vX hh) h1 tq)));have hn:((b.toNat:Nat):Int)=b:=nA (cS [b.toNat,b] 1 Z0 Z1 1 Z0 Z1 rfl (iZ (cS [b] 1 Y0 Z0 1 Y1 Z0 rfl h1))) (cS [b,b.toNat] 1 Z0 Z1 1 Z0 Z1 rfl tq);dsimp only at hb;rw[hn] at hb
 have pos:∀t,jD t b=true→0<jT (b::bs) t:=λt h=>by
  unfold jT;exact gG.mpr (Bz (bY.mpr ⟨zH,h⟩))
 have nn:∀t,0≤jT (b::bs) t:=λt=>by unfold jT;exact j0
 unfold aZ;rw[AD];have n0:=nn 0;have n1:=nn 1;have n2:=nn 2;have n3:=nn 3;simp only[io] at hb
 rcases hb with ((h|h)|h)|h
 .have:=pos 0 h;exact λhh=>(qz (Jj [jT (b::bs) 0,jT (b::bs) 1,jT (b::bs) 2,jT (b::bs) 3] 1 Y0 (.k (-1)) 1 (.a (.a (.a Z0 Z1) Z2) Z3) Y0 1 (.a Y0 Y1) Z0 1 Y0 Z3 1 Y0 Z2 1 Y0 Z1 rfl (gV hh) this n3 n2 n1))
 .have:=pos 1 h;exact λhh=>(qz (Jj [jT (b::bs) 0,jT (b::bs) 1,jT (b::bs) 2,jT (b::bs) 3] 1 Y0 (.k (-1)) 1 (.a (.a (.a Z0 Z1) Z2) Z3) Y0 1 (.a Y0 Y1) Z1 1 Y0 Z3 1 Y0 Z2 1 Y0 Z0 rfl (gV hh) this n3 n2 n0))
 .have:=pos 2 h;exact λhh=>(qz (Jj [jT (b::bs) 0,jT (b::bs) 1,jT (b::bs) 2,jT (b::bs) 3] 1 Y0 (.k (-1)) 1 (.a (.a (.a Z0 Z1) Z2) Z3) Y0 1 (.a Y0 Y1) Z2 1 Y0 Z3 1 Y0 Z1 1 Y0 Z0 rfl (gV hh) this n3 n1 n0))
 .have:=pos 3 h;exact λhh=>(qz (Jj [jT (b::bs) 0,jT (b::bs) 1,jT (b::bs) 2,jT (b::bs) 3] 1 Y0 (.k (-1)) 1 (.a (.a (.a Z0 Z1) Z2) Z3) Y0 1 (.a Y0 Y1) Z3 1 Y0 Z2 1 Y0 Z1 1 Y0 Z0 rfl (gV hh) this n2 n1 n0))
theorem NB{l:List RowT}(h:l.Pairwise (λa b=>@aP Nat _ a.1 b.1)):(l.map (·.1)).Nodup:=jL.mpr (h.imp λh=>kX h)
theorem HL{c:Fm W0 lawS}{m:Lo}{o1 o2 o3 o4 o5:Obj}(hc:LawC c)(ht:oW c)(d1:o1.data=.cell none)(d2:o2.data=.cell none)(d3:o3.data=.cell none)(d4:o4.data=.cell none)(d5:o5.data=.cell none){sl:Addr}{vs:List Value}{ns:List Int}(hm:m (ae "script")=some (.ref sl))(hl:c.h₀.IsList sl vs.toArray)(hi:au vs ns)(hn:ns.length≤63):
  cK c m (bL c.L o1 o2 o3 o4 o5 #[] #[]) HM As:=by
 have B:b8 c.L []:=λ_ h=>nomatch h;rw[← im (bL c.L o1 o2 o3 o4 o5 #[] #[])];have eB:HM=[bp 0,bp 1,bp 2,bp 3,bp 4,bp 5,bp 6,bp 7,bp 8,bp 9,bp 10,bp 11,bp 12,bp 13,bp 14,bp 15,bp 16,bp 17,bp 18,bp 19,bp 20]:=rfl;rw[eB];refine Ow hc d1 hm hl hi hn B λD va bs ep o ab ar ah pV=>?_;obtain ⟨aa,ax,b0,br,eb,g0,g1⟩:=ar;have h0:gu (aZ bs)≠0:=eb▸GW g0 g1;have Y:b8 c.L ((D,listOf (bO va) ep)::[]):=B.consNe λp hp=>kX (pV p (zL hp));refine bK (H7 (Ov hc ah (zH) ab aa) ?_);intro f m1 n' u;refine b7 u λz e=>?_;clear u;subst z;refine hH e λW ys H ap aj G=>?_
 try clear e
 subst H;subst G;have k1:ci m (ae "wishes") (.ref W) (ae "wishes")=some (.ref W):=kQ;have U:b8 c.L ((W,bz ys)::[(D,listOf va.toArray ep)]):=Y.consNe λp hp=>kX (aj p (zL hp));generalize ci m (ae "wishes") (.ref W)=m2 at k1 ⊢;refine Ou hc λS Rw Wn n1 J aD as=>?_;have k2:ci m2 (ae "sets") (.ref S) (ae "wishes")=some (.ref W):=(jO).trans k1;have k3:ci m2 (ae "sets") (.ref S) (ae "sets")=some (.ref S):=kQ;generalize ci m2 (ae "sets") (.ref S)=m3 at k2 k3 ⊢
 have O:b8 c.L ((S,bz (refsOf Rw))::(Wn++(W,bz ys)::[(D,listOf va.toArray ep)])):=by
  refine b8.consNe (o1:=o) (o2:=o2) (o3:=o3) (o4:=o4) (o5:=o5) (ps:=#[]) (qs:=#[]) (λp hp=>?_) λp hp=>kX (as p (zL hp))
  rcases aC.mp hp with hp|hp
  .exact b8.consNe (o:=p.2) (o1:=o) (o2:=o2) (o3:=o3) (o4:=o4) (o5:=o5) (ps:=#[]) (qs:=#[]) B (λq hq=>kX (J.hf p hp q (zL hq))) p (zH)
  .exact U p hp
 have mN:∀p∈(W,bz ys)::[(D,listOf va.toArray ep)],p∈(S,bz (refsOf Rw))::(Wn++(W,bz ys)::[(D,listOf va.toArray ep)]):=λp hp=>zT (zR hp);have mA:∀p∈Wn,p∈(S,bz (refsOf Rw))::(Wn++(W,bz ys)::[(D,listOf va.toArray ep)]):=λp hp=>zT (zL hp);refine cL (KO (bs:=bs) (Rw:=Rw) hc ht O aa h0 J.hl (NB J.hp) ah d2 d3 d4 d5 (mN _ (zT (zH))) ab (nW W ys _ k2 (mN _ (zH)) ap) (wL S _ k3 (zH)) λq hq=>ip (J.hr q hq) mA) λp hp=>?_;rw[J.hn]
 rcases aC.mp hp with h|h
 .exact zT (zR (zL h))
 .rcases ak.mp h with h|h
  .rw[h];exact zH
  .rcases aC.mp h with h|h
   .exact zT (zL h)
   .exact zT (zR (zR h))
end
section
open W PyProof Rows
open PyProof.Rows.LCg
theorem Ct{h:Heap}{c P:Addr}(C:IZ h c P):@aP Nat instLTNat c h.objs.size:=by
 refine Qd C λo _ _ _ _ _ _ _ _ e _=>?_
 try clear C
 exact bM e
noncomputable def Q8(s₁:Shared)(tabs:List (Addr×Addr))(r:Result)(s':Shared):Prop:=
 r=.ok (.ret (.bool true))∧(∀b o,(ghostOf s₁.heap tabs).get? b=some o→s'.heap.get? b=some o)∧s'.os=s₁.os∧du s'.gens∧GrownAll tabs s'.heap
theorem BP(hT:TabsAt u s₁.heap)(hr:∀x,J.raises args x=false)(hp:J.post args (.bool true) args=true)
  (h:dH M A cd (Q8 s₁ u) s):dH M A cd (GoodWG J cl mean args s₁) s:=
 xd h λr s' ⟨hc,hk,H,O,G⟩=>by
  refine(nB (.inl ⟨_,_,[],hc,hr,.bool true,hp,unshared_nil⟩) ⟨λb o e=>?_,λb o e=>?_⟩ H O)
  .by_cases hb:b∈u.map (·.2)
   .refine fK (eg.mp hb) λq hq B=>?_
    subst B;have e2:=(hT q hq).2;refine cp (G.get q hq) λps hP=>?_;have ht:=((hT q hq).1.tab (hT q hq).2).isCodeTable;rw[e] at e2;obtain rfl:=dJ e2;exact .inr (.inl (eR ht rfl ⟨#[],ps,rfl,by rw[Array.empty_append];exact hP⟩))
   .exact .inl (hk b o (ghost_ne e hb))
  .by_cases hb:b∈u.map (·.2)
   .refine fK (eg.mp hb) λq hq z=>?_
    subst z;refine cp (G.get q hq) λps hP=>?_;exact⟨_,hP⟩
   .exact⟨o,hk b o (ghost_ne e hb)⟩
end
section
open W PyProof.Rows
theorem lawx:cF.Holds:=QY hd W0 SA (by
 k_fill
 intro s₀ s₁ mg mb G Y fa o pm cd doc dV kV ho hdd hcd hD hmg hg args vals as hpre hlay hrd hwl hlo;have KX:=km_in_of Y;have hT8:=km_tabs_of Y;have X:=(Ground.X G).1;have V:=(Ground.X G).2;refine Ground.open G ?_;intro T B D TE TW
 try (refine guard_noD D (by decide +kernel) ?_;clear D)
 have hT9:TabsAt ([(366,364),(260,256)]:List (Addr×Addr)) _:=zC ⟨⟨MA (c:=366) (P:=364) KX (by kernel_rfl),hT8 364 (by k_mem)⟩,zC ⟨⟨MA (c:=260) (P:=256) KX (by kernel_rfl),hT8 256 (by k_mem)⟩,(λ_ h=>nomatch h)⟩⟩;have he9:cd=PySem.Value.ref 366:=law_code (x:=PySem.Str.ofString "law") (c:=366) (P:=364) KX (Top.g T) (by kernel_rfl) hmg ho hdd;subst he9;clear hmg
 wrow_args hpre hlay hrd hwl hlo
 all_goals (
  first|refine callC_kw (enter_call ?_)|refine enter_call ?_
  w_top on
  refine BP hT9 (raisesW_false (by wrow_none_raised)) (postW_of (X:=true) (by wrow_shape) (by wtm_val) (by first|rfl|w_fin)) ?_
  w_call any ho hdd hcd hD T F
  clear hdd
  kn_ghosts F T
  k_drop
  skip)
 (all_goals try k_fold)
 rename qU _ _ _ _=>BW;rename Frag.In _ _=>XW;rename Top _ _ _ _ _ _=>TW;rename Fr _ _ _ _=>FW;rename ba _ _ _ _=>NW;rename au _ _=>hI;rename ¬(_<_)=>h63;rename Heap.IsList _ _ _=>lifted9
 have cd1:IZ (ghostOf s₁.heap [(366,364),(260,256)]) 366 364:=by assumption
 have h366:@aP Nat instLTNat 366 s₁.heap.objs.size:=Ct (hT9 (366,364) (zH)).1;refine B9 (cs:=lawS) (body:=HM) BW FW XW NW TW rfl (by passes_own) (λs'=>du s'.gens) (λ_ _=>AllBare.of_eq hg) As ?h ?hq uX
 case h=>
  intro c hdp hun hcl hL hccd hh0 hP
  have hC:LawC c:=⟨by rw[hcl,hL];rfl,by rw[hdp];decide +kernel,by rw[hun];decide +kernel,by rw[hL];exact h366⟩
  have hT:oW c:=⟨hccd,by rw[hh0];exact cd1,hP⟩
  have hl:=lifted9;rw[← hh0] at hl;rw[← hL];exact HL hC hT (by assumption) (by assumption) (by assumption) (by assumption) (by assumption) rfl hl hI (by omega)
 case hq=>
  intro v m' n' s' hR hos hP F' N';refine b7 hR λhv zo459=>?_
  try clear hR
  refine pU zo459 λps qs g1 g2=>?_
  try clear zo459
  cases hv
  exact(Lh rfl F'.keep hos hP (GrownAt.of N' g1) (GrownAt.of N' g2) True.intro))
end
end Mine
theorem PySem.Challenge.cw_wb0115_01_holds : PySem.Challenge.rw_wb0115_01.Holds := by
  exact Mine.lawx
