import PyProof.Rows.All
import Wide.All
import OpenK.AllK
import Wide.FinOn
import PySem.Challenge.RW_wb0115_01
set_option Elab.async false
set_option linter.all false
set_option compiler.extract_closed false
set_option genSizeOf false
set_option genInjectivity false
set_option maxRecDepth 100000
set_option maxHeartbeats 4000000
namespace Mine
open PySem.Str renaming ofString→ae
open PySem renaming wpAny_bind→af,wpAny_pure→ai,model→aq,wpAny→aA,recursionLimit→aH,wpAny_truthy_bool→aY,wpAny_loadPart'→bq,builtinLookup_eq_fast→bw,wpAny_holding→bC,wpAny_of_eq→bV,starEach→bW,foldedSetIterable→bX,wpAny_isTrue_Compare1→bY,wpAny_mono→ci,typeLookup_type→cu,sysModules→cP,cLine→cX,valueAt→c7,assignEach→dc,assign→dh,isSubtype_type→dz,codeAny→dY,wpAny_BinOp→d9,sizeLine→ec,TriplesOk→ee,codeAny_builtin→eu,wpAny_call_entry→eE,wpAny_call→eG,sizeLine_eq→eQ,behindInMarks→eR,letTemporaryGo→eX,wpAny_execs_nil→fg,backTo→fj,wpAny_execs_cons→fn,compareOp→fo,compEnvC→fq,closureFor→fC,cellsFrom→fT,swappedStores→fW,codeAny_call_builtin→fX,swapsWith→f9,standAt→gc,holding→gr,wpAny_rule→gy,typeLookup→gz,getMethod→gN,wpAny_Assign_Name→gQ,sharingNotToldKey→gR,mainGlobals→gS,intKind→gT,wpAny_standAt→gY,plainId_quiet→gZ,argsOk→g5,wpAny_eqBool_int→ib,wpAny_callSpecialIfBound?_slot→ic,wpAny_callSpecial?_slot→ie,wpAny_Expr_any→ii,typeIs_int→iE,callWith→iI,wpAny_Return_some→iP,wpAny_tryCatch→jf,wpAny_seqItems→jg,richCompare→jh,wpAny_updateSeq→jL,notedBy→jM,getAttr→jO,isInstance→jZ,intKind_is→j0,subscripted→j8,Arguments→ke,wpAny_pyIter_list→kC,pyNext→kE,execs→kG,entryFor→kH,PassesOwn→lG,swapsWithSole→lV,wpAny_letGo→mh,wpAny_typeOf→nD,codeAmong→nL,wpAny_tupleItemsOf→nY,wpAny_Constant_int→nZ,rawInt→n4,headPart→n8,cStatics→n9,wpAny_newObj_type→pN,wpAny_mkInt→pO,getItem→pP,wpAny_askSetting→qN,wpAny_Assign_two→qO,entryFor_of_tree→qP,wpAny_load→rF,wpAny_cRoomFor_byValue→rG,typeOf→rH,relabel→rJ,pyIter→rK,letOwnedTupleGo→rP,importedModules→rR,wpAny_loadName_local→sP,wpAny_field→sQ,compPost→sR,Code→sU,specialOf→tP,operate→tQ,isSubtype→tR,builtinType_eq_fast→vc,Flow→vd,wpAny_newList→vh,wpAny_Call_Name_kw→vD,preSum→vE,Thread→vF,wpAny_assign_Name→w8,table→w9,codeAny_mono→xa,callSpecial?→xb,plainObj_wpAny_Assign_Attribute→xr,wpAny_isInstance→yJ,stored→yK,opaqueClassAbove→yL,noteFrame→yM,eqBool→yN,entryFor_of_fast→yO,checkBuiltinCall→yP,wpAny_Slice→yY,interactive→yZ,Walks→y5,wpAny_specialOf→Ar,codeAny_of_tree→As,wpAny_Name→CD,defaultsOf→CE,binaryOp→CF,am_entry_dict_getattribute→CG,wpAny_attempt→Ge,eval_ListComp→Gf,comprehension→Gg,updateSeq→Gx,pushCells→Gy,codeAny_call_builtin_at→Gz,Meets→GD,richCompare_meets_room→IN,denote→IP,codeAny_compLoop_tests→IQ,BindsTo→IY,wpAny_storeName_local→Jx,wpAny_alloc→Mg,wpAny_If→Mh,wpAny_Constant_float→Mi,slot_int_lt→Mj,evalPart→Mk,compTurn→Ml,builtinType→Mm,builtinKind→Mn,again→Mo,Operator→Mv,wpAny_Constant_none→MS
open List renaming mem_cons→ak,getElem?_eq_getElem→am,getD_eq_getElem?_getD→ay,mem_singleton→az,mem_append→aC,length_map→aE,size_toArray→aL,length_append→aU,range→aV,map_append→aX,length_reverse→bg,getElem?_eq_some_iff→bz,mem_range→bE,getElem_mem→bH,toArray→bP,not_mem_nil→bT,length_filter_le→bU,mem_filter→bZ,pairwise_iff_getElem→cf,mem_of_getElem?→cq,getElem_map→cI,filter_append→cJ,take_length→cT,length_range→de,length_singleton→di,length_drop→dn,pairwise_cons→dZ,mem_map→eA,length→eK,length_take→eO,getElem?_map→eS,filter→eU,forall_mem_cons→fc,take_add_one→fu,mem_reverse→fG,filter_cons→fH,cons_append→fJ,mem_map_of_mem→fZ,map→f0,all_eq_true→gm,drop_eq_getElem_cons→gw,range_succ→gA,mem_of_mem_take→gD,mem_of_mem_drop→gE,mem_cons_of_mem→gF,pairwise_singleton→gU,length_cons→gV,nil_append→ip,append_nil→iq,mem_append_right→iA,map_map→iU,getElem?_eq_none_iff→iW,reverse_perm→jP,pairwise_map→jQ,append_assoc→jS,pairwise_reverse→ko,count→kr,map_cons→kL,getElem_reverse→kT,getElem_of_mem→lL,getElem?_range→lO,take→my,replicate→mE,getElem_range→mF,filter_congr→nF,ext_getElem→ot,drop_length→ou,take_of_length_le→pT,take_succ→qW,pairwise_append→qX,mem_append_left→qY,map_congr_left→rT,filter_eq_self→rU,take_succ_eq_append_getElem→tW,getElem?_inj→tX,map_reverse→vj,nodup_cons→wy,forIn_cons→wz,filter_map→wA,getElem?_append_right→xz,getElem?_append_left→yU,length_pos_of_mem→Bu,forall_mem_append→Bv,find?_cons_of_neg→Bw,filter_eq_nil_iff→Bx,drop_of_length_le→By,take_append_drop→CR,getElem?_eq_none→CS,eq_nil_or_concat→CT,concat_eq_append→CU,reverse_reverse→C8,count_le_length→C9,zip_eq_zipWith→Gm,replicate_succ→Gn,getElem?_take→GH,getElem?_drop→GI,nodup_range→JC,map_snd_zip→JD,count_cons→MC,drop_zero→MY
open PyProof.Rows renaming IntsAre→au,args_cons→aI,News→ba,assignInOrder_cons→be,args_nil→bK,seqObj→cG,AllBare→dB,assignInOrder_nil→fE,get?_update_seq→fF,Call_→gu,MethodCall_→iz,next_is_new→jj,callWith_method1→lK,Subscript_→oa,Attribute_any_→og,rangeSize_nat→pX,listUpdate_at→pY,bindName_→qT,Below→qU,pairsOf→rO,locs→sw,callWith_type1→sx,seqEpoch_at→sX,Assign_Tuple_swapped→sY,assign_Name→tV,isTrue_and→vJ,assign_Tuple_tuple→vL,Tuple_→vM,isTrue_plain→xm,Gen→y7,entry_list_sort→Av,slot_list_sort→Bs,callWith_type0→Bt,unpackItemsN_→Gj,keyLt'→IZ,Assign_Tuple→I3,kmb_news→Mz
open Nat renaming le_trans→aw,ne_of_lt→aB,ne_of_gt→aF,lt_succ_self→aJ,lt_of_le_of_lt→aK,le_of_lt→aN,lt_of_lt_of_le→aO,lt_trans→aP,le_refl→aS,lt_succ_of_lt→aW,add_le_add_left→bu,le_add_right→bA,lt_of_succ_le→bD,zero_le→cr,lt_of_not_le→cK,le_of_not_lt→cL,lt_irrefl→da,le_of_ble_eq_true→dC,le_succ_of_le→dO,eq_of_beq_eq_true→ev,compare_eq_eq→eF,lt_add_of_pos_right→eH,mul_assoc→eM,add_le_add_right→fh,mul_lt_mul_of_pos_right→fi,succ_le_of_lt→fy,le_of_eq→fz,le_add_left→gC,compare_eq_lt→gI,succ_le_succ→g6,zero_add→ik,succ_pos→il,beq→im,le_antisymm→iy,le_of_succ_le→iG,succ_add_eq_add_succ→jw,min_le_left→jy,sub_le→jB,blt_eq→jC,lt_trichotomy→j4,le_max_right→kJ,add_assoc→kQ,mul_le_mul_right→ll,le_sub_one_of_lt→lm,mul_comm→mq,add_comm→mu,lt_of_mul_lt_mul_right→nb,lt_of_le_of_ne→nc,le_of_lt_succ→nM,compare_eq_gt→nN,zero_lt_succ→oY,blt→pZ,min_eq_left→qq,lt_or_gt_of_ne→sZ,min_eq_right→vN,max_eq_left→xo,le_max_left→xp,lt_or_ge→CM,lt_of_succ_lt_succ→CN,le_of_succ_le_succ→CO,ble→CQ,sub_lt_sub_right→Gk,add_lt_add_right→Gl,sub_lt_sub_left→GG,not_lt→I4,lt_succ_of_le→JB,max_eq_right→MA,not_lt_zero→MX
open PySem.Heap renaming get?_push_of_some→aG,get?_push_size→a9,lt_size→bO,size_push→gq,get?_none_of_le→C6,ExtBut→C7,get?_push_ne→IX
open LT renaming lt→aR
open PyProof.Rows.LCg renaming lst→bB,SrcAt→MW
open PySem.Float64 renaming ofInt→bF,cmp→cY,cmpInt→fL,mul→fY,div→jk,ofFrac→lH,sub→mz,isInf→m7,ofInt_fits→rN,isZero→vG,decode→vH,sgn→MT,add→MU
open PySem.Value renaming ref→bG,int→eY,builtin→ji,float→jx,type→oX,bool→Gi
open Bool renaming noConfusion→bI,and_eq_true→dI,or_eq_true→gB,and_eq_true_iff→gG,false_eq_true→hU,false_ne_true→GN,eq_false_iff→I9
open PySem.Obj renaming mapSeq→bJ,data_mapFields→IW
open Int renaming toNat_natCast→bM,le_refl→b7,natCast_nonneg→ce,le_trans→cF,ofNat_le→dt,toNat_of_nonneg→dF,natCast_mul→dH,sub_nonneg_of_le→dX,lt_of_le_of_lt→eZ,le_add_of_nonneg_right→fA,zero_add→fQ,add_comm→gi,ofNat_lt→gJ,mul_right_comm→io,fdiv_eq_ediv_of_nonneg→iN,le_of_lt→iX,add_zero→iY,natCast_add→jz,lt_trans→j6,add_assoc→kU,add_le_add_right→lr,sub_eq_add_neg→ng,sub_add_cancel→nh,fmod_eq_emod_of_nonneg→ni,le_add_of_nonneg_left→nG,lt_irrefl→oh,ofNat→oZ,le_of_eq→qd,add_nonneg→yV,mul_assoc→Aw,zero_mul→CV,toNat_le→CW,ne_of_gt→CX,mul_add→Go,toNat_lt_toNat→I5,natAbs→I6,lt_of_lt_of_le→I7,lt_trichotomy→JE,compare_eq_gt→JF,toNat→MD,lt_of_not_ge→ME,le_antisymm→MZ
open Eq renaming refl→bR
open PySem.W renaming tabObj→bS,instObj→c8,findIn→fK,methodObj→gf,ktrTop→ij,kup_newTuple→iF,Looks→iQ,looks_findIn→ju,kms_pick→jI,looks_mroIn→kb,mroIn→ls,keepIn→lB,dictOf→lE,callWith_K→lF,SharedT→lW,UnrPostW→mj,kla_obj→nE,binds_K→pQ,handedIn→qQ,ItemsRest→qR,For_turns→qS,check_slot→rL,leaveK_→tS,plainGet→xd,code_def→xe,UpdF→xf,newList_K→yQ,envX→yR,looks_clsIn→y6,getL→At,opening→Br,topRead_of→CH,set_dict→CI,iter_listTurns→CJ,kms_slice_lit→Gh,clsIn→GA,kas_rev→IS,UnrEndW→IT,SubL→IU,CodeHd→IV,news_set→Mp,method_inst→Mq,kat_cons→Mr,fnOf→Ms,codeHd_of_K→Mt,callWith_K0→Mu
open Pure renaming pure→ck
open PySem.Heap.SameBut renaming update→cE
open PySem.Challenge renaming rw_wb0115_01→cH,pw_wb0115_01→jv
open Option.some renaming inj→cS
open Ordering renaming eq→dk,lt→kf,gt→pS
open PySem.Around renaming under_plainId→dm
open PySem.BindsTo renaming of_eq→dG
open PySem.Builtin.Range renaming small→dT,rangeSize→lI
open PySem.MeetsSeq3 renaming plain_eq_loop→eh,entry_eq_loop→je
open PySem.Code renaming quiet_builtin→eW,builtin→pR
open PySem.Builtin renaming bitAnd→gh
open PySem.W.InstAt renaming of_news→gj
open PySem.PyData renaming keyHash→gk,depth→sG,canLayAll0→sH,depthAll→vi,canLay0→wx
open PySem.W.Fast renaming tw4202317264376624991→iJ,tw11892475500146522536→xh,tw10156331382660048174→xj
open PySem.Manifest renaming signature?→iK,varargsMethods→xk
open PySem.Builtin.List renaming listExtendWith→kc,listUpdate→lX,listItems→mD,listSameRef→tU
open Array renaming getElem?_toList→kg,toList_reverse→kO,getD_eq_getD_getElem?→lP,toList_zip→om,toList_inj→oo,getElem_toList→qV,toList_map→ve,any→y8,length_toList→Db,getD→Gp
open PySem.W.Looks renaming ld→kI,of_pure→rS
open ForInStep renaming yield→nO
open PyProof.Rows.SortSt renaming mk'→oq
open False renaming elim→pd
open List.Pairwise renaming nil→qc
open PySem.isSame renaming created→qp
open PySem.Walks renaming list→su
open PySem.AutoFloatOps renaming typeIs_float→sV,truediv_fi_2→sW,le_0→yS,eq_0→yT
open PySem.Bind renaming madeBy→vI,checkArgs→xu,staticBase→My
open PySem.W.FnAt renaming of→xg
open PySem.Calls renaming Name_function_global→xl,call_function_entry→xt
open PyProof.Rows.LCp.CompRestP renaming succ→xn
open PySem.AutoSeq1 renaming sub_list_list→xw
open PySem.AutoIntOps renaming truediv_2→xx
open PySem.F renaming args_dict_getattribute_2→Au,slot_dict_getattribute→CK
open PyProof.Rows.LCp.SrcLP renaming ledger→CL
open Array.Perm renaming refl→CZ
open PySem.callAny renaming viaDunder→C5
open UInt64 renaming toNat_inj→Gw
open PySem.Value.ref renaming inj→GB
open Option renaming getD_some→GF
open ForIn renaming forIn→GL
open Decidable renaming em→I8
open PySem.W.Itm renaming tok→Jy
open PyProof.Rows.CellsAre renaming two→Jz,one→JA
open ToString renaming toString→Mf
open PySem.Builtin.Frozenset renaming withSetAsKey→Mw,oneOther→Mx
open PySem.Builtin.Builtins renaming bindParams→MV
open PySem
abbrev CC(env:Env)(f:PySem.Expr)(l:List PySem.Expr)(pos:Pos):Prop:=eval (.Call f l [] pos) env=(do iI pos (← eval f env) [] (fj pos (bW l env)) (backToKw pos (keywordEach [] env)))
abbrev SE(env:Env)(e:PySem.Expr)(l:List PySem.Expr):Prop:=bW (e::l) env=(false,eval e env)::bW l env
theorem zAaT(h:True:=by rfl):True:=h
def zAa:=zAaT._auto_1
theorem zAbT(h:True:=by intro _;rfl):True:=h
def zAb:=zAbT._auto_1
theorem zAcT(h:True:=by with_unfolding_all rfl):True:=h
def zAc:=zAcT._auto_1
theorem zAdT(h:True:=by decide):True:=h
def zAd:=zAdT._auto_1
theorem zAeT(h:True:=by intro _;with_unfolding_all rfl):True:=h
def zAe:=zAeT._auto_1
theorem zAfT(h:True:=by passes_own):True:=h
def zAf:=zAfT._auto_1
theorem zAgT(h:True:=by intro u;with_unfolding_all rfl):True:=h
def zAg:=zAgT._auto_1
theorem zAhT(h:True:=by intro _ _;rfl):True:=h
def zAh:=zAhT._auto_1
theorem zAiT(h:True:=by exact λ_=>dC rfl):True:=h
def zAi:=zAiT._auto_1
theorem zAjT(h:True:=by exact EF Lj (λw=>by kernel_rfl) (λw=>by kernel_rfl)):True:=h
def zAj:=zAjT._auto_1
theorem zAkT(h:True:=by exact λs e=>recFacts_of (gG.mp e).2):True:=h
def zAk:=zAkT._auto_1
theorem zAlT(h:True:=by first|assumption|decide +kernel):True:=h
def zAl:=zAlT._auto_1
theorem zAmT(h:True:=by decide +kernel):True:=h
def zAm:=zAmT._auto_1
theorem zAnT(h:True:=by exact⟨rfl,rfl,rfl,rfl,rfl,by decide +kernel⟩):True:=h
def zAn:=zAnT._auto_1
theorem zAoT(h:True:=by exact λ_=>rfl):True:=h
def zAo:=zAoT._auto_1
theorem zApT(h:True:=by exact λ_ _=>dC rfl):True:=h
def zAp:=zApT._auto_1
theorem zAqT(h:True:=by intro _ _;with_unfolding_all rfl):True:=h
def zAq:=zAqT._auto_1
theorem zArT(h:True:=by intros;rfl):True:=h
def zAr:=zArT._auto_1
theorem zT{α:Type _}{a b:α}{l:List α}(h:a∈l):a∈b::l:=gF b h
theorem zH{α:Type _}{a:α}{l:List α} : a∈a::l:=List.mem_cons_self ..
theorem zC{α:Type _}{p:α→Prop}{a:α}{l:List α}(h:p a∧∀x∈l,p x):∀x∈a::l,p x:=fc.mpr h
theorem zL{α:Type _}{a:α}{l k:List α}(h:a∈l):a∈l++k:=qY k h
theorem zR{α:Type _}{a:α}{l k:List α}(h:a∈k):a∈l++k:=iA l h
abbrev VP:=Value→Shared→Prop
abbrev FP:=vd→Shared→Prop
abbrev PE:=PySem.Expr
abbrev Sr:=PySem.Str
abbrev Lo:=PySem.Str→Option Value
abbrev Ns:=List (Addr×Obj)
section
theorem C3{a b l:Nat}(h:a+b<l):a<l:=aK (bA a b) h
theorem zE{a b k l:Nat}(h:a+b<l)(hk:CQ k b=true):a+k<l:=aK (bu (dC hk) a) h
theorem Q6{a b k j l:Nat}(h:a+b<l)(hk:CQ (k+j) b=true):a+k+j<l:=kQ a k j▸zE h hk
theorem r8{a k b:Nat}(h:a≤k)(hk:CQ k b=true):a≤b:=aw h (dC hk)
theorem uu{a k b:Nat}(h:a≤k)(hk:pZ k b=true):a<b:=aK h (dC hk)
theorem Kt{a k b:Nat}(h:a=k)(hk:CQ k b=true):a≤b:=h▸dC hk
theorem RR{a k b:Nat}(h:a=k)(hk:pZ k b=true):a<b:=h▸dC hk
theorem uH{a b:Nat}(h:a<b)(h2:b≤a):False:=da _ (aO h h2)
theorem Sh{a b c:Nat}(h:a≤b)(h2:b<c)(h3:c≤a):False:=uH h2 (aw h3 h)
theorem QD{a b:Nat}(h:a<b)(h2:a=b):False:=aB h h2
theorem MJ{a b:Int}(h:a<b)(h2:b≤a):False:=oh _ (I7 h h2)
theorem PB{a b:Int}(h:a<b)(h2:b<a):False:=oh _ (j6 h h2)
theorem PA{a b:Int}(h:a<b)(h2:a=b):False:=Int.ne_of_lt h h2
theorem C4{a b c:Nat}(e:b=c)(h:a≤c):a≤b:=e▸h
theorem RY{a b c:Nat}(e:b=c)(h:a≤b):a≤c:=e▸h
theorem pV{a b c:Nat}(e:b=c)(h:a<c):a<b:=e▸h
theorem RV{a b c:Nat}(e:b=c)(h:a<b):a<c:=e▸h
theorem Qm{a b c:Nat}(e:b=c)(h:c≤a):b≤a:=e▸h
theorem Hy{a b c:Nat}(e:b=c)(h:c<a):b<a:=e▸h
theorem Bp{m f n:Nat}(h:m+(f+1)≤n):m<n:=aO (eH (il f)) h
theorem PG{m f n:Nat}(h:m+(f+1)≤n):m+1+f≤n:=(kQ m 1 f).trans (congrArg (m + ·) (mu 1 f))▸h
theorem L2{m f n:Nat}(h:m+(f+1)=n):m<n:=Bp (fz h)
theorem O6{m f n:Nat}(h:m+(f+1)=n):m+1+f=n:=((kQ m 1 f).trans (congrArg (m + ·) (mu 1 f))).trans h
theorem Sm{m f n:Nat}(h:n≤m+1+f):n≤m+(f+1):=(kQ m 1 f).trans (congrArg (m + ·) (mu 1 f))▸h
theorem O5{m n:Nat}(h:m≤n):m+(n-m)=n:=Nat.add_sub_cancel' h
theorem Ru{m n:Nat}(h:m≤n):m+(n-m)≤n:=fz (O5 h)
theorem Pr{a b:Nat}(h:a<b+1)(e:¬a=b):a<b:=nc (nM h) e
theorem NV{i j:Nat}(h:i<j)(e:¬i=j-1):i<j-1:=nc (lm h) e
theorem JQ{i j:Nat}(h:i<j):j-1<j:=Nat.sub_one_lt_of_lt h
theorem JP{m n:Nat}(h:m<n):m-1<n:=aK (jB m 1) h
theorem RM{m n:Nat}(h0:0<m)(h:m≤n):m-1<n:=Nat.sub_one_lt_of_le h0 h
theorem PT{m:Nat}(h0:0<m):m≠m-1:=aF (Nat.sub_lt h0 Nat.one_pos)
theorem Ni{n i k:Nat}(h:n-i=k+1):i<n:=Nat.lt_of_sub_eq_succ h
theorem PR{n i k:Nat}(h:n-i=k+1):n-(i+1)=k:=(Nat.sub_succ n i).trans (h▸rfl)
theorem Q4{n i:Nat}(h:n-i=0):n≤i:=Nat.le_of_sub_eq_zero h
theorem Po{n i:Nat}(h:n-i=0)(h2:i≤n):i=n:=iy h2 (Q4 h)
theorem NO{l r:Nat}(h:l<r):l≤(l+r)/2:=(Nat.le_div_iff_mul_le Nat.two_pos).mpr (Nat.mul_two l▸bu (aN h) l)
theorem NM{l r:Nat}(h:l<r):(l+r)/2<r:=(Nat.div_lt_iff_lt_mul Nat.two_pos).mpr (Nat.mul_two r▸Gl h r)
theorem NL{l r k:Nat}(h:l<r)(h2:r≤k):(l+r)/2<k:=aO (NM h) h2
theorem Rb{l r f:Nat}(h:r-l≤f+1)(h2:l<r):r-((l+r)/2+1)≤f:=aw (Nat.sub_le_sub_left (g6 (NO h2)) r) (Nat.sub_le_of_le_add (aw (Nat.le_add_of_sub_le h) (fz (Nat.add_right_comm f 1 l))))
theorem Ra{l r f:Nat}(h:r-l≤f+1)(h2:l<r):(l+r)/2-l≤f:=nM (aO (Gk (NO h2) (NM h2)) h)
theorem R7{a b:Nat}(h:a≤b):(a:Int)≤b:=dt.mpr h
theorem K8{a b:Nat}(h:a<b):(a:Int)<b:=gJ.mpr h
theorem R8{a:Int}{b:Nat}(h:a=b):a.natAbs=b:=h▸rfl
theorem R6{a b:Nat}(h:a≤b):(a:Int).natAbs≤b:=h
theorem EO{a b c:Int}(e:b=c)(h:a≤c):a≤b:=e▸h
theorem Oq{a b c:Int}(e:b=c)(h:a≤b):a≤c:=e▸h
theorem Qp{a b c:Int}(e:b=c)(h:a<c):a<b:=e▸h
theorem Op{a b c:Int}(e:b=c)(h:b<a):c<a:=e▸h
theorem R3{a:Int}{b:Nat}(h0:0≤a)(h:a<b):a.toNat<b:=(Int.toNat_lt h0).mpr h
theorem R4{a:Int}{b:Nat}(h:a≤b):a.toNat≤b:=CW.mpr h
theorem EK{a:Int}(h:0≤a):(a.toNat:Int)=a:=dF h
theorem its{a b:Int}(h:a≤b):((b-a).toNat:Int)=b-a:=dF (dX h)
theorem R0{a b:Int}(h0:0<b)(h:a<b):a.toNat<b.toNat:=(I5 h0).mpr h
theorem Py{a b:Int}(h:0≤b):a≤a+b:=fA h
theorem Ri{a b c:Int}(h:a≤b)(h0:0≤c):a≤b+c:=cF h (Py h0)
theorem Sa{a b:Int}(h:a<b):a+1≤b:=h
theorem Qr{a b:Int}(h:a≤b):a<b+1:=Int.lt_add_one_of_le h
theorem R9{a b k:Int}(h:a≤b)(h0:0≤k):a-k≤b:=cF (Int.sub_le_self a h0) h
theorem Q3{i j k:Nat}(h1:i<j)(h2:j<k):k-1-j<k-1-i:=GG (aO h1 (lm h2)) h1
theorem RK{i k:Nat}(h:i<k):k-1-i<k:=aK (jB _ i) (JQ h)
theorem PQ{i j k:Nat}(h1:i<j)(h2:j<k+1):j-1<k:=aO (JQ h1) (nM h2)
theorem RJ{l i j:Nat}(h1:l<i)(h2:i<j):i-1<j-1:=Gk (fy (aK (cr l) h1)) h2
theorem Rc{a b x:Int}(h0:a≤x)(h:x<b):(x-a).toNat<(b-a).toNat:=(I5 (Int.sub_pos_of_lt (eZ h0 h))).mpr (Int.sub_lt_sub_right h a)
theorem Rf{a x:Int}(h0:a≤x):a+((x-a).toNat:Int)=x:=(its h0).symm▸(gi a (x-a)).trans (nh x a)
end
section
inductive LX|v (i:Nat)|k (c:Int)|a (x y:LX)|s (x y:LX)|m (c:Int) (x:LX)
namespace LX
noncomputable def den(c:List Int):LX→Int
 | .v i=>c.getD i 0
 | .k z=>z
 | .a x y=>x.den c+y.den c
 | .s x y=>x.den c-y.den c
 | .m z x=>z*x.den c
noncomputable def co(i:Nat):LX→Int
 | .v j=>cond (im i j) 1 0
 | .k _=>0
 | .a x y=>x.co i+y.co i
 | .s x y=>x.co i-y.co i
 | .m z x=>z*x.co i
noncomputable def cs:LX→Int
 | .v _=>0
 | .k z=>z
 | .a x y=>x.cs+y.cs
 | .s x y=>x.cs-y.cs
 | .m z x=>z*x.cs
end LX
noncomputable def sm(f:Nat→Int):Nat→List Int→Int
 | _,[]=>0
 | j,x::r=>f j*x+sm f (j+1) r
theorem JS{f:Nat→Int}:∀{c:List Int}{j:Nat},(∀i,j≤i→f i=0)→sm f j c=0
 | [],_,_=>rfl
 | x::r,j,h=>by
  refine(?_:f j*x+sm f (j+1) r=0);rw[h j (aS _),JS λi hi=>h i (iG hi),CV];rfl
theorem O2{a b:Nat}(h:a≠b):im a b=false:=by cases e:im a b with|false=>rfl|true=>exact absurd (ev e) h
theorem Nj{j:Nat}:∀{c:List Int}{i:Nat},sm (λt=>cond (im t (i+j)) 1 0) i c=c.getD j 0
 | [],_=>rfl
 | x::r,i=>by
  cases j with
  | zero=>
   refine(?_:cond (im i i) 1 0*x+sm (λt=>cond (im t i) 1 0) (i+1) r=x);rw[Nat.beq_refl i,JS λt ht=>by rw[O2 (aF ht)];rfl];exact(iY _).trans (Int.one_mul x)
  | succ j=>
   refine(?_:cond (im i (i+(j+1))) 1 0*x+sm (λt=>cond (im t (i+(j+1))) 1 0) (i+1) r=r.getD j 0);rw[O2 (aB (eH (il j))),show i+(j+1)=i+1+j from (Nat.succ_add i j).symm,Nj (c:=r) (i:=i+1)];exact(congrArg (· + _) (CV x)).trans (fQ _)
theorem QQ{a b c d:Int} : a+b+(c+d)=a+c+(b+d):=by rw[kU,Int.add_left_comm b,← kU]
theorem Rt{a b c d:Int} : a+b-(c+d)=a-c+(b-d):=by rw[ng,Int.neg_add,QQ,ng,ng]
theorem No{f g:Nat→Int}:∀{c:List Int}{j:Nat},sm (λi=>f i+g i) j c=sm f j c+sm g j c
 | [],_=>rfl
 | x::r,j=>by
  refine(?_:(f j+g j)*x+sm (λi=>f i+g i) (j+1) r=f j*x+sm f (j+1) r+(g j*x+sm g (j+1) r));rw[No,Int.add_mul,QQ]
theorem Nk{f g:Nat→Int}:∀{c:List Int}{j:Nat},sm (λi=>f i-g i) j c=sm f j c-sm g j c
 | [],_=>rfl
 | x::r,j=>by
  refine(?_:(f j-g j)*x+sm (λi=>f i-g i) (j+1) r=f j*x+sm f (j+1) r-(g j*x+sm g (j+1) r));rw[Nk,Int.sub_mul,Rt]
theorem Nm{z:Int}{f:Nat→Int}:∀{c:List Int}{j:Nat},sm (λi=>z*f i) j c=z*sm f j c
 | [],_=>(Int.mul_zero z).symm
 | x::r,j=>by
  refine(?_:z*f j*x+sm (λi=>z*f i) (j+1) r=z*(f j*x+sm f (j+1) r));rw[Nm,Go,Aw]
theorem qI{c:List Int}:∀e:LX,e.den c=e.cs+sm (λi=>e.co i) 0 c
 | .v i=>by
  have h:=@Nj i c 0;rw[ik] at h;exact h.symm.trans (fQ _).symm
 | .k z=>by
  refine(?_:z=z+sm (λ_=>0) 0 c);rw[JS λ_ _=>rfl,iY]
 | .a x y=>by
  refine(?_:x.den c+y.den c=x.cs+y.cs+sm (λi=>x.co i+y.co i) 0 c);rw[qI x,qI y,No,QQ]
 | .s x y=>by
  refine(?_:x.den c-y.den c=x.cs-y.cs+sm (λi=>x.co i-y.co i) 0 c);rw[qI x,qI y,Nk,Rt]
 | .m z x=>by
  refine(?_:z*x.den c=z*x.cs+sm (λi=>z*x.co i) 0 c);rw[qI x,Nm,Go]
noncomputable def same(e f:LX):Nat→Nat→Bool
 | _,0=>true
 | j,n+1=>(e.co j==f.co j)&&same e f (j+1) n
theorem AJ{e f:LX}:∀{c:List Int}{j:Nat},same e f j c.length=true→sm (λi=>e.co i) j c=sm (λi=>f.co i) j c
 | [],_,_=>rfl
 | x::r,j,h=>by
  obtain ⟨h1,h2⟩:=gG.mp h;refine(?_:e.co j*x+sm (λi=>e.co i) (j+1) r=f.co j*x+sm (λi=>f.co i) (j+1) r);rw[AJ h2,eq_of_beq h1]
noncomputable def ok(c:List Int)(d:Nat)(l r f:LX):Bool:=same (.m d (.s r l)) f 0 c.length&&decide (f.cs-d<d*(r.cs-l.cs))&&pZ 0 d
theorem la{c:List Int}{d:Nat}{l r f:LX}(h:ok c d l r f=true)(hf:0≤f.den c):l.den c≤r.den c:=by
 obtain ⟨h1,h3⟩:=gG.mp h;obtain ⟨h1,h2⟩:=gG.mp h1;have h2:=of_decide_eq_true h2;have h3:0<d:=dC h3;have e1:=qI (c:=c) (.m d (.s r l));rw[AJ h1] at e1;rw[qI] at hf;have e2:(LX.m (d:Int) (.s r l)).den c=d*(r.den c-l.den c):=rfl;have e3:(LX.m (d:Int) (.s r l)).cs=d*(r.cs-l.cs):=rfl;rw[e2,e3] at e1;have h4:f.cs-d+sm (λi=>f.co i) 0 c<d*(r.den c-l.den c):=e1▸Int.add_lt_add_right h2 _;have h4 : -(d:Int)<d*(r.den c-l.den c):=eZ (by rw[ng,Int.add_right_comm];exact nG hf) h4;have h5 : -1<r.den c-l.den c:=Int.lt_of_mul_lt_mul_left (a:=(d:Int)) (by rw[Int.mul_neg_one];exact h4) (ce d);exact Int.le_of_sub_nonneg h5
theorem kP(c:List Int)(l r:LX)(h:ok c 1 l r (.k 0)=true):l.den c≤r.den c:=la h (b7 0)
theorem nn{c:List Int}{z:Nat}{l r:LX}(h:l.den c≤r.den c):0≤(LX.m z (.s r l)).den c:=Int.mul_nonneg (ce z) (dX h)
theorem na{c:List Int}{e f:LX}(h:0≤e.den c)(h2:0≤f.den c):0≤(LX.a e f).den c:=yV h h2
theorem cW(c:List Int)(d:Nat)(l r:LX)(z1:Nat)(e r1:LX)(h:ok c d l r (.m z1 (.s r1 e))=true)(h1:e.den c≤r1.den c):l.den c≤r.den c:=la h (nn h1)
theorem eV(c:List Int)(d:Nat)(l r:LX)(z1:Nat)(e r1:LX)(z2:Nat)(l2 r2:LX)(h:ok c d l r (.a (.m z1 (.s r1 e)) (.m z2 (.s r2 l2)))=true)(h1:e.den c≤r1.den c)(h2:l2.den c≤r2.den c):l.den c≤r.den c:=la h (na (nn h1) (nn h2))
theorem ia(c:List Int)(d:Nat)(l r:LX)(z1:Nat)(z r1:LX)(z2:Nat)(l2 r2:LX)(z3:Nat)(u e:LX)(h:ok c d l r (.a (.m z1 (.s r1 z)) (.a (.m z2 (.s r2 l2)) (.m z3 (.s e u))))=true)(h1:z.den c≤r1.den c)(h2:l2.den c≤r2.den c)(h3:u.den c≤e.den c):l.den c≤r.den c:=la h (na (nn h1) (na (nn h2) (nn h3)))
theorem yW(c:List Int)(d:Nat)(l r:LX)(z1:Nat)(G r1:LX)(z2:Nat)(l2 r2:LX)(z3:Nat)(B u:LX)(z4:Nat)(z e:LX)(h:ok c d l r (.a (.m z1 (.s r1 G)) (.a (.m z2 (.s r2 l2)) (.a (.m z3 (.s u B)) (.m z4 (.s e z)))))=true)(h1:G.den c≤r1.den c)(h2:l2.den c≤r2.den c)(h3:B.den c≤u.den c)(h4:z.den c≤e.den c):l.den c≤r.den c:=la h (na (nn h1) (na (nn h2) (na (nn h3) (nn h4))))
theorem Jf(c:List Int)(d:Nat)(l r:LX)(z1:Nat)(J r1:LX)(z2:Nat)(l2 r2:LX)(z3:Nat)(H z:LX)(z4:Nat)(G u:LX)(z5:Nat)(B e:LX)(h:ok c d l r (.a (.m z1 (.s r1 J)) (.a (.m z2 (.s r2 l2)) (.a (.m z3 (.s z H)) (.a (.m z4 (.s u G)) (.m z5 (.s e B))))))=true)(h1:J.den c≤r1.den c)(h2:l2.den c≤r2.den c)(h3:H.den c≤z.den c)(h4:G.den c≤u.den c)(h5:B.den c≤e.den c):l.den c≤r.den c:=la h (na (nn h1) (na (nn h2) (na (nn h3) (na (nn h4) (nn h5)))))
theorem nU{a b:Nat}(h:(a:Int)≤b):a≤b:=dt.mp h
theorem ef{a b:Nat}(h:a≤b):(a:Int)≤b:=dt.mpr h
theorem qz(h:(0:Int)≤-1):False:=absurd h (by decide)
theorem vX{a b:Nat}(h:a=b):(a:Int)≤b:=h▸b7 _
theorem l9{a b:Nat}(h:a=b):(b:Int)≤a:=h▸b7 _
theorem iu{a b:Int}(h:a=b):b≤a:=h▸b7 _
theorem ltN{a b:Nat}(h:(a:Int)+1≤b):a<b:=dt.mp h
theorem jb{t:Int}(h:0≤t):(t.toNat:Int)≤t:=qd (dF h)
theorem C1{a b:Nat} : (a:Int)≤((a-b:Nat):Int)+b:=by omega
theorem PU{a b:Nat} : ((a-b:Nat):Int)≤a:=dt.mpr (jB a b)
theorem xK{a b:Nat}(h:(b:Int)≤a):((a-b:Nat):Int)+b≤a:=dt.mpr (fz (Nat.sub_add_cancel (dt.mp h)))
theorem Rk{a:Nat} : 2*((a/2:Nat):Int)≤a:=dt.mpr (Nat.mul_div_le a 2)
theorem Si{a:Nat} : (a:Int)≤2*((a/2:Nat):Int)+1:=by omega
theorem PC{a:Int} : 2*(a/2)≤a:=by omega
theorem ON{a:Int} : a≤2*(a/2)+1:=by omega
theorem Sj{a:Int} : a≤2*a.fdiv 2+1:=by rw[iN _ (by decide)];omega
theorem Kx{a b:Nat} : ((min a b:Nat):Int)≤a:=dt.mpr (jy a b)
theorem Q8{a b:Nat} : ((min a b:Nat):Int)≤b:=dt.mpr (Nat.min_le_right a b)
theorem Q7{a b:Nat}(h:(a:Int)≤b):(a:Int)≤((min a b:Nat):Int):=dt.mpr (Nat.le_min.mpr ⟨aS a,dt.mp h⟩)
theorem L3{t:Int}{n:Nat}(h0:0≤t)(h:t+1≤n):t.natAbs<n:=by omega
theorem Rv{t:Int}{n:Nat}(h0:0≤t)(h:t≤n):t.natAbs≤n:=by omega
noncomputable def Z0:LX:=.v 0
noncomputable def Z1:LX:=.v 1
noncomputable def Z2:LX:=.v 2
noncomputable def Z3:LX:=.v 3
noncomputable def Z4:LX:=.v 4
noncomputable def Z5:LX:=.v 5
noncomputable def Z6:LX:=.v 6
noncomputable def Z7:LX:=.v 7
noncomputable def Z8:LX:=.v 8
noncomputable def Z9:LX:=.v 9
noncomputable def Y0:LX:=.k 0
noncomputable def Y1:LX:=.k 1
theorem tq{t:Int} : t≤t.toNat:=Int.self_le_toNat t
theorem gX{a b:Int}(h:a=b):a≤b:=qd h
theorem vm{a b:Nat}(h:(a:Int)≤b)(h2:(b:Int)≤a):a=b:=iy (nU h) (nU h2)
theorem ny{a b:Int}(h:a≤b)(h2:b≤a):a=b:=MZ h h2
theorem RX{a b:Nat}(h:¬a≤b):(b:Int)+1≤a:=ef (cK h)
theorem RW{a b:Nat}(h:¬a<b):(b:Int)≤a:=ef (cL h)
theorem Ps{a b:Int}(h:¬a<b):b≤a:=Int.le_of_not_gt h
theorem j7{a:Nat} : (0:Int)≤a:=ce a
end
section
open W PyProof.Rows
noncomputable def Kq:List Str:=["_bisect","bisect_left","bisect_left_bisect","bisect_right","bisect_right_bisect","_heapq","heapify","heapreplace"]
noncomputable def Kp:List Str:=["_wall","k","__name__","cpy313.difflib","_tuplegetter","__init__","self","index"]
noncomputable def Ko:List Str:=["doc","__doc__","__get__","obj","objtype","issubclass","type","tuple"]
noncomputable def Kn:List Str:=["__getitem__","__set__","value","AttributeError","can't set attribute","__delete__","can't delete attribute","Match"]
noncomputable def Km:List Str:=["Match(a, b, size)","__slots__","_fields","a","b","size","_field_defaults","__new__"]
noncomputable def Kl:List Str:=["_cls","_make","cls","iterable","result","len","TypeError"]
noncomputable def Kk:List Str:=["Expected 3 arguments, got ","classmethod","_replace","kwds","__class__","__len__","pop","map"]
noncomputable def Kj:List Str:=["Got unexpected field names: ","list","__replace__","__repr__","(a=%r, b=%r, size=%r)","_asdict","__getnewargs__","__match_args__"]
noncomputable def Ki:List Str:=["Alias for field number 0","Alias for field number 1","Alias for field number 2","_calculate_ratio","matches","length","SequenceMatcher","isjunk"]
noncomputable def Kh:List Str:=["autojunk","set_seqs","set_seq1","set_seq2","matching_blocks","opcodes","fullbcount","_SequenceMatcher__chain_b"]
noncomputable def Eh:List Str:=["__chain_b","b2j","i","elt","enumerate","indices","setdefault","append"]
noncomputable def Eg:List Str:=["bjunk","junk","set","keys","add","bpopular","popular","n"]
noncomputable def Ef:List Str:=["ntest","idxs","items","find_longest_match","alo","ahi","blo","bhi"]
noncomputable def Ee:List Str:=["isbjunk","__contains__","besti","bestj","bestsize","j2len","nothing","range"]
noncomputable def Ed:List Str:=["j2lenget","get","newj2len","j","get_matching_blocks","la","lb","queue"]
noncomputable def Ec:List Str:=["x","sort","i1","nmJ1","k1","non_adjacent","i2","nmJ2"]
noncomputable def Eb:List Str:=["k2","get_opcodes","get_grouped_opcodes","ratio","sum","triple",".0","quick_ratio"]
noncomputable def Ea:List Str:=["avail","availhas","numb","real_quick_ratio","min","heapq","nlargest","key"]
noncomputable def D9:List Str:=["it","iter","sentinel","object","max","default","sorted","reverse"]
noncomputable def D8:List Str:=["elem","zip","top","order","_heapreplace","_order","_elem","fast"]
noncomputable def D7:List Str:=["get_close_matches","word","possibilities","cutoff","ValueError","n must be > 0: ","cutoff must be in [0.0, 1.0]: ","s"]
noncomputable def D6:List Str:=["score","cpy313.statistics","StatisticsError","median_grouped","data","interval","no median for empty data","lo"]
noncomputable def D5:List Str:=["float","Value cannot be converted to a float","L","cf","f","cpy313.bisect","hi","lo must be non-negative"]
noncomputable def D1:List Str:=["mid","bisect_right_bisect2","insort_left","bisect_left_bisect2","insert","law_wb0115_01","_law_ballots","script"]
noncomputable def DZ:List Str:=["cells","place","number","cell","_law_wishes","ballots","thing","voter"]
noncomputable def DY:List Str:=["_law_closest","votes","most","choice","things","held","_law_differences","law"]
noncomputable def DX:List Str:=["wishes","sets","ballot","points","row","wanted","both","rows"]
noncomputable def DW:List Str:=["near","low","high","due","lacking","fewer","off","isinstance"]
noncomputable def DV:List Str:=["back","vote","/claim/cut.py"]
noncomputable def PP:List (List Str):=[Kq,Kp,Ko,Kn,Km,Kl,Kk,Kj,Ki,Kh,Eh,Eg,Ef,Ee,Ed,Ec,Eb,Ea,D9,D8,D7,D6,D5,D1,DZ,DY,DX,DW,DV]
noncomputable def aT(n:Nat):Str:=(PP.getD (n/8) []).getD (n % 8) Str.empty
noncomputable def RP:(Nat→Str)→(String→Str)→Program:=by
 refine(?f:(g:(Nat→Str)→(String→Str)→Program)→(g aT ae=jv)→(Nat→Str)→(String→Str)→Program) ?g ?h
 case f=>exact λg _=>g
 case h=>
  have h0:Kq=[aT 0,aT 1,aT 2,aT 3,aT 4,aT 5,aT 6,aT 7]:=rfl;have h1:Kp=[aT 8,aT 9,aT 10,aT 11,aT 12,aT 13,aT 14,aT 15]:=rfl;have h2:Ko=[aT 16,aT 17,aT 18,aT 19,aT 20,aT 21,aT 22,aT 23]:=rfl;have h3:Kn=[aT 24,aT 25,aT 26,aT 27,aT 28,aT 29,aT 30,aT 31]:=rfl;have h4:Km=[aT 32,aT 33,aT 34,aT 35,aT 36,aT 37,aT 38,aT 39]:=rfl;have h5:Kl=[aT 40,aT 41,aT 42,aT 43,aT 44,aT 45,aT 46]:=rfl;have h6:Kk=[aT 48,aT 49,aT 50,aT 51,aT 52,aT 53,aT 54,aT 55]:=rfl;have h7:Kj=[aT 56,aT 57,aT 58,aT 59,aT 60,aT 61,aT 62,aT 63]:=rfl;have h8:Ki=[aT 64,aT 65,aT 66,aT 67,aT 68,aT 69,aT 70,aT 71]:=rfl;have h9:Kh=[aT 72,aT 73,aT 74,aT 75,aT 76,aT 77,aT 78,aT 79]:=rfl;have h10:Eh=[aT 80,aT 81,aT 82,aT 83,aT 84,aT 85,aT 86,aT 87]:=rfl;have h11:Eg=[aT 88,aT 89,aT 90,aT 91,aT 92,aT 93,aT 94,aT 95]:=rfl;have h12:Ef=[aT 96,aT 97,aT 98,aT 99,aT 100,aT 101,aT 102,aT 103]:=rfl;have h13:Ee=[aT 104,aT 105,aT 106,aT 107,aT 108,aT 109,aT 110,aT 111]:=rfl;have h14:Ed=[aT 112,aT 113,aT 114,aT 115,aT 116,aT 117,aT 118,aT 119]:=rfl;have h15:Ec=[aT 120,aT 121,aT 122,aT 123,aT 124,aT 125,aT 126,aT 127]:=rfl;have h16:Eb=[aT 128,aT 129,aT 130,aT 131,aT 132,aT 133,aT 134,aT 135]:=rfl;have h17:Ea=[aT 136,aT 137,aT 138,aT 139,aT 140,aT 141,aT 142,aT 143]:=rfl;have h18:D9=[aT 144,aT 145,aT 146,aT 147,aT 148,aT 149,aT 150,aT 151]:=rfl;have h19:D8=[aT 152,aT 153,aT 154,aT 155,aT 156,aT 157,aT 158,aT 159]:=rfl;have h20:D7=[aT 160,aT 161,aT 162,aT 163,aT 164,aT 165,aT 166,aT 167]:=rfl;have h21:D6=[aT 168,aT 169,aT 170,aT 171,aT 172,aT 173,aT 174,aT 175]:=rfl;have h22:D5=[aT 176,aT 177,aT 178,aT 179,aT 180,aT 181,aT 182,aT 183]:=rfl;have h23:D1=[aT 184,aT 185,aT 186,aT 187,aT 188,aT 189,aT 190,aT 191]:=rfl;have h24:DZ=[aT 192,aT 193,aT 194,aT 195,aT 196,aT 197,aT 198,aT 199]:=rfl;have h25:DY=[aT 200,aT 201,aT 202,aT 203,aT 204,aT 205,aT 206,aT 207]:=rfl;have h26:DX=[aT 208,aT 209,aT 210,aT 211,aT 212,aT 213,aT 214,aT 215]:=rfl;have h27:DW=[aT 216,aT 217,aT 218,aT 219,aT 220,aT 221,aT 222,aT 223]:=rfl;have h28:DV=[aT 224,aT 225,aT 226]:=rfl;simp only[Kq,Kp,Ko,Kn,Km,Kl,Kk,Kj,Ki,Kh,Eh,Eg,Ef,Ee,Ed,Ec,Eb,Ea,D9,D8,D7,D6,D5,D1,DZ,DY,DX,DW,DV,List.cons.injEq,and_true] at h0 h1 h2 h3 h4 h5 h6 h7 h8 h9 h10 h11 h12 h13 h14 h15 h16 h17 h18 h19 h20 h21 h22 h23 h24 h25 h26 h27 h28
  delta jv
  simp only[h0,h1,h2,h3,h4,h5,h6,h7,h8,h9,h10,h11,h12,h13,h14,h15,h16,h17,h18,h19,h20,h21,h22,h23,h24,h25,h26,h27,h28];clear h0 h1 h2 h3 h4 h5 h6 h7 h8 h9 h10 h11 h12 h13 h14 h15 h16 h17 h18 h19 h20 h21 h22 h23 h24 h25 h26 h27 h28;generalize aT=f;generalize ae=F;exact rfl
noncomputable def Gq:Program:=RP aT ae
theorem DJ:Gq=jv:=by with_unfolding_all rfl
noncomputable def PV:OpenLaw:={prog:=Gq,name:=ae "law",about:=[ae "get_close_matches"],foot:=5,most:=some 63,bound:=none,writes:=false}
theorem JW:PV=cH:=by
 unfold PV;rw[DJ];rfl
theorem RG:PV.wellSaid=true:=by kernel_rfl
theorem ws:cH.wellSaid=true:=JW▸RG
noncomputable def FY{α:Type}(as:Array α)(p:α→Bool)(start stop:Nat):Bool:=
 match im start 0&&im stop as.size with
 | true=>as.toList.any p
 | false=>y8 as p start stop
theorem LZ:@y8.{0} = @FY:=by
 funext α e p a b
 unfold FY
 split
 .rename_i h
  obtain ⟨h1,h2⟩:=gG.mp h;have e1:=ev h1;have e2:=ev h2;subst e1;subst e2;exact(Array.any_toList ..).symm
 .rfl
noncomputable def En(any:{α:Type}→Array α→(α→Bool)→Nat→Nat→Bool):Builtin:=by
 refine(?f:(g:Builtin)→((@y8.{0} = @any)→iJ=g)→Builtin) ?g ?h
 case f=>exact λg _=>g
 case h=>
  intro e
  delta iJ
  rw[e]
theorem Em:En @y8.{0} = iJ:=by kernel_rfl
theorem Hq:iJ=En @FY:=Em.symm.trans (congrArg (λf:{α:Type}→Array α→(α→Bool)→Nat→Nat→Bool=>En @f) LZ)
noncomputable def JU(d:Str):Stmt→Stmt
 | .ClassDef n bs ks (.Expr (.Constant (.str _) k p) q::rest) ds tp sc a b c e=>.ClassDef n bs ks (.Expr (.Constant (.str d) k p) q::rest) ds tp sc a b c e
 | s=>s
noncomputable def OK:Option Stmt→Str
 | some (.ClassDef _ _ _ (.Expr (.Constant (.str d) _ _) _::_) ..)=>d
 | _=>Str.empty
noncomputable def Q5(d:Str):Program:={Gq with main:={Gq.main with body:=Gq.main.body.modify 7 (JU d)} }
noncomputable def Ip:Str:=OK Gq.main.body[7]?
theorem DK:Q5 Ip=Gq:=by kernel_rfl
noncomputable def OJ:{s:String // Ip=ae s}:=⟨_,by with_unfolding_all rfl⟩
noncomputable def OL:{cs:List Char // OJ.1=String.ofList cs}:=⟨_,by with_unfolding_all rfl⟩
noncomputable def Lz:Str:=⟨⟨OL.1.map Char.toNat⟩⟩
theorem Cm:Ip=Lz:=by rw[OJ.2,OL.2];exact Fast.ofString_ofList _
section
variable {tb:String→Option Builtin}{p:Program}{w:World}
noncomputable def EN(stp:lW→vF→Option (lW×vF)):Nat→lW→vF→Option lW
 | 0,_,_=>none
 | n+1,s,t=>match t.atExitBegin with
  | some []=>some s
  | some (_::_)=>none
  | none=>match stp s t with
   | some (s',t')=>EN stp n s' t'
   | none=>none
theorem A4:∀{n:Nat}{s s':lW}{t:vF},EN (stepT (IP tb) p w) n s t=some s'→importEnds tb p w n s.abs t=some s'.abs
 | 0,_,_,_,h=>by cases h
 | n+1,s,s',t,h=>by
  unfold EN at h;unfold importEnds
  cases he:t.atExitBegin with
  | some x=>
   rw[he] at h
   cases x with
   | nil=>cases h;rfl
   | cons _ _=>cases h
  | none=>
   rw[he] at h
   cases hs:stepT (IP tb) p w s t with
   | none=>rw[hs] at h;cases h
   | some r=>obtain ⟨s₂,e⟩:=r;rw[hs] at h;dsimp only;rw[stepT_spec hs];exact A4 h
noncomputable def Do(stp:lW→vF→Option (lW×vF))(ok:vF→Bool):Nat→lW→vF→Option lW
 | 0,_,_=>none
 | n+1,s,t=>match through t with
  | true=>some s
  | false=>match ok t with
   | false=>none
   | true=>match stp s t with
    | some (s',t')=>Do stp ok n s' t'
    | none=>none
theorem AG{e:Nat}{u:Option Value}:∀{n:Nat}{s s':lW}{t:vF},Do (stepT (IP tb) p w) (stepOk e u) n s t=some s'→topRun tb p w e u n s.abs t=some s'.abs
 | 0,_,_,_,h=>by cases h
 | n+1,s,s',t,h=>by
  unfold Do at h;unfold topRun
  cases he:through t with
  | true=>rw[he] at h;cases h;rfl
  | false=>
   rw[he] at h
   cases hk:stepOk e u t with
   | false=>rw[hk] at h;cases h
   | true=>
    rw[hk] at h
    cases hs:stepT (IP tb) p w s t with
    | none=>rw[hs] at h;cases h
    | some r=>obtain ⟨s₂,z⟩:=r;rw[hs] at h;dsimp only;rw[stepT_spec hs];exact AG h
end
noncomputable def fill:List Obj→Nat→BT→Option BT
 | [],_,T=>some T
 | o::r,n,T=>match ((T.ins n o).get n).isSome with
  | true=>fill r (n+1) (T.ins n o)
  | false=>none
theorem A8{life:Life}:∀{l:List Obj}{n:Nat}{T T':BT},fill l n T=some T'→absHeap T' (n+l.length) life=⟨(T.list n++l).toArray,life⟩
 | [],n,T,T',h=>by cases h;simp [absHeap]
 | o::r,n,T,T',h=>by
  unfold fill at h
  cases g:((T.ins n o).get n).isSome with
  | false=>rw[g] at h;cases h
  | true=>
   rw[g] at h;have e:=A8 (life:=life) h;rw[gV,show n+(r.length+1)=n+1+r.length by exact vm (kP [n,r.length] (.a Z0 (.a Z1 Y1)) (.a (.a Z0 Y1) Z1) rfl) (kP [n,r.length] (.a (.a Z0 Y1) Z1) (.a Z0 (.a Z1 Y1)) rfl),e];have q:=absHeap_ins (life:=life) g;unfold absHeap Heap.push at q;have z:((T.ins n o).list (n+1)).toArray=(T.list n).toArray.push o:=congrArg Heap.objs q
   have u:(T.ins n o).list (n+1)=T.list n++[o]:=by
    have:=congrArg Array.toList z;simpa using this
   rw[u,jS];rfl
noncomputable def startT(p:Program):lW:=⟨.nil,0,{},#[],{},1,(start p).1.os⟩
theorem zk(p:Program):(startT p).abs=(start p).1:=rfl
noncomputable def IA{α:Type}(tb:String→Option Builtin)(p:Program)(w:World)(N:Nat)(f:Shared→α):Option α:=
 match EN (stepT (IP tb) (Br p) w) N (startT (Br p)) (start (Br p)).2 with
 | none=>none
 | some s1=>match fenceModules? p s1.abs with
  | none=>none
  | some s0=>match s0.heap.isNs gS&&s0.gens.size==0 with
   | false=>none
   | true=>match fill s0.heap.objs.toList 0 .nil with
    | none=>none
    | some T=>match Do (stepT (IP tb) p w) (stepOk s0.heap.objs.size (s0.heap.nsMap gS "__annotations__")) N ⟨T,s0.heap.objs.toList.length,s0.heap.life,s0.gens,s0.drawn,s0.toks,s0.os⟩ (topStub p) with
     | none=>none
     | some s'=>match staticsOk (rR p.main.body) s0.heap s'.abs.heap&&namesBound p s'.abs.heap&&gensDone s'.abs&&laidKept s0.heap s'.abs.heap with
      | true=>some (f s'.abs)
      | false=>none
theorem Iz{α:Type}{tb:String→Option Builtin}{p:Program}{w:World}{N:Nat}{f:Shared→α}{r:α}(h:IA tb p w N f=some r):(openEnds tb p w N).map f=some r:=by
 unfold IA at h;unfold openEnds fencedOpening
 split at h
 .cases h
 rename_i s1 h1;have e1:=A4 h1;rw[zk] at e1;rw[e1]
 split at h
 .cases h
 rename_i u h2;show ((fenceModules? p s1.abs).bind (topFrom tb p w N)).map f=some r;rw[h2];show (topFrom tb p w N u).map f=some r
 split at h
 .cases h
 rename_i h3
 split at h
 .cases h
 rename_i T h4
 split at h
 .cases h
 rename_i s' h5;have e5:=AG h5;have e4:=A8 (life:=u.heap.life) h4
 split at h
 .rename_i h6
  unfold topFrom;rw[h3];dsimp only
  have e:(⟨T,u.heap.objs.toList.length,u.heap.life,u.gens,u.drawn,u.toks,u.os⟩:lW).abs=u:=by
   obtain ⟨⟨objs,life⟩,g,d,k,o⟩:=u;rw[ik] at e4;show Shared.mk (absHeap T objs.toList.length life) g d k o=_;rw[e4];rfl
  rw[e] at e5;rw[e5];show Option.map f (match staticsOk (rR p.main.body) u.heap s'.abs.heap&&namesBound p s'.abs.heap&&gensDone s'.abs&&laidKept u.heap s'.abs.heap with|true=>some s'.abs|false=>none)=_;rw[h6];exact h
 .cases h
noncomputable def tb(id:String):Option Builtin:=match im (PySem.code id) 29827186395103491166823348853 with
 | true=>some (En @FY)
 | false=>Fast.tw14364793385576792824 id
theorem Nh:treeTable=tb:=by
 funext id
 unfold tb
 cases h:im (PySem.code id) 29827186395103491166823348853 with
 | false=>rw[Fast.te14364793385576792824]
 | true=>
  have e:id = "type.__new__":=code_inj _ _ ((ev h).trans (by kernel_rfl));subst e;show treeTable "type.__new__"=some (En @FY);rw[← Hq,← Fast.te4202317264376624991]
  kernel_rfl
noncomputable def LR{α:Type}(p:Program)(w:World)(N:Nat)(f:Shared→α):Option α:=
 match EN (xj (xh tb) (Br p) w) N (startT (Br p)) (Fast.tw1435165496053646825 (Br p)).2 with
 | none=>none
 | some s1=>match Fast.tw14289696077712309145 p s1.abs with
  | none=>none
  | some s0=>match s0.heap.isNs gS&&s0.gens.size==0 with
   | false=>none
   | true=>match fill s0.heap.objs.toList 0 .nil with
    | none=>none
    | some T=>match Do (xj (xh tb) p w) (Fast.tw6613529449190102663 s0.heap.objs.size (s0.heap.nsMap gS "__annotations__")) N ⟨T,s0.heap.objs.toList.length,s0.heap.life,s0.gens,s0.drawn,s0.toks,s0.os⟩ (topStub p) with
     | none=>none
     | some s'=>match staticsOk (rR p.main.body) s0.heap s'.abs.heap&&namesBound p s'.abs.heap&&gensDone s'.abs&&laidKept s0.heap s'.abs.heap with
      | true=>some (f s'.abs)
      | false=>none
theorem Iy{α:Type}(p:Program)(w:World)(N:Nat)(f:Shared→α):IA treeTable p w N f=LR p w N f:=by
 unfold IA LR;rw[Nh,Fast.te10156331382660048174,Fast.te11892475500146522536,Fast.te1435165496053646825,Fast.te14289696077712309145,Fast.te6613529449190102663]
 all_goals rfl
noncomputable abbrev pw:Program:=jv
noncomputable def uc:Program:=view Gq [0,1,2,4,5,6,7,13,17,20,22,23,24,25,26]
noncomputable def EB:List Str:=["_tuplegetter","Match","SequenceMatcher","nlargest","get_close_matches","median_grouped","bisect_right","bisect_right_bisect2","insort_left","bisect_left","bisect_left_bisect2"]
noncomputable def Li(d:Str):Obj→Obj
 | ⟨c,k,.dict es ep,sl⟩=>⟨c,k,.dict ⟨es.toList.modify 2 (λe=>match e with
  | ⟨h,key,.str _ t⟩=>⟨h,key,.str d t⟩
  | e=>e)⟩ ep,sl⟩
 | o=>o
noncomputable def Lj(d:Str)(x:List (Option Obj)×List (Option Obj)):List (Option Obj)×List (Option Obj):=(x.1.modify 152 (Option.map (Li d)),x.2)
theorem EF{α:Type}{q:Program}{e:List Str}{B:Shared→Bool}{z:Bool}{u:Shared→α}{val:World→α}{N:Nat}(G:Str→α→α)
  (h1:∀w,LR (Q5 Lz) w N (λs=>(Fast.tw4187177175401517315 q e (rR Gq.main.body) B z s,u s))=some (openGood q e,G Lz (val w)))
  (h2:∀w,G Ip (val w)=val w):LeftO pw q e B u val N z:=λw=>by
 refine Iz ?_;rw[Iy];have h:=h1 w;rw[← Cm,DK,h2,← Fast.te4187177175401517315] at h;rw[show pw=Gq from DJ.symm];exact h
open Mine
theorem Sb{r:OpenRow}(H:Hook){d:DefRec}{u:List (Str×PE)}(hw:r.toRowW.promised)(call:WalkO uc EB (XL uc []) H.says r.toRowW d u λf vs=>PySem.call f vs)
  (left:autoParam (LeftO r.prog uc EB (λs=>xlAt uc [] s&&recOk [] s) H.obs H.val 5522) zAj)
  (z:autoParam (defOf uc r.name=some (d,u)) zAa) (hp:autoParam (r.prog.theDef r.name=some (d.params,d.body,d.scope)) zAa) (hk:autoParam (kwWritten? d.params.kwonlyargs d.params.kw_defaults=some u) zAa) (G:autoParam (∀s,(xlAt uc [] s&&recOk [] s)=true→RecFacts r.records s.heap) zAk) (B:autoParam ((!r.writes||r.records.isEmpty)=true) zAa)
  (k1:autoParam (r.wellSaid=true) zAl) (ok:autoParam ((chainsOk uc&&opensWell r.prog&&(frees r.toRowW&&r.within.isEmpty))=true) zAm) (hb:autoParam (r.prog.bare) zAn):r.Holds:=
 holds_open left H.of H.keeps (λs e=>xl_of s (gG.mp e).1) XL.keeps z hp hk G B k1 ok hb hw call
local macro_rules | `(tactic| o_head (kmHook $K $as $e $_ts))=>`(tactic| refine Sb (kmHook $K $as $e [364,256]) ?hw ?hc)
local macro_rules | `(tactic| o_law)=>`(tactic| refine holds_law ws λsaid=>?_)
open_top hd for PySem.Challenge.rw_wb0115_01
end
theorem zoff:True:=by
 w_top off
 trivial
open W PyProof.Rows in
local macro_rules | `(tactic| walk_at $s:str)=>`(tactic| k_extra $(Lean.quote ("z"++s.getString)))
open W PyProof.Rows in
local macro_rules | `(tactic| k_ne)=>`(tactic| k_extra "zk_ne")
open W PyProof.Rows in
local macro_rules | `(tactic| k_all)=>`(tactic| k_extra "zk_all")
open W PyProof.Rows in
local macro_rules | `(tactic| ktr_enter)=>`(tactic| k_extra "zent")
open W PyProof.Rows in
local macro_rules | `(tactic| k_lt $_h:ident)=>`(tactic| skip)
section
theorem iB{α:Type}{L l:List α}(e:List Nat)(k:Nat)(h:(e.filterMap λi=>L[i]?)++L.drop k=l):∀p∈l,p∈L:=λp hp=>by
 subst h
 rcases aC.mp hp with hp|hp
 .obtain ⟨i,_,h⟩:=List.mem_filterMap.mp hp
  exact cq h
 .exact gE hp
theorem FC{α:Type}{P:α→Prop}{a:α}{l:List α}(h:P a)(hl:∀p∈l,P p):∀p∈a::l,P p:=zC ⟨h,hl⟩
theorem FN{α:Type}{P:α→Prop}:∀p∈([]:List α),P p:=λ_ h=>nomatch h
theorem FA{α:Type}{P:α→Prop}{l r:List α}(h:∀p∈l,P p)(hr:∀p∈r,P p):∀p∈l++r,P p:=Bv.mpr ⟨h,hr⟩
theorem a8{α:Type}{L:List α}(i:Nat){a:α}(h:L[i]?=some a):a∈L:=cq h
theorem bk{α:Type}{L:List α}(k:Nat){a:α}(h:a∈L.drop k):a∈L:=gE h
end
section
theorem eP{A B C:Prop}(h0:A)(h1:B)(h2:C):A∧B∧C:=⟨h0,h1,h2⟩
theorem nA{A B C D:Prop}(h0:A)(h1:B)(h2:C)(h3:D):A∧B∧C∧D:=⟨h0,h1,h2,h3⟩
theorem OB{A B C D E:Prop}(h0:A)(h1:B)(h2:C)(h3:D)(h4:E):A∧B∧C∧D∧E:=⟨h0,h1,h2,h3,h4⟩
theorem Lb{A B C D E F H:Prop}(h0:A)(h1:B)(h2:C)(h3:D)(h4:E)(h5:F)(h6:H):A∧B∧C∧D∧E∧F∧H:=⟨h0,h1,h2,h3,h4,h5,h6⟩
theorem OA{A B C D E F H I:Prop}(h0:A)(h1:B)(h2:C)(h3:D)(h4:E)(h5:F)(h6:H)(h7:I):A∧B∧C∧D∧E∧F∧H∧I:=⟨h0,h1,h2,h3,h4,h5,h6,h7⟩
theorem db{m:Sort _}{A B:m→Prop}(a:m)(h0:A a)(h1:B a):∃a,A a∧B a:=⟨a,h0,h1⟩
theorem c9{m:Sort _}{A B C:m→Prop}(a:m)(h0:A a)(h1:B a)(h2:C a):∃a,A a∧B a∧C a:=⟨a,h0,h1,h2⟩
theorem Oz{m:Sort _}{A B C D:m→Prop}(a:m)(h0:A a)(h1:B a)(h2:C a)(h3:D a):∃a,A a∧B a∧C a∧D a:=⟨a,h0,h1,h2,h3⟩
theorem Oy{m:Sort _}{A B C D E:m→Prop}(a:m)(h0:A a)(h1:B a)(h2:C a)(h3:D a)(h4:E a):∃a,A a∧B a∧C a∧D a∧E a:=⟨a,h0,h1,h2,h3,h4⟩
theorem rp{m n:Sort _}{A:m→n→Prop}(a:m)(b:n)(h0:A a b):∃a b,A a b:=⟨a,b,h0⟩
theorem vu{m n:Sort _}{A B:m→n→Prop}(a:m)(b:n)(h0:A a b)(h1:B a b):∃a b,A a b∧B a b:=⟨a,b,h0,h1⟩
theorem iw{m n:Sort _}{A B C:m→n→Prop}(a:m)(b:n)(h0:A a b)(h1:B a b)(h2:C a b):∃a b,A a b∧B a b∧C a b:=⟨a,b,h0,h1,h2⟩
theorem sh{m n:Sort _}{A B C D:m→n→Prop}(a:m)(b:n)(h0:A a b)(h1:B a b)(h2:C a b)(h3:D a b):∃a b,A a b∧B a b∧C a b∧D a b:=⟨a,b,h0,h1,h2,h3⟩
theorem QA{m n:Sort _}{A B C D E:m→n→Prop}(a:m)(b:n)(h0:A a b)(h1:B a b)(h2:C a b)(h3:D a b)(h4:E a b):∃a b,A a b∧B a b∧C a b∧D a b∧E a b:=⟨a,b,h0,h1,h2,h3,h4⟩
theorem Qz{m n:Sort _}{A B C D E F H:m→n→Prop}(a:m)(b:n)(h0:A a b)(h1:B a b)(h2:C a b)(h3:D a b)(h4:E a b)(h5:F a b)(h6:H a b):∃a b,A a b∧B a b∧C a b∧D a b∧E a b∧F a b∧H a b:=⟨a,b,h0,h1,h2,h3,h4,h5,h6⟩
theorem Ox{m n o:Sort _}{A:m→n→o→Prop}(a:m)(b:n)(c:o)(h0:A a b c):∃a b c,A a b c:=⟨a,b,c,h0⟩
theorem La{m n o:Sort _}{A B:m→n→o→Prop}(a:m)(b:n)(c:o)(h0:A a b c)(h1:B a b c):∃a b c,A a b c∧B a b c:=⟨a,b,c,h0,h1⟩
theorem nV{m n o:Sort _}{A B C:m→n→o→Prop}(a:m)(b:n)(c:o)(h0:A a b c)(h1:B a b c)(h2:C a b c):∃a b c,A a b c∧B a b c∧C a b c:=⟨a,b,c,h0,h1,h2⟩
theorem HP{m n o:Sort _}{A B C D:m→n→o→Prop}(a:m)(b:n)(c:o)(h0:A a b c)(h1:B a b c)(h2:C a b c)(h3:D a b c):∃a b c,A a b c∧B a b c∧C a b c∧D a b c:=⟨a,b,c,h0,h1,h2,h3⟩
theorem Ow{m n o:Sort _}{A B C D E:m→n→o→Prop}(a:m)(b:n)(c:o)(h0:A a b c)(h1:B a b c)(h2:C a b c)(h3:D a b c)(h4:E a b c):∃a b c,A a b c∧B a b c∧C a b c∧D a b c∧E a b c:=⟨a,b,c,h0,h1,h2,h3,h4⟩
theorem Qy{m n o:Sort _}{A B C D E F:m→n→o→Prop}(a:m)(b:n)(c:o)(h0:A a b c)(h1:B a b c)(h2:C a b c)(h3:D a b c)(h4:E a b c)(h5:F a b c):∃a b c,A a b c∧B a b c∧C a b c∧D a b c∧E a b c∧F a b c:=⟨a,b,c,h0,h1,h2,h3,h4,h5⟩
theorem Qx{m n o:Sort _}{A B C D E F H:m→n→o→Prop}(a:m)(b:n)(c:o)(h0:A a b c)(h1:B a b c)(h2:C a b c)(h3:D a b c)(h4:E a b c)(h5:F a b c)(h6:H a b c):∃a b c,A a b c∧B a b c∧C a b c∧D a b c∧E a b c∧F a b c∧H a b c:=⟨a,b,c,h0,h1,h2,h3,h4,h5,h6⟩
theorem ER{m n o p:Sort _}{A:m→n→o→p→Prop}(a:m)(b:n)(c:o)(d:p)(h0:A a b c d):∃a b c d,A a b c d:=⟨a,b,c,d,h0⟩
theorem vq{m n o p:Sort _}{A B:m→n→o→p→Prop}(a:m)(b:n)(c:o)(d:p)(h0:A a b c d)(h1:B a b c d):∃a b c d,A a b c d∧B a b c d:=⟨a,b,c,d,h0,h1⟩
theorem Qw{m n o p:Sort _}{A B C:m→n→o→p→Prop}(a:m)(b:n)(c:o)(d:p)(h0:A a b c d)(h1:B a b c d)(h2:C a b c d):∃a b c d,A a b c d∧B a b c d∧C a b c d:=⟨a,b,c,d,h0,h1,h2⟩
theorem EQ{m n o p:Sort _}{A B C D:m→n→o→p→Prop}(a:m)(b:n)(c:o)(d:p)(h0:A a b c d)(h1:B a b c d)(h2:C a b c d)(h3:D a b c d):∃a b c d,A a b c d∧B a b c d∧C a b c d∧D a b c d:=⟨a,b,c,d,h0,h1,h2,h3⟩
theorem zQ{m n o p:Sort _}{A B C D E:m→n→o→p→Prop}(a:m)(b:n)(c:o)(d:p)(h0:A a b c d)(h1:B a b c d)(h2:C a b c d)(h3:D a b c d)(h4:E a b c d):∃a b c d,A a b c d∧B a b c d∧C a b c d∧D a b c d∧E a b c d:=⟨a,b,c,d,h0,h1,h2,h3,h4⟩
theorem Qv{m n o p:Sort _}{A B C D E F:m→n→o→p→Prop}(a:m)(b:n)(c:o)(d:p)(h0:A a b c d)(h1:B a b c d)(h2:C a b c d)(h3:D a b c d)(h4:E a b c d)(h5:F a b c d):∃a b c d,A a b c d∧B a b c d∧C a b c d∧D a b c d∧E a b c d∧F a b c d:=⟨a,b,c,d,h0,h1,h2,h3,h4,h5⟩
theorem Ov{m n o p q:Sort _}{A:m→n→o→p→q→Prop}(a:m)(b:n)(c:o)(d:p)(e:q)(h0:A a b c d e):∃a b c d e,A a b c d e:=⟨a,b,c,d,e,h0⟩
theorem Qu{m n o p q:Sort _}{A B C:m→n→o→p→q→Prop}(a:m)(b:n)(c:o)(d:p)(e:q)(h0:A a b c d e)(h1:B a b c d e)(h2:C a b c d e):∃a b c d e,A a b c d e∧B a b c d e∧C a b c d e:=⟨a,b,c,d,e,h0,h1,h2⟩
theorem EP{m n o p q:Sort _}{A B C D E:m→n→o→p→q→Prop}(a:m)(b:n)(c:o)(d:p)(e:q)(h0:A a b c d e)(h1:B a b c d e)(h2:C a b c d e)(h3:D a b c d e)(h4:E a b c d e):∃a b c d e,A a b c d e∧B a b c d e∧C a b c d e∧D a b c d e∧E a b c d e:=⟨a,b,c,d,e,h0,h1,h2,h3,h4⟩
theorem Qt{m n o p q:Sort _}{A B C D E F:m→n→o→p→q→Prop}(a:m)(b:n)(c:o)(d:p)(e:q)(h0:A a b c d e)(h1:B a b c d e)(h2:C a b c d e)(h3:D a b c d e)(h4:E a b c d e)(h5:F a b c d e):∃a b c d e,A a b c d e∧B a b c d e∧C a b c d e∧D a b c d e∧E a b c d e∧F a b c d e:=⟨a,b,c,d,e,h0,h1,h2,h3,h4,h5⟩
theorem Ou{m n o p q:Sort _}{A B C D E F H I:m→n→o→p→q→Prop}(a:m)(b:n)(c:o)(d:p)(e:q)(h0:A a b c d e)(h1:B a b c d e)(h2:C a b c d e)(h3:D a b c d e)(h4:E a b c d e)(h5:F a b c d e)(h6:H a b c d e)(h7:I a b c d e):∃a b c d e,A a b c d e∧B a b c d e∧C a b c d e∧D a b c d e∧E a b c d e∧F a b c d e∧H a b c d e∧I a b c d e:=⟨a,b,c,d,e,h0,h1,h2,h3,h4,h5,h6,h7⟩
theorem Qs{m n o p q:Sort _}{A B C D E F H I J K:m→n→o→p→q→Prop}(a:m)(b:n)(c:o)(d:p)(e:q)(h0:A a b c d e)(h1:B a b c d e)(h2:C a b c d e)(h3:D a b c d e)(h4:E a b c d e)(h5:F a b c d e)(h6:H a b c d e)(h7:I a b c d e)(h8:J a b c d e)(h9:K a b c d e):∃a b c d e,A a b c d e∧B a b c d e∧C a b c d e∧D a b c d e∧E a b c d e∧F a b c d e∧H a b c d e∧I a b c d e∧J a b c d e∧K a b c d e:=⟨a,b,c,d,e,h0,h1,h2,h3,h4,h5,h6,h7,h8,h9⟩
theorem B3{m n o p q r:Sort _}{A:m→n→o→p→q→r→Prop}(a:m)(b:n)(c:o)(d:p)(e:q)(f:r)(h0:A a b c d e f):∃a b c d e f,A a b c d e f:=⟨a,b,c,d,e,f,h0⟩
theorem K9{m n o p q r:Sort _}{A B C D E F:m→n→o→p→q→r→Prop}(a:m)(b:n)(c:o)(d:p)(e:q)(f:r)(h0:A a b c d e f)(h1:B a b c d e f)(h2:C a b c d e f)(h3:D a b c d e f)(h4:E a b c d e f)(h5:F a b c d e f):∃a b c d e f,A a b c d e f∧B a b c d e f∧C a b c d e f∧D a b c d e f∧E a b c d e f∧F a b c d e f:=⟨a,b,c,d,e,f,h0,h1,h2,h3,h4,h5⟩
theorem Ot{m n o p q r s t:Sort _}{A B C D E F H I:m→n→o→p→q→r→s→t→Prop}(a:m)(b:n)(c:o)(d:p)(e:q)(f:r)(g:s)(i:t)(h0:A a b c d e f g i)(h1:B a b c d e f g i)(h2:C a b c d e f g i)(h3:D a b c d e f g i)(h4:E a b c d e f g i)(h5:F a b c d e f g i)(h6:H a b c d e f g i)(h7:I a b c d e f g i):∃a b c d e f g i,A a b c d e f g i∧B a b c d e f g i∧C a b c d e f g i∧D a b c d e f g i∧E a b c d e f g i∧F a b c d e f g i∧H a b c d e f g i∧I a b c d e f g i:=⟨a,b,c,d,e,f,g,i,h0,h1,h2,h3,h4,h5,h6,h7⟩
theorem b8{A B:Prop}{G:Prop}(h:A∧B)(k:A→B→G):G:=k h.1 h.2
theorem ku{A B C:Prop}{G:Prop}(h:A∧B∧C)(k:A→B→C→G):G:=k h.1 h.2.1 h.2.2
theorem xR{A B C D:Prop}{G:Prop}(h:A∧B∧C∧D)(k:A→B→C→D→G):G:=k h.1 h.2.1 h.2.2.1 h.2.2.2
theorem Qj{A B C D E:Prop}{G:Prop}(h:A∧B∧C∧D∧E)(k:A→B→C→D→E→G):G:=k h.1 h.2.1 h.2.2.1 h.2.2.2.1 h.2.2.2.2
theorem Kf{A B C D E F:Prop}{G:Prop}(h:A∧B∧C∧D∧E∧F)(k:A→B→C→D→E→F→G):G:=k h.1 h.2.1 h.2.2.1 h.2.2.2.1 h.2.2.2.2.1 h.2.2.2.2.2
theorem BR{A B C D E F H:Prop}{G:Prop}(h:A∧B∧C∧D∧E∧F∧H)(k:A→B→C→D→E→F→H→G):G:=k h.1 h.2.1 h.2.2.1 h.2.2.2.1 h.2.2.2.2.1 h.2.2.2.2.2.1 h.2.2.2.2.2.2
theorem Qi{A B C D E F H I:Prop}{G:Prop}(h:A∧B∧C∧D∧E∧F∧H∧I)(k:A→B→C→D→E→F→H→I→G):G:=k h.1 h.2.1 h.2.2.1 h.2.2.2.1 h.2.2.2.2.1 h.2.2.2.2.2.1 h.2.2.2.2.2.2.1 h.2.2.2.2.2.2.2
theorem Qh{A B C D E F H I J:Prop}{G:Prop}(h:A∧B∧C∧D∧E∧F∧H∧I∧J)(k:A→B→C→D→E→F→H→I→J→G):G:=k h.1 h.2.1 h.2.2.1 h.2.2.2.1 h.2.2.2.2.1 h.2.2.2.2.2.1 h.2.2.2.2.2.2.1 h.2.2.2.2.2.2.2.1 h.2.2.2.2.2.2.2.2
theorem cp{m:Sort _}{A:m→Prop}{G:Prop}(h:∃a,A a)(k:∀a,A a→G):G:=h.elim λa h=>k a h
theorem fN{m:Sort _}{A B:m→Prop}{G:Prop}(h:∃a,A a∧B a)(k:∀a,A a→B a→G):G:=h.elim λa h=>k a h.1 h.2
theorem fM{m:Sort _}{A B C:m→Prop}{G:Prop}(h:∃a,A a∧B a∧C a)(k:∀a,A a→B a→C a→G):G:=h.elim λa h=>k a h.1 h.2.1 h.2.2
theorem sJ{m:Sort _}{A B C D:m→Prop}{G:Prop}(h:∃a,A a∧B a∧C a∧D a)(k:∀a,A a→B a→C a→D a→G):G:=h.elim λa h=>k a h.1 h.2.1 h.2.2.1 h.2.2.2
theorem uq{m n:Sort _}{A:m→n→Prop}{G:Prop}(h:∃a b,A a b)(k:∀a b,A a b→G):G:=h.elim λa h=>h.elim λb h=>k a b h
theorem pU{m n:Sort _}{A B:m→n→Prop}{G:Prop}(h:∃a b,A a b∧B a b)(k:∀a b,A a b→B a b→G):G:=h.elim λa h=>h.elim λb h=>k a b h.1 h.2
theorem gL{m n:Sort _}{A B C:m→n→Prop}{G:Prop}(h:∃a b,A a b∧B a b∧C a b)(k:∀a b,A a b→B a b→C a b→G):G:=h.elim λa h=>h.elim λb h=>k a b h.1 h.2.1 h.2.2
theorem hZ{m n:Sort _}{A B C D:m→n→Prop}{G:Prop}(h:∃a b,A a b∧B a b∧C a b∧D a b)(k:∀a b,A a b→B a b→C a b→D a b→G):G:=h.elim λa h=>h.elim λb h=>k a b h.1 h.2.1 h.2.2.1 h.2.2.2
theorem NC{m n:Sort _}{A B C D E:m→n→Prop}{G:Prop}(h:∃a b,A a b∧B a b∧C a b∧D a b∧E a b)(k:∀a b,A a b→B a b→C a b→D a b→E a b→G):G:=h.elim λa h=>h.elim λb h=>k a b h.1 h.2.1 h.2.2.1 h.2.2.2.1 h.2.2.2.2
theorem NB{m n:Sort _}{A B C D E F:m→n→Prop}{G:Prop}(h:∃a b,A a b∧B a b∧C a b∧D a b∧E a b∧F a b)(k:∀a b,A a b→B a b→C a b→D a b→E a b→F a b→G):G:=h.elim λa h=>h.elim λb h=>k a b h.1 h.2.1 h.2.2.1 h.2.2.2.1 h.2.2.2.2.1 h.2.2.2.2.2
theorem Nz{m n:Sort _}{A B C D E F H:m→n→Prop}{G:Prop}(h:∃a b,A a b∧B a b∧C a b∧D a b∧E a b∧F a b∧H a b)(k:∀a b,A a b→B a b→C a b→D a b→E a b→F a b→H a b→G):G:=h.elim λa h=>h.elim λb h=>k a b h.1 h.2.1 h.2.2.1 h.2.2.2.1 h.2.2.2.2.1 h.2.2.2.2.2.1 h.2.2.2.2.2.2
theorem Qg{m n o:Sort _}{A:m→n→o→Prop}{G:Prop}(h:∃a b c,A a b c)(k:∀a b c,A a b c→G):G:=h.elim λa h=>h.elim λb h=>h.elim λc h=>k a b c h
theorem Ny{m n o:Sort _}{A B:m→n→o→Prop}{G:Prop}(h:∃a b c,A a b c∧B a b c)(k:∀a b c,A a b c→B a b c→G):G:=h.elim λa h=>h.elim λb h=>h.elim λc h=>k a b c h.1 h.2
theorem zB{m n o:Sort _}{A B C:m→n→o→Prop}{G:Prop}(h:∃a b c,A a b c∧B a b c∧C a b c)(k:∀a b c,A a b c→B a b c→C a b c→G):G:=h.elim λa h=>h.elim λb h=>h.elim λc h=>k a b c h.1 h.2.1 h.2.2
theorem Hp{m n o:Sort _}{A B C D:m→n→o→Prop}{G:Prop}(h:∃a b c,A a b c∧B a b c∧C a b c∧D a b c)(k:∀a b c,A a b c→B a b c→C a b c→D a b c→G):G:=h.elim λa h=>h.elim λb h=>h.elim λc h=>k a b c h.1 h.2.1 h.2.2.1 h.2.2.2
theorem Nx{m n o:Sort _}{A B C D E F:m→n→o→Prop}{G:Prop}(h:∃a b c,A a b c∧B a b c∧C a b c∧D a b c∧E a b c∧F a b c)(k:∀a b c,A a b c→B a b c→C a b c→D a b c→E a b c→F a b c→G):G:=h.elim λa h=>h.elim λb h=>h.elim λc h=>k a b c h.1 h.2.1 h.2.2.1 h.2.2.2.1 h.2.2.2.2.1 h.2.2.2.2.2
theorem Qf{m n o:Sort _}{A B C D E F H:m→n→o→Prop}{G:Prop}(h:∃a b c,A a b c∧B a b c∧C a b c∧D a b c∧E a b c∧F a b c∧H a b c)(k:∀a b c,A a b c→B a b c→C a b c→D a b c→E a b c→F a b c→H a b c→G):G:=h.elim λa h=>h.elim λb h=>h.elim λc h=>k a b c h.1 h.2.1 h.2.2.1 h.2.2.2.1 h.2.2.2.2.1 h.2.2.2.2.2.1 h.2.2.2.2.2.2
theorem Qe{m n o p:Sort _}{A:m→n→o→p→Prop}{G:Prop}(h:∃a b c d,A a b c d)(k:∀a b c d,A a b c d→G):G:=h.elim λa h=>h.elim λb h=>h.elim λc h=>h.elim λd h=>k a b c d h
theorem BQ{m n o p:Sort _}{A B:m→n→o→p→Prop}{G:Prop}(h:∃a b c d,A a b c d∧B a b c d)(k:∀a b c d,A a b c d→B a b c d→G):G:=h.elim λa h=>h.elim λb h=>h.elim λc h=>h.elim λd h=>k a b c d h.1 h.2
theorem Ke{m n o p:Sort _}{A B C:m→n→o→p→Prop}{G:Prop}(h:∃a b c d,A a b c d∧B a b c d∧C a b c d)(k:∀a b c d,A a b c d→B a b c d→C a b c d→G):G:=h.elim λa h=>h.elim λb h=>h.elim λc h=>h.elim λd h=>k a b c d h.1 h.2.1 h.2.2
theorem Ho{m n o p:Sort _}{A B C D:m→n→o→p→Prop}{G:Prop}(h:∃a b c d,A a b c d∧B a b c d∧C a b c d∧D a b c d)(k:∀a b c d,A a b c d→B a b c d→C a b c d→D a b c d→G):G:=h.elim λa h=>h.elim λb h=>h.elim λc h=>h.elim λd h=>k a b c d h.1 h.2.1 h.2.2.1 h.2.2.2
theorem zA{m n o p:Sort _}{A B C D E:m→n→o→p→Prop}{G:Prop}(h:∃a b c d,A a b c d∧B a b c d∧C a b c d∧D a b c d∧E a b c d)(k:∀a b c d,A a b c d→B a b c d→C a b c d→D a b c d→E a b c d→G):G:=h.elim λa h=>h.elim λb h=>h.elim λc h=>h.elim λd h=>k a b c d h.1 h.2.1 h.2.2.1 h.2.2.2.1 h.2.2.2.2
theorem Qd{m n o p q:Sort _}{A:m→n→o→p→q→Prop}{G:Prop}(h:∃a b c d e,A a b c d e)(k:∀a b c d e,A a b c d e→G):G:=h.elim λa h=>h.elim λb h=>h.elim λc h=>h.elim λd h=>h.elim λe h=>k a b c d e h
theorem Kd{m n o p q:Sort _}{A B C:m→n→o→p→q→Prop}{G:Prop}(h:∃a b c d e,A a b c d e∧B a b c d e∧C a b c d e)(k:∀a b c d e,A a b c d e→B a b c d e→C a b c d e→G):G:=h.elim λa h=>h.elim λb h=>h.elim λc h=>h.elim λd h=>h.elim λe h=>k a b c d e h.1 h.2.1 h.2.2
theorem Nw{m n o p q:Sort _}{A B C D E:m→n→o→p→q→Prop}{G:Prop}(h:∃a b c d e,A a b c d e∧B a b c d e∧C a b c d e∧D a b c d e∧E a b c d e)(k:∀a b c d e,A a b c d e→B a b c d e→C a b c d e→D a b c d e→E a b c d e→G):G:=h.elim λa h=>h.elim λb h=>h.elim λc h=>h.elim λd h=>h.elim λe h=>k a b c d e h.1 h.2.1 h.2.2.1 h.2.2.2.1 h.2.2.2.2
theorem Qc{m n o p q:Sort _}{A B C D E F:m→n→o→p→q→Prop}{G:Prop}(h:∃a b c d e,A a b c d e∧B a b c d e∧C a b c d e∧D a b c d e∧E a b c d e∧F a b c d e)(k:∀a b c d e,A a b c d e→B a b c d e→C a b c d e→D a b c d e→E a b c d e→F a b c d e→G):G:=h.elim λa h=>h.elim λb h=>h.elim λc h=>h.elim λd h=>h.elim λe h=>k a b c d e h.1 h.2.1 h.2.2.1 h.2.2.2.1 h.2.2.2.2.1 h.2.2.2.2.2
theorem Qb{m n o p q:Sort _}{A B C D E F H I:m→n→o→p→q→Prop}{G:Prop}(h:∃a b c d e,A a b c d e∧B a b c d e∧C a b c d e∧D a b c d e∧E a b c d e∧F a b c d e∧H a b c d e∧I a b c d e)(k:∀a b c d e,A a b c d e→B a b c d e→C a b c d e→D a b c d e→E a b c d e→F a b c d e→H a b c d e→I a b c d e→G):G:=h.elim λa h=>h.elim λb h=>h.elim λc h=>h.elim λd h=>h.elim λe h=>k a b c d e h.1 h.2.1 h.2.2.1 h.2.2.2.1 h.2.2.2.2.1 h.2.2.2.2.2.1 h.2.2.2.2.2.2.1 h.2.2.2.2.2.2.2
theorem Qa{m n o p q:Sort _}{A B C D E F H I J K:m→n→o→p→q→Prop}{G:Prop}(h:∃a b c d e,A a b c d e∧B a b c d e∧C a b c d e∧D a b c d e∧E a b c d e∧F a b c d e∧H a b c d e∧I a b c d e∧J a b c d e∧K a b c d e)(k:∀a b c d e,A a b c d e→B a b c d e→C a b c d e→D a b c d e→E a b c d e→F a b c d e→H a b c d e→I a b c d e→J a b c d e→K a b c d e→G):G:=h.elim λa h=>h.elim λb h=>h.elim λc h=>h.elim λd h=>h.elim λe h=>k a b c d e h.1 h.2.1 h.2.2.1 h.2.2.2.1 h.2.2.2.2.1 h.2.2.2.2.2.1 h.2.2.2.2.2.2.1 h.2.2.2.2.2.2.2.1 h.2.2.2.2.2.2.2.2.1 h.2.2.2.2.2.2.2.2.2
theorem zy{m n o p q r:Sort _}{A:m→n→o→p→q→r→Prop}{G:Prop}(h:∃a b c d e f,A a b c d e f)(k:∀a b c d e f,A a b c d e f→G):G:=h.elim λa h=>h.elim λb h=>h.elim λc h=>h.elim λd h=>h.elim λe h=>h.elim λf h=>k a b c d e f h
theorem P9{m n o p q r:Sort _}{A B C D E F:m→n→o→p→q→r→Prop}{G:Prop}(h:∃a b c d e f,A a b c d e f∧B a b c d e f∧C a b c d e f∧D a b c d e f∧E a b c d e f∧F a b c d e f)(k:∀a b c d e f,A a b c d e f→B a b c d e f→C a b c d e f→D a b c d e f→E a b c d e f→F a b c d e f→G):G:=h.elim λa h=>h.elim λb h=>h.elim λc h=>h.elim λd h=>h.elim λe h=>h.elim λf h=>k a b c d e f h.1 h.2.1 h.2.2.1 h.2.2.2.1 h.2.2.2.2.1 h.2.2.2.2.2
theorem P8{m n o p q r s:Sort _}{A B C D E:m→n→o→p→q→r→s→Prop}{G:Prop}(h:∃a b c d e f g,A a b c d e f g∧B a b c d e f g∧C a b c d e f g∧D a b c d e f g∧E a b c d e f g)(k:∀a b c d e f g,A a b c d e f g→B a b c d e f g→C a b c d e f g→D a b c d e f g→E a b c d e f g→G):G:=h.elim λa h=>h.elim λb h=>h.elim λc h=>h.elim λd h=>h.elim λe h=>h.elim λf h=>h.elim λg h=>k a b c d e f g h.1 h.2.1 h.2.2.1 h.2.2.2.1 h.2.2.2.2
theorem P7{m n o p q r s t:Sort _}{A B C:m→n→o→p→q→r→s→t→Prop}{G:Prop}(h:∃a b c d e f g i,A a b c d e f g i∧B a b c d e f g i∧C a b c d e f g i)(k:∀a b c d e f g i,A a b c d e f g i→B a b c d e f g i→C a b c d e f g i→G):G:=h.elim λa h=>h.elim λb h=>h.elim λc h=>h.elim λd h=>h.elim λe h=>h.elim λf h=>h.elim λg h=>h.elim λi h=>k a b c d e f g i h.1 h.2.1 h.2.2
theorem P6{m n o p q r s t:Sort _}{A B C D E F H:m→n→o→p→q→r→s→t→Prop}{G:Prop}(h:∃a b c d e f g i,A a b c d e f g i∧B a b c d e f g i∧C a b c d e f g i∧D a b c d e f g i∧E a b c d e f g i∧F a b c d e f g i∧H a b c d e f g i)(k:∀a b c d e f g i,A a b c d e f g i→B a b c d e f g i→C a b c d e f g i→D a b c d e f g i→E a b c d e f g i→F a b c d e f g i→H a b c d e f g i→G):G:=h.elim λa h=>h.elim λb h=>h.elim λc h=>h.elim λd h=>h.elim λe h=>h.elim λf h=>h.elim λg h=>h.elim λi h=>k a b c d e f g i h.1 h.2.1 h.2.2.1 h.2.2.2.1 h.2.2.2.2.1 h.2.2.2.2.2.1 h.2.2.2.2.2.2
theorem PZ{m n o p q r s t w:Sort _}{A B:m→n→o→p→q→r→s→t→w→Prop}{G:Prop}(h:∃a b c d e f g i j,A a b c d e f g i j∧B a b c d e f g i j)(k:∀a b c d e f g i j,A a b c d e f g i j→B a b c d e f g i j→G):G:=h.elim λa h=>h.elim λb h=>h.elim λc h=>h.elim λd h=>h.elim λe h=>h.elim λf h=>h.elim λg h=>h.elim λi h=>h.elim λj h=>k a b c d e f g i j h.1 h.2
end
section
open W PyProof Rows
open PySem.Builtin
noncomputable def cg(id:String)(self:Value):Obj:={cls:=.type "builtin_function_or_method",dict:=none,data:=.fields #[.builtin id,self]}
theorem AT:gz (.type "method_descriptor") "__get__"=ck (some (.builtin "method_descriptor.__get__")):=by rw[cu,bw];kernel_rfl
theorem HD:gz (.type "method_descriptor") "__set__"=ck none:=by rw[cu,bw];kernel_rfl
theorem HE:gz (.type "method_descriptor") "__delete__"=ck none:=by rw[cu,bw];kernel_rfl
theorem rX:Slot "method_descriptor" "__get__" "method_descriptor.__get__":=
 .of (owner:="method_descriptor") (n:="__get__") AT (by decide +kernel) (by decide +kernel) (by decide +kernel)
  (by first|exact .inl (by decide +kernel)|exact .inr (by decide +kernel)) (by rw[dz];kernel_rfl)
theorem qH:kH w9 "method_descriptor.__get__"=some Builtin.«method_descriptor.__get__»:=qP (by kernel_rfl)
theorem sr(a b c:Value):g5 "method_descriptor.__get__" ⟨[a,b,c],[]⟩:=by unfold g5;kernel_rfl
theorem nP:Slot "set" "__getattribute__" "set.__getattribute__":=
 .of (owner:="set") (n:="__getattribute__") (by rw[cu,bw];kernel_rfl) (by decide +kernel) (by decide +kernel) (by decide +kernel)
  (by first|exact .inl (by decide +kernel)|exact .inr (by decide +kernel)) (by rw[dz];kernel_rfl)
theorem nC:kH w9 "set.__getattribute__"=some Builtin.«object.__getattribute__»:=
 entryFor_alias (id':="object.__getattribute__") (by kernel_rfl) (by decide +kernel) (by decide +kernel) (by kernel_rfl)
theorem nW(a b:Value):g5 "set.__getattribute__" ⟨[a,b],[]⟩:=by unfold g5;kernel_rfl
structure BFacts(T:String)(name:Str)(id ga:String):Prop where
 lk:gz (.type T) name=ck (some (.builtin id))
 ty:rH (.builtin id)=ck (.type "method_descriptor")
 told:Manifest.toldItsClass.contains id=false
 sub:tR (.type T) (.type (".".intercalate (id.cutAt '.').dropLast))=ck true
 cop:(["__module__","__name__","__qualname__","__doc__","__annotations__"]:List Str).contains name=false
 slot:Slot T "__getattribute__" ga
 entry:kH w9 ga=some Builtin.«object.__getattribute__»
 args:∀a b,g5 ga ⟨[a,b],[]⟩
section
variable {T:String}{name:Str}{id ga:String} (f:BFacts T name id ga)
include f
theorem LN{P:Fin→Shared→Prop}(hT:s.TypeIs (.ref a) T)(h:P (.done (.ret (.ref s.heap.objs.size))) {s with heap:=s.heap.push (cg id (.ref a))}):
  aA M A (Builtin.«method_descriptor.__get__» ⟨[.builtin id,.ref a,.type T],[]⟩) P E s:=by
 unfold Builtin.«method_descriptor.__get__»;refine af (bV (a:=(.builtin id,some (.ref a),some (.type T))) (by first|rfl|kernel_rfl) ?_);simp only[f.told,hU,if_false];obtain ⟨hp,g,d,tk,os⟩:=s;have e:=f.sub;clear f
 repeat (any_goals (first|with_reducible assumption|wp_step))
 exact h
theorem FJ(a:Addr)(o:Obj)(u:Tok)(hc:o.cls=.type T)(hd:o.dict=none)(hn:(∃es k,o.data=.dict es k)∨∃es k t,o.data=.set es k t):
  GD (Builtin.«object.__getattribute__» ⟨[.ref a,.str name u],[]⟩) (λA R s=>s.heap.get? a=some o∧R (.ok (.ret (.ref s.heap.objs.size))) {s with heap:=s.heap.push (cg id (.ref a))}):=
 Meets.of_wp λprog w A R s hs=>by
  obtain ⟨hp,g,d,tk,os⟩:=s;obtain ⟨B,hs⟩:=hs
  have hT:(⟨hp,g,d,tk,os⟩:Shared).TypeIs (.ref a) T:=⟨_,B,hc⟩
  have Y:=f.lk;have e:=f.ty;have U:=AT;have O:=HD;have J:=HE;have G:=f.cop;have z:=@LN _ _ _ _ f;clear f;obtain ⟨c,dd,H,sl⟩:=o;dsimp only at hc hd hn;subst hc hd;unfold Builtin.«object.__getattribute__»
  repeat (any_goals (first|with_reducible assumption|(with_reducible refine bV e ?_)|((with_reducible show aA _ _ (call (ji "method_descriptor.__get__") _ _) _ _ _);refine eE rX e qH (z hT ?_) (sr _ _ _))|wp_step))
  rcases hn with ⟨es,k,rfl⟩|⟨es,k,t,rfl⟩
  all_goals (
   repeat (any_goals (first|with_reducible assumption|(with_reducible refine bV e ?_)|((with_reducible show aA _ _ (call (ji "method_descriptor.__get__") _ _) _ _ _);refine eE rX e qH (z hT ?_) (sr _ _ _))|wp_step))
   refine PySem.W.KFB.if_not G ?_
   repeat (any_goals (first|with_reducible assumption|(with_reducible refine bV e ?_)|((with_reducible show aA _ _ (call (ji "method_descriptor.__get__") _ _) _ _ _);refine eE rX e qH (z hT ?_) (sr _ _ _))|wp_step))
   exact⟨_,rfl,ai ⟨_,rfl,hs⟩⟩)
theorem wY(a:Addr)(o:Obj)(hc:o.cls=.type T)(hd:o.dict=none)(hn:(∃es k,o.data=.dict es k)∨∃es k t,o.data=.set es k t)
  (e:s.heap.get? a=some o) (h:Q (.ref s.heap.objs.size) {s with heap:=s.heap.push (cg id (.ref a)),toks:=s.toks+1}):
  aA (aq prog w) A (jO (.ref a) name ex) Q E s:=by
 obtain ⟨hp,g,d,tk,os⟩:=s;obtain ⟨c,J,B,sl⟩:=o;dsimp only at hc hd hn;subst hc hd
 have hT:∀tk',(⟨hp,g,d,tk',os⟩:Shared).TypeIs (.ref a) T:=λ_=>(db _ e rfl)
 have H:=f.slot.lookup;have G:=f.slot.bind (.ref a);have u:=@FJ _ _ _ _ f;have fs:=f.slot;have z:=f.entry;have fa:=f.args;clear f;unfold jO getAttrBy;cases ex
 all_goals (
  repeat (any_goals (first|with_reducible assumption|with_reducible exact hT _|((with_reducible show aA _ _ (call (ji _) _ _) _ _ _);refine call_meets fs (hT _) z (fa _ _) (u a _ _ rfl rfl hn) ⟨e,?_⟩)|wp_step))
  exact ai h)
end
theorem LV:BFacts "dict" "get" "dict.get" "dict.__getattribute__" where
 lk:=by rw[cu,bw];kernel_rfl
 ty:=by refine(?_:Mm _=_);rw[vc];kernel_rfl
 told:=by decide +kernel
 sub:=by rw[dz];kernel_rfl
 cop:=by decide +kernel
 slot:=CK
 entry:=CG
 args:=Au
theorem LU:BFacts "dict" "__contains__" "dict.__contains__" "dict.__getattribute__" where
 lk:=by rw[cu,bw];kernel_rfl
 ty:=by refine(?_:Mm _=_);rw[vc];kernel_rfl
 told:=by decide +kernel
 sub:=by rw[dz];kernel_rfl
 cop:=by decide +kernel
 slot:=CK
 entry:=CG
 args:=Au
theorem IE:BFacts "set" "__contains__" "set.__contains__" "set.__getattribute__" where
 lk:=by rw[cu,bw];kernel_rfl
 ty:=by refine(?_:Mm _=_);rw[vc];kernel_rfl
 told:=by decide +kernel
 sub:=by rw[dz];kernel_rfl
 cop:=by decide +kernel
 slot:=nP
 entry:=nC
 args:=nW
end
section
open W PyProof Rows PySem.Calls
open PySem.Builtin
section
variable {prog:Program}{w:World}{M:Model}{A:Around}{E:VP}{s:Shared}{K:Frag}{h₀:Heap}{L:Addr}{m:Lo}{news:Ns}
noncomputable def tK(x:Addr)(id:String)(self:Value)(h:Heap):Prop:=h.get? x=some (cg id self)
theorem zl{x:Addr}{id:String}{self:Value}{h:Heap}(N:ba h₀ L h news)(hm:(x,cg id self)∈news):tK x id self h:=N.get hm
theorem Cv(hplain:args.any (·.1)=false)
  (h:aA M A (evalArgs (.ref u) true args []) (λx s₁=>tK u bid self s₁.heap∧aA M A (call (.ref u) (first++x.pos) x.kw) Q E s₁) E s):aA M A (iI pos (.ref u) first args []) Q E s:=by
 unfold iI;refine af (bC (ci h (λx s₁ e=>af (gY ?_)) λ_ _ x=>x));refine b8 e λho hcall=>?_
 try clear e
 rw[hplain];refine af (m:=keeperOf (.ref u)) ?_;unfold keeperOf;refine af (rF ho (ai ?_));exact af (ci hcall (λr s₂ hr=>af (bC (wpAny_point (ai hr)))) λ_ _ x=>x)
theorem pK(_N:ba h₀ L s.heap news)(_hm:(u,cg bid self)∈news)
  (h:aA M A (spliced (fj pos (bW (e::rest) env))) (λvs s₁=>tK u bid self s₁.heap∧aA M A (call (.ref u) (first++vs)) Q E s₁) E s)
  (he:autoParam (bW (e::rest) env=(false,eval e env)::bW rest env) zAa) (hplain:autoParam ((fj pos (bW rest env)).any (·.1)=false) zAa):
  aA M A (iI pos (.ref u) first (fj pos (bW (e::rest) env)) []) Q E s:=by
 rw[he] at h ⊢;refine Cv (bid:=bid) (self:=self) (by refine(?_:(false||(fj pos (bW rest env)).any (·.1))=false);rw[hplain];rfl) ?_;exact evalArgs_plain h
theorem LW(ho:s.heap.get? a=some o)(u:o.cls=.type T)(hn:(∃es k,o.data=.dict es k)∨∃es k t,o.data=.set es k t)(hk:Mn bid=some .method)(hv:xk.contains bid=false)
  (hm:tR (.type T) (.type "module")=ck false)
  (hc:(match iK bid with|none=>ck ()|some e=>xu bid {e with full:=s!"{Bind.lastOf T}.{Bind.lastOf bid}" } ⟨.ref a::rest,[]⟩)=ck ()) (h:Q () s):
  aA M A (checkBoundCall bid ⟨.ref a::rest,[]⟩) Q E s:=by
 unfold checkBoundCall
 cases hs:iK bid with
 | none=>exact ai h
 | some e=>
  rw[hs] at hc;rw[hk,hv];obtain ⟨hp,g,d,tk,os⟩:=s;obtain ⟨c,B,z,sl⟩:=o;dsimp only at u hn;subst u
  have hT:(⟨hp,g,d,tk,os⟩:Shared).TypeIs (.ref a) T:=(db _ ho rfl)
  repeat (any_goals (first|with_reducible assumption|wp_step))
  rcases hn with ⟨es,k,rfl⟩|⟨es,k,t,rfl⟩
  all_goals (
   repeat (any_goals (first|with_reducible assumption|with_reducible refine bV hc ?_|wp_step)))
theorem FV(hq:s.heap.get? q=some (cg bid (.ref a)))(ho:s.heap.get? a=some o)(H:o.cls=.type T)(hn:(∃es k,o.data=.dict es k)∨∃es k t,o.data=.set es k t)(hk:Mn bid=some .method)(hv:xk.contains bid=false)
  (hm:tR (.type T) (.type "module")=ck false)
  (hc:(match iK bid with|none=>ck ()|some u=>xu bid {u with full:=s!"{Bind.lastOf T}.{Bind.lastOf bid}" } ⟨.ref a::rest,[]⟩)=ck ())
  (z:∀J,(pR bid J).quiet=true) (G:plainId bid=true) (entry:kH w9 bid=some B)
  (h:aA (aq prog w) A.in1 (B ⟨.ref a::rest,[]⟩) (λfin s'=>match fin with | .done f=>wants Q E (.ok f) s' | .again c'=>c'.quiet=true∧dY (aq prog w) A c' (wants Q E) s') (λe s'=>E e s') s):
  aA (aq prog w) A (call (.ref q) rest) Q E s:=by
 refine eG (As ?_);refine af (rF hq ?_);refine PySem.W.KFB.if_so (by kernel_rfl) ?_;refine PySem.W.KFB.if_so (by kernel_rfl) ?_;refine af (LW ho H hn hk hv hm hc ?_);refine af (ai (ai ?_));refine⟨z _,eu entry ?_⟩;rw[show A.under (pR bid ⟨#[ji bid,bG a][1]::rest,[]⟩)=A.in1 from dm G _];exact h
end
section
variable {prog:Program}{w:World}{A:Around}{E:VP}{s:Shared}{h₀:Heap}{L:Addr}{m:Lo}{news:Ns}{q d:Addr}{o:Obj}{kvs:List (Int×Value)}{k:Int}{t:Tok}{dflt:Value}{Q:VP}
theorem dict_parts{K:Type}[DecidableEq K]{knd:KeyKind prog w K}{kvs:List (K×Value)}(hd:o.IsDictOf knd kvs):o.cls=.type "dict"∧o.dict=none∧((∃es k,o.data=.dict es k)∨∃es k t,o.data=.set es k t):=
 let ⟨es,ep,e,he,_⟩:=hd;(eP e.1 e.2.1 (.inl ⟨es,ep,he⟩))
theorem QN(N:ba h₀ L s.heap news)(hq:(q,cg "dict.get" (.ref d))∈news)(hp:(d,o)∈news)(hd:o.IsDictOf (gT prog w) kvs)(lo:(d==cP)=false)
  (h:Q ((c7 kvs k).getD dflt) {s with toks:=s.toks+1}):aA (aq prog w) A (call (.ref q) [.int k t,dflt]) Q E s:=
 have hD:=kda_dict N hp hd
 FV (T:="dict") (N _ hq).1 (N _ hp).1 (dict_parts hd).1 (dict_parts hd).2.2 (by decide +kernel) (by decide +kernel) (by rw[dz];kernel_rfl) (by kernel_rfl) (λ_=>eW _ (by decide +kernel)) (by decide +kernel) PySem.F.entry_dict_get
  (meets_dict_get_default (gT prog w) d (j0 _ _ _ _) lo dflt A (wants Q E) s (db _ hD.mapOf h))
theorem QM(N:ba h₀ L s.heap news)(hq:(q,cg "dict.__contains__" (.ref d))∈news)(hp:(d,o)∈news)(hd:o.IsDictOf (gT prog w) kvs)(lo:(d==cP)=false)
  (h:Q (.bool (c7 kvs k).isSome) {s with toks:=s.toks+1}):aA (aq prog w) A (call (.ref q) [.int k t]) Q E s:=
 have hD:=kda_dict N hp hd
 FV (T:="dict") (N _ hq).1 (N _ hp).1 (dict_parts hd).1 (dict_parts hd).2.2 (by decide +kernel) (by decide +kernel) (by rw[dz];kernel_rfl) (by kernel_rfl) (λ_=>eW _ (by decide +kernel)) (by decide +kernel) PySem.F.entry_dict_contains
  (meets_dict_contains (gT prog w) d (j0 _ _ _ _) lo A (wants Q E) s (db _ hD.mapOf h))
noncomputable def dA(led:Bool):Obj:={cls:=.type "set",dict:=none,data:=.set #[] 0 (.fresh 0 0 led)}
theorem Jn(N:ba h₀ L s.heap news)(hq:(q,cg "set.__contains__" (.ref d))∈news)(hp:(d,dA led)∈news)
  (h:Q (.bool false) {s with toks:=s.toks+1}):aA (aq prog w) A (call (.ref q) [.int k t]) Q E s:=by
 have e:s.heap.SetOf (gT prog w) d (λ_=>false) 0:=(setObjOf_fresh (knd:=gT prog w) led).setOf (N _ hp).1 (by decide);refine FV (T:="set") (N _ hq).1 (N _ hp).1 rfl (.inr (Ox _ _ _ rfl)) (by decide +kernel) (by decide +kernel) (by rw[dz];kernel_rfl) (by kernel_rfl) (λ_=>eW _ (by decide +kernel)) (by decide +kernel) entry_set_contains ?_;unfold Builtin.«frozenset.__contains__» Mx;refine af (af (ai (ai ?_)));unfold Mw setContains;refine af (jf ?_);refine bC ?_;refine af ((gT prog w).pyHash (j0 _ _ k t) ?_);refine af (wpAny_setFind_of (s:={s with toks:=s.toks+1}) (j0 _ _ k t) (by rfl) e λr hr=>?_);refine ai ?_;rw[hr];exact ai h
theorem O4(F:Fr h₀ L s.heap m)(N:ba h₀ L s.heap news)(hp:(d,o)∈news)(hd:o.IsDictOf (gT prog w) kvs)
  (h:∀q h',Fr h₀ L h' m→ba h₀ L h' ((q,cg "dict.get" (.ref d))::news)→(∀p∈news,p.1<q)→Q (.ref q) {s with heap:=h',toks:=s.toks+1}):aA (aq prog w) A (jO (.ref d) "get" ex) Q E s:=
 wY LV d o (dict_parts hd).1 (dict_parts hd).2.1 (dict_parts hd).2.2 (N _ hp).1 (h _ _ (F.push _) (N.push F _) λp hp=>bO (N p hp).1)
theorem O3(F:Fr h₀ L s.heap m)(N:ba h₀ L s.heap news)(hp:(d,o)∈news)(hd:o.IsDictOf (gT prog w) kvs)
  (h:∀q h',Fr h₀ L h' m→ba h₀ L h' ((q,cg "dict.__contains__" (.ref d))::news)→(∀p∈news,p.1<q)→Q (.ref q) {s with heap:=h',toks:=s.toks+1}):aA (aq prog w) A (jO (.ref d) "__contains__" ex) Q E s:=
 wY LU d o (dict_parts hd).1 (dict_parts hd).2.1 (dict_parts hd).2.2 (N _ hp).1 (h _ _ (F.push _) (N.push F _) λp hp=>bO (N p hp).1)
theorem Js(F:Fr h₀ L s.heap m)(N:ba h₀ L s.heap news)(hp:(d,dA led)∈news)
  (h:∀q h',Fr h₀ L h' m→ba h₀ L h' ((q,cg "set.__contains__" (.ref d))::news)→(∀p∈news,p.1<q)→Q (.ref q) {s with heap:=h',toks:=s.toks+1}):aA (aq prog w) A (jO (.ref d) "__contains__" ex) Q E s:=
 wY IE d _ rfl rfl (.inr (Ox _ _ _ rfl)) (N _ hp).1 (h _ _ (F.push _) (N.push F _) λp hp=>bO (N p hp).1)
theorem NP{e:Sem Bool}{Q:Value×List Value→Shared→Prop}(N:ba h₀ L s.heap news)(hp:(d,o)∈news)(hd:o.IsDictOf (gT prog w) kvs)(h:Q (.builtin "dict.get",[.ref d]) s):aA (aq prog w) A (gN (.ref d) "get" e) Q E s:=kdg_method N hp hd h
theorem NU{e:Sem Bool}{Q:Value×List Value→Shared→Prop}(N:ba h₀ L s.heap news)(hp:(d,o)∈news)(hd:o.IsDictOf (gT prog w) kvs)(h:Q (.builtin "dict.setdefault",[.ref d]) s):aA (aq prog w) A (gN (.ref d) "setdefault" e) Q E s:=kob_method PySem.F.slot_dict_setdefault PySem.F.type_dict_setdefault N hp hd h
theorem QI(N:ba h₀ L s.heap news)(hp:(d,o)∈news)(hd:o.IsDictOf (gT prog w) kvs)(lo:(d==cP)=false)(h:Q ((c7 kvs k).getD dflt) {s with toks:=s.toks+1}):
  aA (aq prog w) A (call (.builtin "dict.get") [.ref d,.int k t,dflt]) Q E s:=kdg_get2 N hp hd lo (j0 _ _ _ _) _ rfl h
end
end
section
open W PyProof Rows PySem.Calls
theorem cm(N:ba h₀ L h all)(sub:∀p∈n,p∈all):ba h₀ L h n:=λp hp=>N p (sub p hp)
section
variable {prog:Program}{w:World}{A:Around}{E:VP}{env:Env}{h₀:Heap}{target:PE}{body:List Stmt}{Q:FP}{s:Shared}
theorem yF{ws:List (Addr×String)}:∀{k e:Ns→Prop},(∀its,k its→e its)→AllObj ws k→AllObj ws e:=by
 induction ws with
 | nil=>exact λh x=>h _ x
 | cons w r u=>exact λh x o ho=>u (λits=>h _) (x o ho)
theorem wC{L:Addr}{s₁:Shared}{its:Ns}{r u:(Lo)→Ns→Prop}(h:∀m n,r m n→u m n)(f:vd)(s₂:Shared)(x:mj h₀ L s₁ its r Q f s₂):mj h₀ L s₁ its u Q f s₂:=by
 cases f with
 | ret v=>exact x
 | brk=>exact x
 | next=>refine zA x λh' tk m' n' e F N o z=>?_;try clear x;exact(zQ h' tk m' n' e F N o (h _ _ z))
 | cont=>refine zA x λh' tk m' n' e F N o z=>?_;try clear x;exact(zQ h' tk m' n' e F N o (h _ _ z))
theorem BY{ws:List (Addr×String)}{keep:Ns}(xs:List Itm)(J:Nat→(Lo)→Ns→Prop)
  (turn:∀i a m news,xs[i]?=some a→J i m news→∀v h tk,a.Is v h→Fr h₀ env.locals h m→AllObj ws (λits=>ba h₀ env.locals h (its++news)→
   aA (aq prog w) A (dh target env v) (λ_ s₂=>aA (aq prog w) A (kG body env) (mj h₀ env.locals {s with heap:=h,toks:=tk} its (λm' n'=>IU keep n'∧J (i+1) m' n') Q) E s₂) E {s with heap:=h,toks:=tk}))
  (done:∀m news h tk,J xs.length m news→Fr h₀ env.locals h m→ba h₀ env.locals h news→Q .next {s with heap:=h,toks:=tk}):
  ∀k i m news,i+k=xs.length→J i m news→qR prog w A E h₀ env target body Q s ws keep (xs.drop i) m news:=by
 intro k
 induction k with
 | zero=>
  intro i m news e hJ;have:i=xs.length:=vm (cW [i,xs.length] 1 Z0 Z1 1 (.a Z0 Y0) Z1 rfl (vX e)) (cW [xs.length,i] 1 Z0 Z1 1 Z0 (.a Z1 Y0) rfl (l9 e));subst this;rw[ou];exact λh tk F N=>done m news h tk hJ F N
 | succ k u=>
  intro i m news e hJ;have hi:i<xs.length:=L2 e;rw[gw hi];intro v h tk ha F;refine yF (λits x N=>?_) (turn i xs[i] m news (by simp [hi]) hJ v h tk ha F);refine ci (x N) (λ_ s₂ y=>ci y (λf s₃ z=>wC (λm' n' q=>⟨q.1,u (i+1) m' n' (O6 e) q.2⟩) f s₃ z) λ_ _ z=>z) λ_ _ z=>z
theorem pA{ws:List (Addr×String)}(J:Nat→(Lo)→Ns→Prop)(hJ:J 0 m news)
  (turn:∀i a m news,xs[i]?=some a→J i m news→∀v h tk,a.Is v h→Fr h₀ env.locals h m→AllObj ws (λits=>ba h₀ env.locals h (its++news)→
   aA (aq prog w) A (dh target env v) (λ_ s₂=>aA (aq prog w) A (kG body env) (mj h₀ env.locals {s with heap:=h,toks:=tk} its (λm' n'=>IU keep n'∧J (i+1) m' n') Q) E s₂) E {s with heap:=h,toks:=tk}))
  (done:∀m news h tk,J xs.length m news→Fr h₀ env.locals h m→ba h₀ env.locals h news→Q .next {s with heap:=h,toks:=tk}):
  qR prog w A E h₀ env target body Q s ws keep xs m news:=by
 have:=BY (prog:=prog) (w:=w) (A:=A) (E:=E) (Q:=Q) (s:=s) (ws:=ws) (keep:=keep) xs J turn done xs.length 0 m news (vm (kP [xs.length] (.a Y0 Z0) Z0 rfl) (kP [xs.length] Z0 (.a Y0 Z0) rfl)) hJ;simpa using this
theorem xD(F:Fr h₀ L h' m')(N:ba h₀ L h' all)(r:rest m' e)
  (z:(I,u)∈all) (sub:∀p∈e,p∈all) (off:∀p∈e,p.1≠I):IT h₀ L s₁ [(I,u)] rest {s₁ with heap:=h',toks:=tk}:=
 (zQ h' tk m' e rfl F (λp hp=>(aC.mp hp).elim (λh=>N p (az.mp h▸z)) (λh=>N p (sub p h))) (λp hp q hq=>by rw[az.mp hq];exact off p hp) r)
theorem B2{nm:String}(hi:au vs ns)(J:Nat→(Lo)→Ns→Prop)(hJ:J 0 m news)
  (turn:∀i n t m news o h tk,ns[i]?=some n→J i m news→o.cls=.type nm→Fr h₀ env.locals h m→ba h₀ env.locals h ((I,o)::news)→
   aA (aq prog w) A (dh target env (.int n t)) (λ_ s₂=>aA (aq prog w) A (kG body env) (mj h₀ env.locals {s with heap:=h,toks:=tk} [(I,o)] (λm' n'=>IU keep n'∧J (i+1) m' n') Q) E s₂) E {s with heap:=h,toks:=tk})
  (done:∀m news h tk,J ns.length m news→Fr h₀ env.locals h m→ba h₀ env.locals h news→Q .next {s with heap:=h,toks:=tk}):
  qR prog w A E h₀ env target body Q s [(I,nm)] keep (vs.map .val) m news:=by
 refine pA J hJ ?_ ?_
 .intro i a m news ha hJ v h tk hv F o ho N
  rw[eS] at ha
  have hl:i<vs.length:=by
   rcases CM i vs.length with h|h
   .exact h
   .rw[CS h] at ha;cases ha
  have hn:i<ns.length:=by rw[← hi.length];exact hl
  refine cp (hi.get i ns[i] (by simp [hn])) λt z=>?_;rw[z] at ha;have u:Itm.val (.int ns[i] t)=a:=cS ha;subst u;have e:v=.int ns[i] t:=hv;subst e;exact turn i _ t m news o h tk (by simp [hn]) hJ ho F N
 .intro m news h tk hJ F N
  rw[aE,hi.length] at hJ;exact done m news h tk hJ F N
theorem zK(h:e () s'):aA (aq prog w) A (rP (.Name x px) (.ref I) v) e E s':=by
 unfold rP;exact ai h
theorem kj{x:Str}{px:Pos}{r:Addr}{e z:Int}{O J H:Tok}{n:Nat}{G:Lo}{news:Ns}
  (hh:A.handled=none) (hr:IsRange s.heap r e z 1 O J H) (B:dT e z 1=true) (hn:lI e z 1=(n:Int)) (F:Fr h₀ env.locals s.heap G) (N:ba h₀ env.locals s.heap news)
  (u:∀I:Addr,(∀p∈news,p.1<I)→qR prog w A E h₀ env (.Name x px) body Q s [(I,"range_iterator")] [] ((aV n).map λ(i:Nat)=>Jy λt=>.int (e+(i:Int)) t) G news):
  aA (aq prog w) A (rK (.ref r)) (λit s₂=>TurnsAt prog w A h₀ env (.Name x px) body Q E it s₂) E s:=by
 refine wpAny_pyIter_range hr B ?_
 have W:y5 prog w A s.heap.objs.size [s.heap.objs.size] [s.heap.objs.size] n (λi v=>i<n∧∃t,v=.int (e+i*1) t)
   (λi h=>IsRangeIter h s.heap.objs.size (e+(i:Nat)*1) ((n:Int)-(i:Nat)) 1):=(Walks.range hh _ e 1 n).bound
 refine ktu_core (tk0:=s.toks) (keep:=[]) (KTurns.ofWalks W λi v s Q E st q=>zK q) (by simp) (λi v h hp=>?_) (λi h st=>?_) (λb hb=>?_) (λb hb=>by simpa using hb) (λb hb=>?_) ?_ (λp hp hI=>?_) ?_ (F.push _) (λp hp=>⟨aG _ (N p hp).1,(N p hp).2⟩) trivial (u _ λp hp=>bO (N p hp).1)
 .refine b8 hp λhi U=>?_
  try clear hp
  obtain ⟨t,rfl⟩:=U;refine(db (Jy λt=>.int (e+(i:Int)) t) (by simp [hi]) ⟨t,by simp⟩)
 .exact(db [(s.heap.objs.size,_)] ⟨⟨rfl,rfl⟩,trivial⟩ (λp hp=>by rw[az.mp hp];exact st))
 .have Y:b=s.heap.objs.size:=by simpa using hb
  rw[Y];exact⟨zH,jj F⟩
 .exact .inl (by simpa using hb)
 .intro hI
  exact absurd F.ns.lt ((az.mp hI)▸da _)
 .exact absurd (bO (N p hp).1) ((az.mp hI)▸da _)
 .refine(?_:IsRangeIter _ _ _ _ _)
  rw[hn];simpa using a9 _ rfl
theorem qv{nm:String}(J:Nat→(Lo)→Ns→Prop)(hJ:J 0 m news)
  (turn:∀i t m news o h tk,i<n→J i m news→o.cls=.type nm→Fr h₀ env.locals h m→ba h₀ env.locals h ((I,o)::news)→
   aA (aq prog w) A (dh (.Name x px) env (.int (e+(i:Int)) t)) (λ_ s₂=>aA (aq prog w) A (kG body env) (mj h₀ env.locals {s with heap:=h,toks:=tk} [(I,o)] (λm' n'=>IU [] n'∧J (i+1) m' n') Q) E s₂) E {s with heap:=h,toks:=tk})
  (done:∀m news h tk,J n m news→Fr h₀ env.locals h m→ba h₀ env.locals h news→Q .next {s with heap:=h,toks:=tk}):
  qR prog w A E h₀ env (.Name x px) body Q s [(I,nm)] [] ((aV n).map λ(i:Nat)=>Jy λt=>.int (e+(i:Int)) t) m news:=by
 refine pA J hJ ?_ ?_
 .intro i a m news ha hJ v h tk hv F o ho N
  rw[eS] at ha
  by_cases hi:i<n
  .rw[am (by simpa using hi)] at ha
   have u:Jy (λt=>.int (e+(i:Int)) t)=a:=by simpa using ha
   subst u;obtain ⟨t,ht⟩:∃t,v=.int (e+(i:Int)) t:=hv;subst ht;exact turn i t m news o h tk hi hJ ho F N
  .rw[CS (by simpa using cL hi)] at ha
   cases ha
 .intro m news h tk hJ F N
  rw[aE,de] at hJ;exact done m news h tk hJ F N
noncomputable def O8(h₀:Heap)(L:Addr)(s:Shared)(J:(Lo)→Ns→Prop)(s₂:Shared):Prop:=∃h' tk m' nx,s₂ = {s with heap:=h',toks:=tk}∧Fr h₀ L h' m'∧ba h₀ L h' nx∧J m' nx
noncomputable def O7(h₀:Heap)(L:Addr)(s:Shared)(Q:FP)(J:Nat→(Lo)→Ns→Prop)(n:Nat)(f:vd)(s₃:Shared):Prop:=
 match f with
 | .ret v=>Q (.ret v) s₃
 | .brk=>Q .next s₃
 | _=>∃k,k<n∧O8 h₀ L s (J k) s₃
end
noncomputable def zN:List (Str×Value)→(Lo)→Lo
 | [],m=>m
 | p::r,m=>λz=>if z=p.1 then some p.2 else zN r m z
noncomputable def Gd(m:Lo):List (Str×Value)→Prop
 | []=>True
 | p::r=>m p.1=some p.2∧Gd m r
noncomputable def FB(ys:List Int)(kvs:List (Int×Value)):Prop:=(∀k∈ys,∃t,c7 kvs k=some (.int 1 t))∧∀k,k∉ys→c7 kvs k=none
theorem mM{α:Type}{l:List α}{i:Nat}{n:α}(h:l[i]?=some n):i<l.length:=(bz.mp h).1
theorem qx{ys:List Int}(h:ys.Nodup){i:Nat}{n:Int}(hn:ys[i]?=some n):n∉ys.take i:=by
 intro hm;obtain ⟨j,hj,e⟩:=List.mem_take_iff_getElem.mp hm;refine cp (bz.mp hn) λhi e2=>?_;have:=(List.getElem_inj h).mp (e.trans e2.symm);exact(qz (ia [i,j,↑(min i ys.length)] 1 Y0 (.k (-1)) 1 Z0 Z1 1 (.a Z1 Y1) Z2 1 Z2 Z0 rfl (l9 this) (ef hj) Kx))
theorem Ir{xs ys:List Int}{i:Nat}{n:Int}(hn:xs[i]?=some n)(h:n∈ys):(((xs.take (i+1)).filter (·∈ys)).length:Int)=(((xs.take i).filter (·∈ys)).length:Int)+1:=by
 rw[fu,hn];simp [h]
theorem LC{xs ys:List Int}{i:Nat}{n:Int}(hn:xs[i]?=some n)(h:n∉ys):(((xs.take (i+1)).filter (·∈ys)).length:Int)=(((xs.take i).filter (·∈ys)).length:Int):=by
 rw[fu,hn];simp [h]
theorem wF{ys:List Int}{i:Nat}{n k:Int}(hn:ys[i]?=some n)(hk:k∈ys.take (i+1))(e:k≠n):k∈ys.take i:=by
 rw[fu,hn] at hk;simpa [e] using hk
theorem ki{ys:List Int}{i:Nat}{n k:Int}(hn:ys[i]?=some n)(hk:k∉ys.take (i+1)):k≠n:=by
 rintro rfl;rw[fu,hn] at hk;simp at hk
theorem lZ{ys:List Int}{i:Nat}{k:Int}(hk:k∉ys.take (i+1)):k∉ys.take i:=λh=>hk (by rw[fu];exact zL h)
section
variable {prog:Program}{w:World}{A:Around}{E:VP}{s:Shared}{h₀:Heap}{L:Addr}{m:Lo}{news:Ns}{q d:Addr}{o:Obj}{kvs:List (Int×Value)}{k:Int}{t:Tok}{dflt:Value}{Q:VP}{x:Option Value}
theorem Jr(N:ba h₀ L s.heap news)(hq:(q,cg "dict.get" (.ref d))∈news)(hp:(d,o)∈news)(hd:o.IsDictOf (gT prog w) kvs)(lo:(d==cP)=false)(e:c7 kvs k=x)
  (h:Q (x.getD dflt) {s with toks:=s.toks+1}):aA (aq prog w) A (call (.ref q) [.int k t,dflt]) Q E s:=QN N hq hp hd lo (by rw[e];exact h)
theorem Jq(N:ba h₀ L s.heap news)(hq:(q,cg "dict.__contains__" (.ref d))∈news)(hp:(d,o)∈news)(hd:o.IsDictOf (gT prog w) kvs)(lo:(d==cP)=false)(e:c7 kvs k=x)
  (h:Q (.bool x.isSome) {s with toks:=s.toks+1}):aA (aq prog w) A (call (.ref q) [.int k t]) Q E s:=QM N hq hp hd lo (by rw[e];exact h)
theorem Jl(N:ba h₀ L s.heap news)(hp:(d,o)∈news)(hd:o.IsDictOf (gT prog w) kvs)(lo:(d==cP)=false)(e:c7 kvs k=x)(h:Q (x.getD dflt) {s with toks:=s.toks+1}):
  aA (aq prog w) A (call (.builtin "dict.get") [.ref d,.int k t,dflt]) Q E s:=QI N hp hd lo (by rw[e];exact h)
theorem pf{p:Int×Value}{r:List (Int×Value)}{j:Int} : c7 (p::r) j=if p.1=j then some p.2 else c7 r j:=by
 unfold c7;rw[List.find?_cons]
 by_cases h:p.1=j<;>simp [h]
theorem Dd{k j:Int}{v:Value}:∀{kvs:List (Int×Value)},c7 (kvs.map (λu=>if u.1=k then (u.1,v) else u)) j=if j=k then (c7 kvs j).map (λ_=>v) else c7 kvs j
 | []=>by simp [c7]
 | p::r=>by
  rw[kL,pf,pf,Dd (kvs:=r)]
  by_cases h1:p.1=k
  .by_cases h2:j=k
   .subst h2;simp [h1]
   .have h3:¬k=j:=λe=>h2 e.symm
    simp [h1,h2,h3]
  .by_cases h2:j=k
   .subst h2;simp [h1]
   .by_cases h3:p.1=j<;>simp [h1,h2,h3]
theorem De{k j:Int}{v:Value}:∀{kvs:List (Int×Value)},c7 (kvs++[(k,v)]) j=match c7 kvs j with|some x=>some x|none=>if k=j then some v else none
 | []=>by refine(?_:c7 [(k,v)] j=_);rw[pf];rfl
 | p::r=>by
  rw[fJ,pf,pf,De (kvs:=r)]
  by_cases h:p.1=j<;>simp [h]
theorem Df{kvs:List (Int×Value)}{k:Int} : (kvs.any (λe=>e.1=k))=(c7 kvs k).isSome:=by
 induction kvs with
 | nil=>rfl
 | cons p r u=>rw[List.any_cons,pf,u];by_cases h:p.1=k<;>simp [h]
theorem gH:c7 (yK kvs k v) j=if j=k then some v else c7 kvs j:=by
 unfold yK
 cases ha:kvs.any (λu=>u.1=k) with
 | true=>
  rw[if_pos rfl,Dd]
  by_cases h:j=k
  .subst h
   rw[Df] at ha;refine cp (Option.isSome_iff_exists.mp ha) λx z=>?_;simp [z]
  .simp [h]
 | false=>
  rw[if_neg GN,De]
  by_cases h:j=k
  .subst h
   rw[Df] at ha
   have:c7 kvs j=none:=by cases e:c7 kvs j with|none=>rfl|some x=>rw[e] at ha;cases ha
   simp [this]
  .have h':¬k=j:=λe=>h e.symm
   simp only[if_neg h,if_neg h'];cases c7 kvs j<;>rfl
theorem qu:(yK kvs k v).length≤kvs.length+1:=by
 unfold yK;split<;>simp
end
end
section
open W PyProof.Rows
theorem RI:Nonempty World:=⟨⟨λ_ _=>0,{strHash:=λ_=>0,shareClass:=λ_=>0,mergeTok:=λt=>t,idOf:=λ_=>0,idOfShared:=λ_ _=>0,followText:=λ_=>true,idOfImm:=λ_=>0}⟩⟩
noncomputable def PK{P:World→Prop}{C:Prop}(_:(∀w,P w)→C):World:=@Classical.epsilon _ RI λw=>¬P w
theorem QP{P:World→Prop}{C:Prop}(f:(∀w,P w)→C)(u:World)(e:u=PK f)(h:P u):C:=
 f λw=>Classical.byContradiction λhn=>by
  rw[e] at h;exact @Classical.epsilon_spec _ (λw=>¬P w) ⟨w,hn⟩ h
noncomputable def R5(w:World):Prop:=w=PK hd
theorem Rx:∃w,R5 w:=⟨_,rfl⟩
noncomputable def W0:World:=Classical.choose Rx
theorem Sn:W0=PK hd:=Classical.choose_spec Rx
end
section
open W PyProof Rows PySem.Calls
theorem Hh(h1:0≤a)(h2:a≤b)(h3:b≤32):dT a b 1=true:=by
 have e:lI a b 1=((b-a).toNat:Int):=pX a b;unfold dT Builtin.Range.rangeFitsLong;rw[e];simp;omega
noncomputable def qM(xs ys:List Int)(a b k:Int):Prop:=∀t:Nat,(t:Int)<k→∃v,xs[(a+t).toNat]?=some v∧ys[(b+t).toNat]?=some v
theorem wo:qM xs ys a b 0:=λt h=>absurd h (λhh=>MJ hh j7)
theorem pJ(h:qM xs ys a b k)(hk:0≤k)(h1:xs[(a+k).toNat]?=some v)(h2:ys[(b+k).toNat]?=some v):qM xs ys a b (k+1):=by
 intro t ht
 by_cases e:(t:Int)=k
 .exact⟨v,by rw[e];exact h1,by rw[e];exact h2⟩
 .exact h t (by lia)
theorem Cn(h:qM xs ys a b k)(h1:xs[(a-1).toNat]?=some v)(h2:ys[(b-1).toNat]?=some v):qM xs ys (a-1) (b-1) (k+1):=by
 intro t ht
 cases t with
 | zero=>exact⟨v,by simpa using h1,by simpa using h2⟩
 | succ t=>
  obtain ⟨w,a1,a2⟩:=h t (cW [t,k] 1 (.a Z0 Y1) Z1 1 (.a (.a Z0 Y1) Y1) (.a Z1 Y1) rfl ht);exact⟨w,by rw[show (a-1+((t+1:Nat):Int))=a+t by exact ny (kP [a,t] (.a (.s Z0 Y1) (.a Z1 Y1)) (.a Z0 Z1) rfl) (kP [a,t] (.a Z0 Z1) (.a (.s Z0 Y1) (.a Z1 Y1)) rfl)];exact a1,by rw[show (b-1+((t+1:Nat):Int))=b+t by exact ny (kP [b,t] (.a (.s Z0 Y1) (.a Z1 Y1)) (.a Z0 Z1) rfl) (kP [b,t] (.a Z0 Z1) (.a (.s Z0 Y1) (.a Z1 Y1)) rfl)];exact a2⟩
noncomputable def uY(xs ys:List Int)(alo blo bhi:Int)(i:Nat):Prop:=∀p:Nat,p<i→∀q:Int,blo≤q→q<bhi→xs[(alo+p).toNat]?≠ys[q.toNat]?
noncomputable def BI(xs ys:List Int)(alo blo bhi:Int)(i:Nat)(bi bj bs:Int):Prop:=
 (bs=0∧bi=alo∧bj=blo∧uY xs ys alo blo bhi i)∨(1≤bs∧alo≤bi∧bi+bs≤alo+i∧blo≤bj∧bj+bs≤bhi∧qM xs ys bi bj bs)
noncomputable def JL(xs ys:List Int)(alo blo bhi:Int)(i:Nat)(kvs:List (Int×Value)):Prop:=
 ∀j x,c7 kvs j=some x→∃k t,x=.int k t∧1≤k∧k≤i∧blo≤j-k+1∧j<bhi∧qM xs ys (alo+i-k) (j-k+1) k
theorem wK:JL xs ys alo blo bhi i []:=λj x h=>by cases h
theorem FT:BI xs ys alo blo bhi 0 alo blo 0:=.inl ⟨rfl,rfl,rfl,λp hp=>absurd hp (MX _)⟩
theorem wZ(h:BI xs ys alo blo bhi i bi bj bs)(hn:∀q:Int,blo≤q→q<bhi→xs[(alo+i).toNat]?≠ys[q.toNat]?):BI xs ys alo blo bhi (i+1) bi bj bs:=by
 rcases h with ⟨h1,h2,h3,h4⟩|⟨h1,h2,h3,h4⟩
 .refine .inl ⟨h1,h2,h3,λp hp q a b=>?_⟩
  by_cases e:p=i
  .subst e;exact hn q a b
  .exact h4 p (Pr hp e) q a b
 .exact .inr ⟨h1,h2,by exact cW [bi,bs,alo,i] 1 (.a Z0 Z1) (.a Z2 (.a Z3 Y1)) 1 (.a Z0 Z1) (.a Z2 Z3) rfl h3,h4⟩
theorem BK{xs ys:List Int}{alo blo bhi:Int}{i:Nat}{v:Int}(u:xs[(alo+i).toNat]?=some v)(hn:v∉ys):∀q:Int,blo≤q→q<bhi→xs[(alo+i).toNat]?≠ys[q.toNat]?:=by
 intro q _ _ e;rw[u] at e;exact hn (cq e.symm)
theorem xI{xs ys:List Int}{alo blo bhi:Int}{i j:Nat}{v:Int}(u:ys.Nodup)(h0:0≤blo)(B:xs[(alo+i).toNat]?=some v)(z:ys[j]?=some v)(hj:(j:Int)<blo∨bhi≤(j:Int)):∀q:Int,blo≤q→q<bhi→xs[(alo+i).toNat]?≠ys[q.toNat]?:=by
 intro q h1 h2 e;rw[B] at e;have:=(tX (bz.mp z).1 u).mp (z.trans e);lia
theorem ID(h:BI xs ys alo blo bhi i bi bj bs)(hk:1≤k)(hb:¬bs<k):BI xs ys alo blo bhi (i+1) bi bj bs:=by
 rcases h with ⟨h1,h2,h3,h4⟩|⟨h1,h2,h3,h4⟩
 .exact(qz (ia [bs,k] 1 Y0 (.k (-1)) 1 Z0 Y0 1 Z1 Z0 1 Y1 Z1 rfl (gX h1) (Ps hb) hk)).elim
 .exact .inr ⟨h1,h2,by exact cW [bi,bs,alo,i] 1 (.a Z0 Z1) (.a Z2 (.a Z3 Y1)) 1 (.a Z0 Z1) (.a Z2 Z3) rfl h3,h4⟩
theorem LS{xs ys:List Int}{alo blo bhi:Int}{i:Nat}{j k:Int}(hk:1≤k)(e:k≤i+1)(hb:blo≤j-k+1)(hj:j<bhi)(d:qM xs ys (alo+i+1-k) (j-k+1) k):
  BI xs ys alo blo bhi (i+1) (alo+i-k+1) (j-k+1) k:=
 .inr ⟨hk,by exact cW [alo,i,k] 1 Z0 (.a (.s (.a Z0 Z1) Z2) Y1) 1 Z2 (.a Z1 Y1) rfl e,by exact kP [alo,i,k] (.a (.a (.s (.a Z0 Z1) Z2) Y1) Z2) (.a Z0 (.a Z1 Y1)) rfl,hb,by exact cW [j,k,bhi] 1 (.a (.a (.s Z0 Z1) Y1) Z1) Z2 1 (.a Z0 Y1) Z2 rfl hj,by rw[show alo+i-k+1=alo+i+1-k by exact ny (kP [alo,i,k] (.a (.s (.a Z0 Z1) Z2) Y1) (.s (.a (.a Z0 Z1) Y1) Z2) rfl) (kP [alo,i,k] (.s (.a (.a Z0 Z1) Y1) Z2) (.a (.s (.a Z0 Z1) Z2) Y1) rfl)];exact d⟩
theorem new_one{xs ys:List Int}{alo:Int}{i j:Nat}{v:Int}(u:xs[(alo+i).toNat]?=some v)(e:ys[j]?=some v):qM xs ys (alo+i+1-(0+1)) ((j:Int)-(0+1)+1) (0+1):=
 pJ wo (b7 0) (by rw[show alo+i+1-(0+1)+0=alo+i by exact ny (kP [alo,i] (.a (.s (.a (.a Z0 Z1) Y1) (.a Y0 Y1)) Y0) (.a Z0 Z1) rfl) (kP [alo,i] (.a Z0 Z1) (.a (.s (.a (.a Z0 Z1) Y1) (.a Y0 Y1)) Y0) rfl)];exact u) (by rw[show ((j:Int)-(0+1)+1+0).toNat=j by exact vm (cW [↑(((j:Int)-(0+1)+1+0).toNat),j] 1 Z0 Z1 1 Z0 (.a (.a (.s Z1 (.a Y0 Y1)) Y1) Y0) rfl (jb (cW [j] 1 Y0 (.a (.a (.s Z0 (.a Y0 Y1)) Y1) Y0) 1 Y0 Z0 rfl j7))) (cW [j,↑(((j:Int)-(0+1)+1+0).toNat)] 1 Z0 Z1 1 (.a (.a (.s Z0 (.a Y0 Y1)) Y1) Y0) Z1 rfl tq)];exact e)
theorem El{xs ys:List Int}{alo:Int}{i j:Nat}{v k:Int}(u:xs[(alo+i).toNat]?=some v)(e:ys[j]?=some v)(hk:1≤k)(d:qM xs ys (alo+i-k) ((j:Int)-1-k+1) k):qM xs ys (alo+i+1-(k+1)) ((j:Int)-(k+1)+1) (k+1):=by
 have e1:alo+i+1-(k+1)=alo+i-k:=ny (kP [alo,i,k] (.s (.a (.a Z0 Z1) Y1) (.a Z2 Y1)) (.s (.a Z0 Z1) Z2) rfl) (kP [alo,i,k] (.s (.a Z0 Z1) Z2) (.s (.a (.a Z0 Z1) Y1) (.a Z2 Y1)) rfl);have e2:(j:Int)-(k+1)+1=(j:Int)-1-k+1:=ny (kP [j,k] (.a (.s Z0 (.a Z1 Y1)) Y1) (.a (.s (.s Z0 Y1) Z1) Y1) rfl) (kP [j,k] (.a (.s (.s Z0 Y1) Z1) Y1) (.a (.s Z0 (.a Z1 Y1)) Y1) rfl);rw[e1,e2];exact pJ d (cW [k] 1 Y0 Z0 1 Y1 Z0 rfl hk) (by rw[show alo+i-k+k=alo+i by exact ny (kP [alo,i,k] (.a (.s (.a Z0 Z1) Z2) Z2) (.a Z0 Z1) rfl) (kP [alo,i,k] (.a Z0 Z1) (.a (.s (.a Z0 Z1) Z2) Z2) rfl)];exact u) (by rw[show ((j:Int)-1-k+1+k).toNat=j by exact vm (cW [↑(((j:Int)-1-k+1+k).toNat),j,k] 1 Z0 Z1 1 Z0 (.a (.a (.s (.s Z1 Y1) Z2) Y1) Z2) rfl (jb (cW [j,k] 1 Y0 (.a (.a (.s (.s Z0 Y1) Z1) Y1) Z1) 1 Y0 Z0 rfl j7))) (cW [j,↑(((j:Int)-1-k+1+k).toNat),k] 1 Z0 Z1 1 (.a (.a (.s (.s Z0 Y1) Z2) Y1) Z2) Z1 rfl tq)];exact e)
theorem KZ{xs ys:List Int}{alo blo bhi:Int}{i:Nat}{j k:Int}{t:Tok}(hk:1≤k)(z:k≤i+1)(hb:blo≤j-k+1)(hj:j<bhi)(d:qM xs ys (alo+i+1-k) (j-k+1) k):JL xs ys alo blo bhi (i+1) (yK [] j (.int k t)):=by
 intro q x hq;rw[gH] at hq
 by_cases e:q=j
 .rw[if_pos e] at hq
  subst e;have u:=cS hq;exact⟨k,t,u.symm,hk,by exact cW [k,i] 1 Z0 (.a Z1 Y1) 1 Z0 (.a Z1 Y1) rfl z,hb,hj,by rw[show alo+((i+1:Nat):Int)-k=alo+i+1-k by exact ny (kP [alo,i,k] (.s (.a Z0 (.a Z1 Y1)) Z2) (.s (.a (.a Z0 Z1) Y1) Z2) rfl) (kP [alo,i,k] (.s (.a (.a Z0 Z1) Y1) Z2) (.s (.a Z0 (.a Z1 Y1)) Z2) rfl)];exact d⟩
 .rw[if_neg e] at hq;cases hq
noncomputable def yI(ys:List Int)(kvs:List (Int×Value))(news:Ns):Prop:=
 (∀k,k∉ys→c7 kvs k=none)∧∀(j:Nat) (n:Int),ys[j]?=some n→∃(a:Addr) (t:Tok) (ep:Nat),c7 kvs n=some (.ref a)∧(a,listOf #[.int (j:Int) t] ep)∈news
theorem lf{xs:List Int}{i:Nat}(h:i<xs.length):xs[i]?=some (xs.getD i 0):=by simp [List.getD,h]
theorem Ek(N:ba h₀ L h all)(hm:p∈all):ba h₀ L h (p::all):=λq hq=>(ak.mp hq).elim (λe=>e▸N p hm) (N q)
theorem NE{l:Ns}{x d:Addr}{o:Obj}(h:∀p∈l,p.1<d)(m:(x,o)∈l):x≠d:=aB (h _ m)
theorem NF{l:Ns}{x d:Addr}{o:Obj}(h:∀p∈l,p.1<d)(m:(x,o)∈l):d≠x:=(aB (h _ m)).symm
theorem zJ{l:Ns}{p:Addr×Obj}{d:Addr}(h:∀p∈l,p.1<d)(m:p∈l):p.1<d:=h _ m
theorem EJ{d:Addr}{l:Ns}(h:∀p∈l,p.1<d):∀p∈l,p.1≠d:=λp hp=>aB (h p hp)
theorem RQ{l:Ns}{p:Addr×Obj}{d:Addr}(h:∀p∈l,p.1<d)(m:p∈l):p.1≠d:=aB (h _ m)
noncomputable def L9(P:Prop):Prop:=P
theorem sj{P:Prop}(h:L9 P):P:=h
theorem iH{P:Prop}(h:P):L9 P:=h
theorem pL(h:BI xs ys alo blo bhi (ahi-alo).toNat bi bj bs)(h1:alo≤ahi)(h2:blo≤bhi):alo≤bi∧bi+bs≤ahi∧blo≤bj∧bj+bs≤bhi∧0≤bs:=by
 rcases h with ⟨a,b,c,_⟩|⟨a,b,c,d,e,_⟩
 .rw[a,b,c,iY,iY]
  exact⟨b7 _,h1,b7 _,h2,b7 _⟩
 .rw[dF (dX h1),gi alo,nh] at c
  exact⟨b,c,d,e,cF (by decide) a⟩
theorem IC{xs ys:List Int}{alo blo bhi:Int}{i:Nat}{bi bj bs:Int}(h:BI xs ys alo blo bhi i bi bj bs)(h1:alo<bi)(h2:blo<bj)(z:(bi-1).toNat<xs.length)(u:(bj-1).toNat<ys.length)(e:xs.getD (bi-1).toNat 0=ys.getD (bj-1).toNat 0):BI xs ys alo blo bhi i (bi-1) (bj-1) (bs+1):=by
 rcases h with ⟨a,b,c,_⟩|⟨a,b,c,d,f,g⟩
 .exact pd (PA h2 (Eq.symm c))
 .refine .inr ⟨by exact iX (Qr a),by exact cW [alo,bi] 1 Z0 (.s Z1 Y1) 1 (.a Z0 Y1) Z1 rfl h1,by exact cW [bi,bs,alo,i] 1 (.a (.s Z0 Y1) (.a Z1 Y1)) (.a Z2 Z3) 1 (.a Z0 Z1) (.a Z2 Z3) rfl c,by exact cW [blo,bj] 1 Z0 (.s Z1 Y1) 1 (.a Z0 Y1) Z1 rfl h2,by exact cW [bj,bs,bhi] 1 (.a (.s Z0 Y1) (.a Z1 Y1)) Z2 1 (.a Z0 Z1) Z2 rfl f,Cn g (lf z) (by rw[e];exact lf u)⟩
theorem FU{xs ys:List Int}{alo ahi blo bhi:Int}{bi bj bs:Int}(h:BI xs ys alo blo bhi (ahi-alo).toNat bi bj bs)(h0:alo≤ahi)(h1:bi+bs<ahi)(h2:bj+bs<bhi)(z:(bi+bs).toNat<xs.length)(u:(bj+bs).toNat<ys.length)(e:xs.getD (bi+bs).toNat 0=ys.getD (bj+bs).toNat 0):BI xs ys alo blo bhi (ahi-alo).toNat bi bj (bs+1):=by
 rcases h with ⟨a,b,c,_⟩|⟨a,b,c,d,f,g⟩
 .refine .inr ⟨by exact cW [bs] 1 Y1 (.a Z0 Y1) 1 Y0 Z0 rfl (iu a),by exact qd (Eq.symm b),by exact eV [bi,bs,alo,↑((ahi-alo).toNat),ahi] 1 (.a Z0 (.a Z1 Y1)) (.a Z2 Z3) 1 (.a (.a Z0 Z1) Y1) Z4 1 (.s Z4 Z2) Z3 rfl h1 tq,by exact qd (Eq.symm c),by exact cW [bj,bs,bhi] 1 (.a Z0 (.a Z1 Y1)) Z2 1 (.a (.a Z0 Z1) Y1) Z2 rfl h2,pJ (by rw[a];exact wo) (qd (Eq.symm a)) (lf z) (by rw[e];exact lf u)⟩
 .refine .inr ⟨by exact iX (Qr a),by exact b,by exact eV [bi,bs,alo,↑((ahi-alo).toNat),ahi] 1 (.a Z0 (.a Z1 Y1)) (.a Z2 Z3) 1 (.a (.a Z0 Z1) Y1) Z4 1 (.s Z4 Z2) Z3 rfl h1 tq,by exact d,by exact cW [bj,bs,bhi] 1 (.a Z0 (.a Z1 Y1)) Z2 1 (.a (.a Z0 Z1) Y1) Z2 rfl h2,pJ g (cW [bs] 1 Y0 Z0 1 Y1 Z0 rfl a) (lf z) (by rw[e];exact lf u)⟩
section
variable {prog:Program}{w:World}{A:Around}{E:VP}{env:Env}{h₀:Heap}{target:PE}{body:List Stmt}{Q:FP}{s:Shared}
theorem Ck(hi:au vs ns)(J:Nat→(Lo)→Ns→Prop)(hJ:J 0 m news)
  (turn:∀i n t u T m news o1 o2 h tk,ns[i]?=some n→J i m news→o1.cls=.type c1→o2.cls=.type c2→IsTup h T #[.int (i:Int) t,.int n u]→Fr h₀ env.locals h m→ba h₀ env.locals h ((O,o1)::(H,o2)::news)→
   aA (aq prog w) A (dh target env (.ref T)) (λ_ s₂=>aA (aq prog w) A (kG body env) (mj h₀ env.locals {s with heap:=h,toks:=tk} [(O,o1),(H,o2)] (λm' n'=>IU keep n'∧J (i+1) m' n') Q) E s₂) E {s with heap:=h,toks:=tk})
  (done:∀m news h tk,J ns.length m news→Fr h₀ env.locals h m→ba h₀ env.locals h news→Q .next {s with heap:=h,toks:=tk}):
  qR prog w A E h₀ env target body Q s [(O,c1),(H,c2)] keep (enumItems 0 vs) m news:=by
 refine pA J hJ ?_ ?_
 .intro i a m news ha hJ v h tk hv F o1 B o2 z N
  have hl:i<vs.length:=by
   have:=(bz.mp ha).1
   rwa [enumItems_length] at this
  have hn:i<ns.length:=by rw[← hi.length];exact hl
  obtain ⟨u,U⟩:=hi.get i ns[i] (by simp [hn]);have e:=enumItems_get vs 0 i U;rw[e] at ha;have G:=cS ha;subst G;obtain ⟨T,t,rfl,hT⟩:∃T t,v=.ref T∧IsTup h T #[.int ((0+i:Nat):Int) t,.int ns[i] u]:=hv;rw[ik] at hT;exact turn i _ t u T m news o1 o2 h tk (by simp [hn]) hJ B z hT F N
 .intro m news h tk hJ F N
  rw[enumItems_length,hi.length] at hJ;exact done m news h tk hJ F N
theorem Dh(F:Fr h₀ L h' m')(N:ba h₀ L h' all)(r:rest m' u)
  (J:(H,o1)∈all) (B:(G,o2)∈all) (sub:∀p∈u,p∈all) (off:∀p∈u,p.1≠H) (z:∀p∈u,p.1≠G):IT h₀ L s₁ [(H,o1),(G,o2)] rest {s₁ with heap:=h',toks:=tk}:=by
 refine⟨h',tk,m',u,rfl,F,λp hp=>?_,λp hp q hq=>?_,r⟩
 .rcases ak.mp hp with e|hp
  .exact e▸N _ J
  .rcases ak.mp hp with e|hp
   .exact e▸N _ B
   .exact N _ (sub p hp)
 .rcases ak.mp hq with e|hq
  .exact e▸off p hp
  .exact az.mp hq▸z p hp
end
end
section
open W PyProof.Rows
open PySem.Builtin
noncomputable def dW(dx:Addr)(a b c:Int)(ta tb tc:Tok):Obj:={cls:=.ref 171,dict:=some dx,data:=.seq #[.int a ta,.int b tb,.int c tc]}
section
variable {prog:Program}{w:World}{A:Around}{K:Frag}{C f p:Addr}{R:Result→Shared→Prop}{h h₀:Heap}{g:Array GenState}{d:Drawn}{t:Nat}{os:OsState}{L:Addr}{m:Lo}
theorem pr{sl:Array (Option Value)}(X:K.In h)(hC:K.lookup C=some ⟨oc,od,.cls cd,sl⟩)(e4:cd.mro.isEmpty=false)(e3:(sl.toList[4]?).join=some Value.none):iQ M h (vI (.ref C)) none:=by
 have hc:GA K C=some cd:=by unfold GA;rw[hC]
 have hm:iQ M h (mroOf (.ref C)) cd.mro:=(y6 X hc).andThen .now
 obtain ⟨c,l,hl⟩:∃c l,cd.mro=c::l:=by cases q:cd.mro with|nil=>rw[q] at e4;cases e4|cons c l=>exact(rp c l rfl)
 intro A Q E s k q;unfold vI;refine af (hm A _ E s k ?_);rw[hl,wz];refine af (af (af (af (wpAny_loadPart (k _ _ (X _ _ hC)) (ai ?_)))));rw[← kg,e3];exact ai (ai (ai q))
theorem Ez{sl:Array (Option Value)}(F:Fr h₀ L h m)(u:K.In h₀)(hC:K.lookup C=some ⟨oc,od,.cls cd,sl⟩)(e4:cd.mro.isEmpty=false)(e3:(sl.toList[4]?).join=some Value.none)
  (e7:specialIn K (.ref C) "__call__"=some (some (.builtin "type.__call__"))) (e8:instIn K (.ref C) (.type "type")=some true)
  (k1:typeIn K (.ref C)=some (.type "type")) (k2:readsIn K C (.type "type")=true) (k3:findCls K (.ref C) (.type "type") "__new__"=some (.get (.builtin "staticmethod.__get__") (.ref p) .none (.ref C))) (k4:recIn K p "staticmethod"=some (fv::r9)) (k5:qQ fv=true)
  (k6:ls K C (.ref C)=some true) (k7:ls K C (.type "object")=some true) (H:∀a,g5 "object.__init__" ⟨a::rest,[]⟩) (B:rest≠[])
  (hi:fK K (.ref C) "__init__"=some (some (.builtin "object.__init__")))
  (hq:aA (aq prog w) (A.under (.builtin "type.__call__" ⟨.ref C::rest,[]⟩)) (call fv (.ref C::rest)) (λv s'=>∃x,v=.ref x∧iQ (aq prog w) s'.heap (rH (.ref x)) (.ref C)∧K.In s'.heap∧R (.ok (.ret (.ref x))) s') (λe s'=>R (.error e) s') ⟨h,g,d,t+1,os⟩):
  dY (aq prog w) A (.call (.ref C) ⟨rest,[]⟩) R ⟨h,g,d,t,os⟩:=by
 have X:=u.keeps F.keep
 have hc:GA K C=some cd:=by unfold GA;rw[hC]
 have call:=looks_specialIn (M:=aq prog w) X e7;have U:=looks_instIn (M:=aq prog w) X e8;have made:=pr (M:=aq prog w) X hC e4 e3;refine As ?_;refine(?_:aA _ _ (callAny (.ref C) _) _ _ _);refine nd_load (X _ _ hC) ?_;refine(?_:aA _ _ (C5 (.ref C) _) _ _ _);unfold C5;refine af (call.at ?_);dsimp only;rw[tc_bind];refine af (ai (af (ai ?_)));refine ai (a:=Fin.again (.call (.builtin "type.__call__") ⟨.ref C::rest,[]⟩)) (And.intro rfl ?_);refine Gz (eW _ (by decide +kernel)) entry_typeCall (rL tc_kind tc_split U (tc_args _ _ _) ?_);unfold Builtin.«type.__call__»;have hm:iQ (aq prog w) h (mroOf (.ref C)) cd.mro:=(y6 X hc).andThen .now;have aa:=made
 repeat (first|(with_reducible refine cls_sm (s:=⟨h,g,d,t,os⟩) F u k1 k2 k3 k4 k5 ?_)|(with_reducible refine ci hq (λv s' z=>sj ?_) λ_ _ z=>z)|(with_reducible refine PySem.W.KFB.if_not e4 ?_)|lk)
 refine iH ?_;refine sJ z λx O ab J hr=>?_
 try clear z
 subst O;obtain ⟨h',g',d',t',ar⟩:=s';have ap:=kb (M:=aq prog w) J k6;have ah:=kb (M:=aq prog w) J k7;have as:=ju (M:=aq prog w) J hi;have Y:=pr (M:=aq prog w) J hC e4 e3;have aj:=oi_bind (.ref x);have G:iQ (aq prog w) h' (jZ (.ref x) (.type "object")) true:=ab.andThen ah
 repeat (first|(with_reducible refine bV aj ?_)|(with_reducible refine eG ?_)|lk)
 refine fX oi_plain entry_oi (@rL (aq prog w) _ _ _ "object.__init__" "object" "__init__" (.ref x) rest [] _ oi_kind oi_split G (H _) ?_);unfold Builtin.«object.__init__»
 cases rest with
 | nil=>exact absurd rfl B
 | cons r0 rr=>
  repeat (first|(with_reducible refine PySem.W.KFB.if_not (bne_self_eq_false _) ?_)|lk)
  exact hr
theorem AH(F:Fr h₀ L s.heap m)(B:K.In h₀)
  (G:fK K (.type "type") "__getattribute__"=some (some (.builtin "type.__getattribute__"))) (hs:subIn K (.type "type") (.type "type")=some true)
  (e:findCls K (.type "tuple") (.type "type") (PySem.Str.ofString "__new__")=some (.val (.builtin "tuple.__new__")))
  (h:Q (.builtin "tuple.__new__",[]) {s with toks:=s.toks+1}):
  aA (aq prog w) A (gN (.type "tuple") (PySem.Str.ofString "__new__") O) Q E s:=by
 have X:=B.keeps F.keep
 have u:yL (.type "tuple")=ck none:=by unfold yL;dsimp only;rw[show Manifest.isStub "tuple"=false by decide +kernel];rfl
 have ht:rH (.type "tuple")=ck (.type "type"):=by first|rfl|kernel_rfl
 have H:iQ (aq prog w) s.heap (rH (.type "tuple")) (.type "type"):=rS ht;unfold gN tP;refine af (af (H.here ((ju X G).here ?_)));dsimp only;rw[if_pos canon_tga];refine af (ci (Q:=λv=>Q (v,[])) (E:=E) ?_ (λ_ _ z=>ai z) λ_ _ z=>z);have J:iQ (aq prog w) s.heap (yL (.type "tuple")) none:=rS u;exact cls_open X J H G (looks_hook X (r:=none) (by rfl)) hs e (ai (by refine(?_:aA _ _ (handedOut _) _ _ _);rw[handedOut_of (by decide +kernel)];exact ai h))
theorem Am{sl:Array (Option Value)}(X:K.In h)(hC:K.lookup C=some ⟨oc,od,.cls cd,sl⟩)(e4:cd.mro=[.ref C,.type "tuple",.type "object"])(e3:(sl.toList[4]?).join=some Value.none)(e5:cd.bases=[.type "tuple"]):iQ M h (My (.ref C)) (.type "tuple"):=by
 have hc:GA K C=some cd:=by unfold GA;rw[hC]
 have hm:iQ M h (mroOf (.ref C)) cd.mro:=(y6 X hc).andThen .now;have made:=pr (M:=M) X hC (by rw[e4];rfl) e3
 have e:Builtin.Slots.bestBase [.type "tuple"]=ck (.type "tuple"):=by kernel_rfl
 have mt:vI (.type "tuple")=ck (some "tuple.__new__"):=PySem.F.called_tuple.made;intro A Q E s k q;unfold My;refine af (hm A _ E s k ?_);rw[e4,wz];refine af (af (af (made A _ E s k ?_)));refine(?_:aA _ _ (classData C >>= _) _ _ _);refine af ((y6 X hc) A _ E s k ?_);rw[e5,e];refine af (ai ?_);refine ai ?_;refine(?_:aA _ _ (GL [oX "tuple",oX "object"] _ _) _ _ _);rw[wz];refine af (af (bV mt ?_));exact ai (ai (ai q))
theorem AI{sl:Array (Option Value)}(F:Fr h₀ L s.heap m)(N:ba h₀ L s.heap news)(J:K.In h₀)(hT:IsTup s.heap T items)
  (hC:K.lookup C=some ⟨oc,od,.cls cd,sl⟩) (e4:cd.mro=[.ref C,.type "tuple",.type "object"]) (e3:(sl.toList[4]?).join=some Value.none) (e5:cd.bases=[.type "tuple"]) (k6:ls K C (.type "tuple")=some true)
  (e6:cd.hasDel=false) (hsz:items.size≤ec) (U:iQ (aq prog w) s.heap (isType (.ref C)) true) (aa:fK K (.ref C) "__init__"=some (some (.builtin "object.__init__")))
  (h:∀h' r dx,Fr h₀ L h' m→ba h₀ L h' ((r,{cls:=.ref C,dict:=some dx,data:=.seq items})::news)→(∀p∈news,p.1<r)→Q (.ref r) {s with heap:=h'}):
  aA (aq prog w) A (call (.builtin "tuple.__new__") [.ref C,.ref T]) Q E s:=by
 have X:=J.keeps F.keep
 have hc:GA K C=some cd:=by unfold GA;rw[hC]
 have made:=pr (M:=aq prog w) X hC (by rw[e4];rfl) e3;have base:=Am (M:=aq prog w) X hC e4 e3 e5;have B:=kb (M:=aq prog w) X k6;have G:=ju (M:=aq prog w) X aa;have mt:iQ (aq prog w) s.heap (vI (.type "tuple")) (some "tuple.__new__"):=rS PySem.F.called_tuple.made
 have kd:Mn "tuple.__new__"=some .builtinFn:=by decide +kernel
 have sp:splitId "tuple.__new__"=some ("tuple","__new__"):=by decide +kernel
 have H:(match iK "tuple.__new__" with|some O=>xu "tuple.__new__" O ⟨[.ref C,.ref T],[]⟩|none=>ck ())=ck ():=by kernel_rfl
 refine fM hT λoT Y ah z=>?_
 try clear hT
 refine cp z λnT ab=>?_
 try clear z
 obtain ⟨hp,g,d,t,os⟩:=s;dsimp only at X made base B G mt U;refine eG (Gz (eW _ (by decide +kernel)) PySem.F.entry_tuple_new ?_);unfold yP;rw[kd,sp];generalize iK "tuple.__new__"=sg at H ⊢
 repeat (first|((with_reducible refine PySem.W.KFB.if_so ?zc ?_);case zc=>rfl)|((with_reducible refine PySem.W.KFB.if_not ?zc ?_);case zc=>rfl)|lk)
 refine bV (a:=()) (by cases sg<;>exact H) ?_;rw[show A.under (pR "tuple.__new__" ⟨[.ref C,.ref T],[]⟩)=A.in1 from dm (by decide +kernel) _];unfold Builtin.«tuple.__new__»
 repeat (first|(with_reducible refine wpAny_collect_seq T (.inr rfl) Y ah ab (λh1 u=>sj ?_) hsz)|((with_reducible refine PySem.W.KFB.if_so ?zc ?_);case zc=>rfl)|((with_reducible refine PySem.W.KFB.if_not ?zc ?_);case zc=>rfl)|lk)
 refine iH ?_;have aj:=X _ _ hC;refine af (ai (af (Mg ?_)));refine af ?_;unfold newObj;dsimp only;rw[if_neg (by simpa using hsz)];unfold newObjAsIs classHasDel;refine af (Mg (af (af (rF (aG _ (aG _ (u _ _ aj))) (ai ?_)))));rw[e6];refine ai (ai ?_);have F1:Fr h₀ L h1 m:=F.keptAll u;have N1:ba h₀ L h1 news:=N.grown u;have N2:=(N1.push F1 {cls:=.type "dict",data:=.dict #[]}).push (F1.push _) {cls:=.ref C,dict:=some h1.objs.size,data:=.seq items}
 have ei:items.toList.toArray=items:=by simp
 refine(?_:Q _ _);rw[ei];exact h _ _ h1.objs.size ((F1.push _).push _) (λp hp=>N2 p (by rcases ak.mp hp with e|hp;exact e▸zH;exact zT (zT hp))) (λp hp=>by rw[gq];exact aW (bO (N1 p hp).1))
theorem x5{M:Model}{s:Shared}{oc:Value}{od:Option Addr}{cd:ClassData}{sl:Array (Option Value)}(F:Fr h₀ L s.heap m)(e:K.In h₀)(hC:K.lookup C=some ⟨oc,od,.cls cd,sl⟩):iQ M s.heap (isType (.ref C)) true:=by
 intro A' u E' s' k q;unfold isType loadHead;exact af (wpAny_loadPart (k _ _ (e.keeps F.keep _ _ hC)) (ai q))
end
end
section
open W PyProof.Rows
open PySem.Builtin
section
variable {prog:Program}{w:World}{A:Around}{E:VP}{s:Shared}{it t:Addr}{i nl:Nat}{items:Array Value}{ol:Obj}{Q:Option Value→Shared→Prop}
theorem rb(hh:A.handled=none)(e:s.heap.IsTupleIter it t i)(u:s.heap.get? t=some ol)(z:ol.data=.seq items nl)
  (G:∀x h',items[i]?=some x→h'.IsTupleIter it t (i+1)→Heap.SameBut it s.heap h'→Q (some x) {s with heap:=h'})
  (hN:∀h',items[i]?=none→C7 it s.heap h'→Q none {s with heap:=h'}):aA (aq prog w) A (kE (.ref it)) Q E s:=by
 refine fM (id e) λo ho hc hd=>?_;unfold kE
 refine af (Ge (ie (name:=ae "__next__") e.typeIs PySem.F.slot_tuple_iterator_next
  (eE PySem.F.slot_tuple_iterator_next e.typeIs PySem.F.entry_tuple_iterator_next ?_ (PySem.F.args_tuple_iterator_next_1 _))))
 refine af (bV (a:=(.ref it,[])) (by kernel_rfl) ?_);refine af (sQ ho hd (x:=.ref t) rfl ?_);rw[if_neg (show ¬((bG t==Value.none)=true) from GN)];refine af (sQ ho hd (x:=.int i 0) rfl ?_);refine af (jg u z ?_);simp only[bM]
 cases B:items[i]? with
 | some x=>
  refine af (wpAny_setField ho hd (by simp) (ai (db x rfl (ai (G x _ B ?_ (cE ..))))));exact(c9 _ (Heap.get?_update_self _ ho (Obj.isFreed_of_fields (IW hd _))) ((Obj.cls_mapFields ..).trans hc) (by rw[IW hd];simp [n4]))
 | none=>
  refine af (gy (af (wpAny_setField ho hd (by simp) ?_)));show aA _ _ (newExc (.type "StopIteration") [] >>= _) _ _ _;refine af ?_;refine af (pN ?_ (by size_fits));refine af (m:=firstArgMember _ _) (bV (a:=Value.none) (by first|rfl|(simp only[firstArgMember];rfl)) ?_);refine pN ?_ (by size_fits);refine af (wpAny_handled ?_)
  first|rw[show A.in1.handled=none from hh]|rw[hh]
  refine af (ai (wpAny_throw ?_));refine af (yJ (T:="StopIteration") (b:=true) (db _ (a9 _ rfl) rfl) isSubtype_stop ?_);exact ai (hN _ B (((cE ..).extBut.push _).push _))
end
section
variable {prog:Program}{w:World}{A:Around}{E:VP}{s:Shared}{K:Frag}{C r:Addr}{o:Obj}
theorem DR(X:K.In s.heap)(hr:s.heap.get? r=some o)(ho:o.cls=.ref C)(hf:fK K (.ref C) "__iter__"=some (some (.builtin "tuple.__iter__")))(hm:ls K C (.type "tuple")=some true)
  (h:Q (.ref s.heap.objs.size) {s with heap:=s.heap.push {cls:=.type "tuple_iterator",data:=.fields #[.ref r,.int 0 0]} }):aA (aq prog w) A (rK (.ref r)) Q E s:=by
 have U:iQ (aq prog w) s.heap (rH (.ref r)) (.ref C):=by
  have:=(kI (M:=aq prog w) (part:=some n8) hr)
  exact ho▸this.andThen .now
 have hl:=ju (M:=aq prog w) X hf;have u:=kb (M:=aq prog w) X hm;have e:=PySem.F.slot_tuple_iter.bind (.ref r);obtain ⟨hp,g,d,t,os⟩:=s;dsimp only at X hr U hl u h;have B:iQ (aq prog w) hp (jZ (.ref r) (.type "tuple")) true:=U.andThen u;unfold rK tP callSpecialIfBoundUnlessNone? bindSpecialIfBound? tP
 let h2:=hp.push {cls:=.type "tuple_iterator",data:=.fields #[.ref r,.int 0 0]}
 have fin:aA (aq prog w) A (call (.builtin "tuple.__iter__") [.ref r]) (λv s'=>v=.ref hp.objs.size∧s'=⟨h2,g,d,t,os⟩) E ⟨hp,g,d,t,os⟩:=by
  refine eG (fX PySem.F.slot_tuple_iter.plain PySem.F.entry_tuple_iter (@rL (aq prog w) _ _ _ "tuple.__iter__" "tuple" "__iter__" (.ref r) [] [] _ (by decide +kernel) (by decide +kernel) B (PySem.F.args_tuple_iter_1 _) ?_));refine(?_:aA _ _ (do ret (← newFields "tuple_iterator" [.ref r,n4 0])) _ _ _);exact af (pN (ai ⟨rfl,rfl⟩))
 have aa:iQ (aq prog w) h2 (rH (.ref hp.objs.size)) (.type "tuple_iterator"):=(kI (part:=some n8) (a9 _ rfl)).andThen .now;have Y:iQ (aq prog w) h2 (gz (.type "tuple_iterator") "__next__") (some (.builtin "tuple_iterator.__next__")):=rS PySem.F.slot_tuple_iterator_next.lookup
 repeat (first|(with_reducible refine qN ?_)|lk)
 refine wpAny_ite ?_
 split
 .refine af (bV e (ai ?_))
  repeat (first|(with_reducible refine ci fin (λv s' z=>sj ?_) λ_ _ z=>z)|lk)
  refine iH ?_;refine b8 z λO J=>?_
  try clear z
  subst O;subst J
  repeat (first|lk)
  exact h
 .refine jf (af (bV e (ai ?_)))
  repeat (first|(with_reducible refine ci fin (λv s' z=>sj ?_) λ_ _ z=>z)|lk)
  refine iH ?_;refine b8 z λH G=>?_
  try clear z
  subst H;subst G
  repeat (first|lk)
  exact h
theorem zu(hh:A.handled=none)(F:Fr h₀ L s.heap m)(N:ba h₀ L s.heap news)(O:K.In h₀)(hr:(r,o)∈news)(ho:o.cls=.ref C)(hd:o.data=.seq #[a,b,c] n)
  (hf:fK K (.ref C) "__iter__"=some (some (.builtin "tuple.__iter__"))) (hm:ls K C (.type "tuple")=some true) (h:∀h',Fr h₀ L h' m→ba h₀ L h' news→Q [a,b,c] {s with heap:=h'}):
  aA (aq prog w) A (unpackItems (.ref r) 3 none) Q E s:=by
 have X:=O.keeps F.keep;have u:=(N _ hr).1;have J:r<s.heap.objs.size:=bO u;have hne:r≠s.heap.objs.size:=aB J
 have H:iQ (aq prog w) s.heap (rH (.ref r)) (.ref C):=by
  have:=(kI (M:=aq prog w) (part:=some n8) u)
  exact ho▸this.andThen .now
 have hl:=ju (M:=aq prog w) X hf;obtain ⟨hp,g,d,t,os⟩:=s;dsimp only at F N X u J hne H hl h;have keep:∀{h':Heap},C7 hp.objs.size (hp.push {cls:=.type "tuple_iterator",data:=.fields #[.ref r,.int 0 0]}) h'→∀b o,hp.get? b=some o→h'.get? b=some o:=λhs b o e=>hs b o (aB (bO e)) (aG _ e);unfold unpackItems;refine af ?_;unfold notIterableAtAll tP;refine af (af (H.at (hl.at ?_)));refine ai ?_;refine af (bC (DR X u ho hf hm ?_));refine af (bC ?_)
 have h0:(hp.push {cls:=.type "tuple_iterator",data:=.fields #[.ref r,.int 0 0]}).IsTupleIter hp.objs.size r 0:=(c9 _ (a9 _ rfl) rfl rfl)
 unfold draw;refine af (rb hh h0 (aG _ u) hd (λx h1 e1 i1 s1=>?_) λ_ e _=>by simp at e)
 obtain rfl:a=x:=by simpa using e1
 refine af (bC ?_);unfold draw;refine af (rb hh i1 (keep s1.extBut _ _ u) hd (λx h2 e2 i2 s2=>?_) λ_ e _=>by simp at e)
 obtain rfl:b=x:=by simpa using e2
 refine af (bC ?_);unfold draw;have G:=s1.extBut.trans s2.extBut;refine af (rb hh i2 (keep G _ _ u) hd (λx h3 e3 i3 Y=>?_) λ_ e _=>by simp at e)
 obtain rfl:c=x:=by simpa using e3
 have B:=G.trans Y.extBut;refine af (bC ?_);unfold draw;refine ai (ai (ai (ai ?_)));rw[if_neg (by simp)];refine af (bC (rb hh i3 (keep B _ _ u) hd (λx h4 e4 _ _=>by simp at e4) λh4 _ U=>?_));rw[if_neg (by simp)];have z:=B.trans U;exact ai (h h4 (F.keptAll (keep z)) (N.grown (keep z)))
theorem um(hh:A.handled=none)(F:Fr h₀ L s.heap m)(N:ba h₀ L s.heap news)(z:K.In h₀)(hr:(r,o)∈news)(ho:o.cls=.ref C)(hd:o.data=.seq #[a,b,c] n)
  (hf:fK K (.ref C) "__iter__"=some (some (.builtin "tuple.__iter__"))) (hm:ls K C (.type "tuple")=some true) (hn:(dc e env).length=3) (u:(dc e env).findIdx? (·.1)=none)
  (h:∀h',Fr h₀ L h' m→ba h₀ L h' news→aA (aq prog w) A (assignInOrder ((dc e env).map (·.2)) [a,b,c]) Q E {s with heap:=h'}):
  aA (aq prog w) A (dh (.Tuple e H pos) env (.ref r)) Q E s:=by
 rw[PyProof.Rows.assign_Tuple];refine af (gY ?_);unfold unpack;rw[hn,u];refine af (bC (zu hh F N z hr ho hd hf hm λh' G B=>?_));exact h h' G B
end
end
section
open W PyProof.Rows
structure Rect where
 alo:Int
 ahi:Int
 blo:Int
 bhi:Int
inductive pM(xs ys:List Int):Int→Int→Int→Int→Int→Prop
 | none {alo ahi blo bhi:Int} (h:∀p q:Int,alo≤p→p<ahi→blo≤q→q<bhi→xs[p.toNat]?≠ys[q.toNat]?):pM xs ys alo ahi blo bhi 0
 | split {alo ahi blo bhi i j k t1 t2:Int} (h1:alo≤i) (h2:blo≤j) (h3:1≤k) (h4:i+k≤ahi) (h5:j+k≤bhi) (d:qM xs ys i j k) (a:pM xs ys alo i blo j t1) (b:pM xs ys (i+k) ahi (j+k) bhi t2):pM xs ys alo ahi blo bhi (k+t1+t2)
noncomputable def w6(xs ys:List Int):List Rect→Int→Prop
 | [],t=>t=0
 | r::rs,t=>∃t1 t2,pM xs ys r.alo r.ahi r.blo r.bhi t1∧w6 xs ys rs t2∧t=t1+t2
theorem oB:∀{J l2:List Rect}{t:Int},w6 xs ys (J++l2) t↔∃a b,w6 xs ys J a∧w6 xs ys l2 b∧t=a+b
 | [],l2,t=>⟨λh=>⟨0,t,rfl,h,by exact ny (kP [t] Z0 (.a Y0 Z0) rfl) (kP [t] (.a Y0 Z0) Z0 rfl)⟩,λ⟨a,b,h1,h2,h3⟩=>by
   have B:a=0:=h1;have:t=b:=ny (eV [t,b,a] 1 Z0 Z1 1 Z2 Y0 1 Z0 (.a Z2 Z1) rfl (gX B) (gX h3)) (eV [b,t,a] 1 Z0 Z1 1 Y0 Z2 1 (.a Z2 Z0) Z1 rfl (iu B) (iu h3))
   subst this;exact h2⟩
 | r::rs,l2,t=>by
  constructor
  .intro z
   refine gL z λt1 t2 h1 h2 h3=>?_;clear z;refine gL (oB.mp h2) λa b O H G=>?_;exact(iw (t1+a) b ⟨t1,a,h1,O,rfl⟩ H (ny (eV [t,t1,a,b,t2] 1 Z0 (.a (.a Z1 Z2) Z3) 1 Z4 (.a Z2 Z3) 1 Z0 (.a Z1 Z4) rfl (gX G) (gX h3)) (eV [t1,a,b,t,t2] 1 (.a (.a Z0 Z1) Z2) Z3 1 (.a Z1 Z2) Z4 1 (.a Z0 Z4) Z3 rfl (iu G) (iu h3))))
  .intro u
   refine gL u λa b e H G=>?_;clear u;refine gL e λt1 t2 h1 h2 h3=>?_
   try clear e
   exact(iw t1 (t2+b) h1 (oB.mpr ⟨t2,b,h2,H,rfl⟩) (ny (eV [t,t1,t2,b,a] 1 Z0 (.a Z1 (.a Z2 Z3)) 1 Z4 (.a Z1 Z2) 1 Z0 (.a Z4 Z3) rfl (gX h3) (gX G)) (eV [t1,t2,b,t,a] 1 (.a Z0 (.a Z1 Z2)) Z3 1 (.a Z0 Z1) Z4 1 (.a Z4 Z2) Z3 rfl (iu h3) (iu G))))
noncomputable def jc(r:Rect):Nat:=((r.ahi-r.alo)+(r.bhi-r.blo)+1).toNat
noncomputable def fw:List Rect→Nat
 | []=>0
 | r::rs=>jc r+fw rs
theorem mL:∀{a b:List Rect},fw (a++b)=fw a+fw b
 | [],b=>by simp [fw]
 | r::rs,b=>by simp only[fJ,fw,mL (a:=rs)];exact vm (kP [↑(jc r),↑(fw rs),↑(fw b)] (.a Z0 (.a Z1 Z2)) (.a (.a Z0 Z1) Z2) rfl) (kP [↑(jc r),↑(fw rs),↑(fw b)] (.a (.a Z0 Z1) Z2) (.a Z0 (.a Z1 Z2)) rfl)
noncomputable def Gr(xs ys:List Int)(r:Rect):Prop:=0≤r.alo∧r.alo≤r.ahi∧r.ahi≤xs.length∧0≤r.blo∧r.blo≤r.bhi∧r.bhi≤ys.length
noncomputable def Gb(xs ys:List Int)(S:Int)(rs:List Rect):Prop:=∀t,w6 xs ys rs t→pM xs ys 0 xs.length 0 ys.length (S+t)
theorem xS(h:uY xs ys alo blo bhi (ahi-alo).toNat):∀p q:Int,alo≤p→p<ahi→blo≤q→q<bhi→xs[p.toNat]?≠ys[q.toNat]?:=by
 intro p q h1 h2 h3 h4;have:=h (p-alo).toNat (Rc h1 h2) q h3 h4
 rwa [show alo+((p-alo).toNat:Int)=p by exact Rf h1] at this
theorem BN(h:Gb xs ys S (rs++[r]))(hn:uY xs ys r.alo r.blo r.bhi (r.ahi-r.alo).toNat):Gb xs ys S rs:=by
 intro t ht;exact h t (oB.mpr (iw t 0 ht ⟨0,0,.none (xS hn),rfl,rfl⟩ (ny (kP [t] Z0 (.a Z0 Y0) rfl) (kP [t] (.a Z0 Y0) Z0 rfl))))
theorem zv(h:Gb xs ys S (rs++[r]))(h1:r.alo≤i)(h2:r.blo≤j)(h3:1≤k)(h4:i+k≤r.ahi)(h5:j+k≤r.bhi)(d:qM xs ys i j k)
  (hl:∀t,w6 xs ys l t→∃t1 t2,pM xs ys r.alo i r.blo j t1∧pM xs ys (i+k) r.ahi (j+k) r.bhi t2∧t=t1+t2):Gb xs ys (S+k) (rs++l):=by
 intro t ht;refine gL (oB.mp ht) λa b z u e=>?_;refine gL (hl b u) λt1 t2 e1 e2 e3=>?_;have:=h (a+(k+t1+t2)) (oB.mpr (iw a _ z ⟨_,0,.split h1 h2 h3 h4 h5 d e1 e2,rfl,by exact ny (kP [k,t1,t2] (.a (.a Z0 Z1) Z2) (.a (.a (.a Z0 Z1) Z2) Y0) rfl) (kP [k,t1,t2] (.a (.a (.a Z0 Z1) Z2) Y0) (.a (.a Z0 Z1) Z2) rfl)⟩ rfl))
 rwa [show S+(a+(k+t1+t2))=S+k+t by exact ny (eV [S,a,k,t1,t2,t,b] 1 (.a Z0 (.a Z1 (.a (.a Z2 Z3) Z4))) (.a (.a Z0 Z2) Z5) 1 (.a Z3 Z4) Z6 1 (.a Z1 Z6) Z5 rfl (iu e3) (iu e)) (eV [S,k,t,a,t1,t2,b] 1 (.a (.a Z0 Z1) Z2) (.a Z0 (.a Z3 (.a (.a Z1 Z4) Z5))) 1 Z6 (.a Z4 Z5) 1 Z2 (.a Z3 Z6) rfl (gX e3) (gX e))] at this
theorem ph(h:¬(a<b∧c<d)):pM xs ys a b c d 0:=.none λp q h1 h2 h3 h4=>absurd ⟨by exact eZ h1 h2,by exact eZ h3 h4⟩ h
theorem Hz(h:w6 xs ys [r1,r2] t):∃t1 t2,pM xs ys r1.alo r1.ahi r1.blo r1.bhi t1∧pM xs ys r2.alo r2.ahi r2.blo r2.bhi t2∧t=t1+t2:=by
 refine gL h λt1 t2 h1 e h6=>?_
 try clear h
 refine gL e λt3 t4 h3 h4 h5=>?_
 try clear e
 have u:t4=0:=h4;exact(iw t1 t3 h1 h3 (ny (ia [t,t1,t3,t4,t2] 1 Z0 (.a Z1 Z2) 1 Z3 Y0 1 Z4 (.a Z2 Z3) 1 Z0 (.a Z1 Z4) rfl (gX u) (gX h5) (gX h6)) (ia [t1,t3,t,t4,t2] 1 (.a Z0 Z1) Z2 1 Y0 Z3 1 (.a Z1 Z3) Z4 1 (.a Z0 Z4) Z2 rfl (iu u) (iu h5) (iu h6))))
theorem wJ(h:w6 xs ys [r1] t):pM xs ys r1.alo r1.ahi r1.blo r1.bhi t:=by
 refine gL h λt1 t2 h1 h2 h3=>?_
 try clear h
 have e:t2=0:=h2;have:t=t1:=ny (eV [t,t1,t2] 1 Z0 Z1 1 Z2 Y0 1 Z0 (.a Z1 Z2) rfl (gX e) (gX h3)) (eV [t1,t,t2] 1 Z0 Z1 1 Y0 Z2 1 (.a Z0 Z2) Z1 rfl (iu e) (iu h3))
 rwa [this]
theorem jY(h:yI ys kvs a)(s:∀p∈a,p∈b):yI ys kvs b:=
 ⟨h.1,λj n e=>let ⟨x,t,ep,h1,h2⟩:=h.2 j n e;⟨x,t,ep,h1,s _ h2⟩⟩
noncomputable def dU(xs:Array Value):Obj:={cls:=.type "tuple",data:=.seq xs}
noncomputable def Pe(T:Ns)(q:Addr×Rect):Prop:=∃t1 t2 t3 t4,(q.1,dU #[.int q.2.alo t1,.int q.2.ahi t2,.int q.2.blo t3,.int q.2.bhi t4])∈T
noncomputable def sM(T:Ns)(q:Addr×Int):Prop:=∃dx i j t1 t2 t3,(q.1,dW dx i j q.2 t1 t2 t3)∈T
theorem sM.mono(h:sM T q)(s:∀p∈T,p∈T'):sM T' q:=let ⟨a,b,c,d,e,f,g⟩:=h;⟨a,b,c,d,e,f,s _ g⟩
noncomputable def ej(ms:List (Addr×Int)):Int:=(ms.map (·.2)).sum
theorem mG(ms:List (Addr×Int))(q:Addr×Int):ej (ms++[q])=ej ms+q.2:=by simp [ej]
theorem Pe.mono(h:Pe T q)(s:∀p∈T,p∈T'):Pe T' q:=let ⟨a,b,c,d,e⟩:=h;⟨a,b,c,d,s _ e⟩
noncomputable def refsOf{α:Type}(qs:List (Addr×α)):List Value:=qs.map λp=>.ref p.1
section
variable {prog:Program}{w:World}{A:Around}{E:VP}{s:Shared}{h₀:Heap}{L D:Addr}{news:Ns}{n:Nat}{Q:Bool→Shared→Prop}
theorem zf(N:ba h₀ L s.heap news)(hm:(D,listOf (us++[v]).toArray n)∈news)(hz:(us++[v]).length≤ec)(h:Q true {s with toks:=s.toks+1+1}):aA (aq prog w) A (truthy (.ref D)) Q E s:=by
 refine wpAny_truthy_list (N.isList hm) ?_ ?_
 .rw[eQ] at hz
  rw[aL];exact cW [↑((us++[v]).length)] 1 (.a Z0 Y1) (.k (2 ^ 63)) 1 Z0 (.k 16777216) rfl (ef hz)
 .have e:(!((us++[v]).toArray.isEmpty))=true:=by simp
  rw[e];exact h
theorem BC(N:ba h₀ L s.heap news)(hm:(D,listOf ([]:List Value).toArray n)∈news)(h:Q false {s with toks:=s.toks+1+1}):aA (aq prog w) A (truthy (.ref D)) Q E s:=by
 refine wpAny_truthy_list (N.isList hm) ?_ ?_
 .exact eZ (b7 _) (by decide)
 .exact h
end
noncomputable def vA:List Rect→Int
 | []=>0
 | r::rs=>(r.ahi-r.alo)+vA rs
theorem tJ:∀{a b:List Rect},vA (a++b)=vA a+vA b
 | [],b=>by simp [vA]
 | r::rs,b=>by simp only[fJ,vA,tJ (a:=rs)];exact ny (kP [r.ahi,r.alo,vA rs,vA b] (.a (.s Z0 Z1) (.a Z2 Z3)) (.a (.a (.s Z0 Z1) Z2) Z3) rfl) (kP [r.ahi,r.alo,vA rs,vA b] (.a (.a (.s Z0 Z1) Z2) Z3) (.a (.s Z0 Z1) (.a Z2 Z3)) rfl)
structure GS(xs ys:List Int)(news:Ns)(MB QU D:Addr)(qs:List (Addr×Rect))(ms:List (Addr×Int))(T:Ns):Prop where
 h0:∀p∈news,p∈T
 h1:∀p∈T,p.1≠MB
 h2:∀p∈T,p.1≠QU
 h3:∀p∈T,p.1≠D
 hq:∀q∈qs,Pe T q∧Gr xs ys q.2
 hm:∀q∈ms,sM T q
 ow:Gb xs ys (ej ms) (qs.map (·.2))
 hz:ms.length+fw (qs.map (·.2))≤65
 hz2:(ms.length:Int)+vA (qs.map (·.2))≤32
 hpos:∀q∈ms,0≤q.2
section
variable {xs ys:List Int}{news:Ns}{MB QU D:Addr}{qs:List (Addr×Rect)}{ms:List (Addr×Int)}{T:Ns}{q:Addr×Rect}
theorem GS.none(g:GS xs ys news MB QU D (qs++[q]) ms T)(hn:uY xs ys q.2.alo q.2.blo q.2.bhi (q.2.ahi-q.2.alo).toNat):GS xs ys news MB QU D qs ms T where
 h0:=g.h0
 h1:=g.h1
 h2:=g.h2
 h3:=g.h3
 hq:=λp hp=>g.hq p (zL hp)
 hm:=g.hm
 ow:=BN (r:=q.2) (by have:=g.ow;rwa [aX] at this) hn
 hz:=by have:=g.hz;rw[aX,mL] at this;exact nU (eV [ms.length,↑(fw (f0 (λ(x:Addr×Rect)=>x.snd) qs)),↑(fw (f0 (λ(x:Addr×Rect)=>x.snd) [q]))] 1 (.a Z0 Z1) (.k 65) 1 (.a Z0 (.a Z1 Z2)) (.k 65) 1 Y0 Z2 rfl (ef this) j7)
 hz2:=by
  have h1:=g.hz2;rw[aX,tJ] at h1;have hr:=(g.hq q (zR (az.mpr rfl))).2;refine Kf hr λa b c d e f=>?_
  try clear hr
  have:vA ([q].map (·.2))=(q.2.ahi-q.2.alo)+0:=rfl;exact ia [ms.length,vA (f0 (λ(x:Addr×Rect)=>x.snd) qs),q.snd.ahi,q.snd.alo,vA (f0 (λ(x:Addr×Rect)=>x.snd) [q])] 1 (.a Z0 Z1) (.k 32) 1 (.a (.s Z2 Z3) Y0) Z4 1 Z3 Z2 1 (.a Z0 (.a Z1 Z4)) (.k 32) rfl (iu this) b h1
 hpos:=g.hpos
theorem GS.drop(g:GS xs ys news MB QU D (qs++[q]) ms T):fw (qs.map (·.2))<fw ((qs++[q]).map (·.2)):=by
 rw[aX,mL];have hr:=(g.hq q (zR (az.mpr rfl))).2;refine Kf hr λa b c d e f=>?_
 try clear hr
 show _<_+(jc q.2+0);unfold jc;exact ltN (ia [↑(fw (f0 (λ(x:Addr×Rect)=>x.snd) qs)),↑((q.snd.ahi-q.snd.alo+(q.snd.bhi-q.snd.blo)+1).toNat),q.snd.blo,q.snd.bhi,q.snd.alo,q.snd.ahi] 1 (.a Z0 Y1) (.a Z0 (.a Z1 Y0)) 1 Z2 Z3 1 Z4 Z5 1 (.a (.a (.s Z5 Z4) (.s Z3 Z2)) Y1) Z1 rfl e b tq)
theorem GS.step(g:GS xs ys news MB QU D (qs++[q]) ms T)(l:List (Addr×Rect))(u:Ns)(hb:BI xs ys q.2.alo q.2.blo q.2.bhi (q.2.ahi-q.2.alo).toNat i j k)(hk:k≠0)
  (hl:∀p∈l,Pe u p∧Gr xs ys p.2) (H:∀t,w6 xs ys (l.map (·.2)) t→∃t1 t2,pM xs ys q.2.alo i q.2.blo j t1∧pM xs ys (i+k) q.2.ahi (j+k) q.2.bhi t2∧t=t1+t2)
  (hsz:fw (l.map (·.2))+1≤jc q.2) (hs2:vA (l.map (·.2))+1≤q.2.ahi-q.2.alo) (a1:∀p∈u,p.1≠MB) (a2:∀p∈u,p.1≠QU) (a3:∀p∈u,p.1≠D) (r1:r≠MB) (r2:r≠QU) (Y:r≠D):
  GS xs ys news MB QU D (qs++l) (ms++[(r,k)]) (u++(r,dW dx i j k w1 w2 w3)::T)∧fw ((qs++l).map (·.2))<fw ((qs++[q]).map (·.2)):=by
 have G:∀p∈T,p∈u++(r,dW dx i j k w1 w2 w3)::T:=λp hp=>zR (zT hp);have hr:=(g.hq q (zR (az.mpr rfl))).2;refine Kf hr λb1 b2 b3 b4 b5 b6=>?_
 try clear hr
 have B:fw ((qs++l).map (·.2))+1≤fw ((qs++[q]).map (·.2)):=by
  rw[aX,mL,aX,mL];show _≤_+(jc q.2+0);exact nU (cW [↑(fw (f0 (λ(x:Addr×Rect)=>x.snd) qs)),↑(fw (f0 (λ(x:Addr×Rect)=>x.snd) l)),↑(jc q.snd)] 1 (.a (.a Z0 Z1) Y1) (.a Z0 (.a Z2 Y0)) 1 (.a Z1 Y1) Z2 rfl (ef hsz))
 have all:∀(X:Addr),(∀p∈u,p.1≠X)→r≠X→(∀p∈T,p.1≠X)→∀p∈u++(r,dW dx i j k w1 w2 w3)::T,p.1≠X:=by
  intro X U O J p hp
  rcases aC.mp hp with hp|hp
  .exact U p hp
  .rcases ak.mp hp with e|hp
   .subst e;exact O
   .exact J p hp
 rcases hb with ⟨z,_⟩|⟨c1,c2,c3,c4,c5,c6⟩
 .exact absurd z hk
 refine⟨⟨λp hp=>G p (g.h0 p hp),all MB a1 r1 g.h1,all QU a2 r2 g.h2,all D a3 Y g.h3,?_,?_,?_,?_,?_,λp hp=>(aC.mp hp).elim (g.hpos p) (λhp=>by rw[az.mp hp];refine(?_:(0:Int)≤k);exact cW [k] 1 Y0 Z0 1 Y1 Z0 rfl c1)⟩,by exact bD B⟩
 .intro p hp
  rcases aC.mp hp with hp|hp
  .exact⟨(g.hq p (zL hp)).1.mono G,(g.hq p (zL hp)).2⟩
  .exact⟨(hl p hp).1.mono λx hx=>zL hx,(hl p hp).2⟩
 .intro p hp
  rcases aC.mp hp with hp|hp
  .exact(g.hm p hp).mono G
  .rw[az.mp hp]
   exact(B3 dx i j w1 w2 w3 (zR (zH)))
 .rw[mG,aX]
  exact zv (r:=q.2) (by have:=g.ow;rwa [aX] at this) c2 c4 c1 (Oq (Rf b2) c3) c5 c6 H
 .have:=g.hz
  rw[aU,di];exact nU (eV [ms.length,↑(fw (f0 (λ(x:Addr×Rect)=>x.snd) (qs++l))),↑(fw (f0 (λ(x:Addr×Rect)=>x.snd) (qs++[q])))] 1 (.a (.a Z0 Y1) Z1) (.k 65) 1 (.a Z0 Z2) (.k 65) 1 (.a Z1 Y1) Z2 rfl (ef this) (ef B))
 .have h1:=g.hz2
  rw[aX,tJ] at h1;rw[aU,di,aX,tJ];have:vA ([q].map (·.2))=(q.2.ahi-q.2.alo)+0:=rfl;exact ia [ms.length,vA (f0 (λ(x:Addr×Rect)=>x.snd) qs),vA (f0 (λ(x:Addr×Rect)=>x.snd) l),q.snd.ahi,q.snd.alo,vA (f0 (λ(x:Addr×Rect)=>x.snd) [q])] 1 (.a (.a Z0 Y1) (.a Z1 Z2)) (.k 32) 1 (.a (.s Z3 Z4) Y0) Z5 1 (.a Z0 (.a Z1 Z5)) (.k 32) 1 (.a Z2 Y1) (.s Z3 Z4) rfl (iu this) h1 hs2
inductive Bk(r:Rect)(i j k:Int):Prop
 | mk (k1:1≤k) (a:r.alo≤i) (b:i+k≤r.ahi) (c:r.blo≤j) (d:j+k≤r.bhi)
theorem Bm(hb:BI xs ys r.alo r.blo r.bhi (r.ahi-r.alo).toNat i j k)(hk:k≠0)(h:Gr xs ys r):Bk r i j k:=by
 rcases hb with ⟨z,_⟩|⟨c1,c2,c3,c4,e,_⟩
 .exact absurd z hk
 .exact⟨c1,c2,cF c3 (by rw[dF (dX h.2.1),gi,nh];exact b7 _),c4,e⟩
section
variable {r:Rect}{i j k:Int}
theorem Bk.k0(b:Bk r i j k):0≤k:=cF (by decide) b.1
theorem Bk.rl(b:Bk r i j k)(h:Gr xs ys r):Gr xs ys ⟨r.alo,i,r.blo,j⟩:=⟨h.1,b.2,cF (cF (fA b.k0) b.3) h.2.2.1,h.2.2.2.1,b.4,cF (cF (fA b.k0) b.5) h.2.2.2.2.2⟩
theorem Bk.rr(b:Bk r i j k)(h:Gr xs ys r):Gr xs ys ⟨i+k,r.ahi,j+k,r.bhi⟩:=⟨cF h.1 (cF b.2 (fA b.k0)),b.3,h.2.2.1,cF h.2.2.2.1 (cF b.4 (fA b.k0)),b.5,h.2.2.2.2.2⟩
theorem Bk.m2(b:Bk r i j k):jc ⟨r.alo,i,r.blo,j⟩+jc ⟨i+k,r.ahi,j+k,r.bhi⟩+1≤jc r:=by
 obtain ⟨k1,a,b,c,d⟩:=b;unfold jc;dsimp only;exact nU (yW [↑((i-r.alo+(j-r.blo)+1).toNat),↑((r.ahi-(i+k)+(r.bhi-(j+k))+1).toNat),↑((r.ahi-r.alo+(r.bhi-r.blo)+1).toNat),k,r.ahi,r.alo,r.bhi,r.blo,i,j] 1 (.a (.a Z0 Z1) Y1) Z2 2 Y1 Z3 1 (.a (.a (.s Z4 Z5) (.s Z6 Z7)) Y1) Z2 1 Z0 (.a (.a (.s Z8 Z5) (.s Z9 Z7)) Y1) 1 Z1 (.a (.a (.s Z4 (.a Z8 Z3)) (.s Z6 (.a Z9 Z3))) Y1) rfl k1 tq (jb (eV [i,r.alo,j,r.blo] 1 Y0 (.a (.a (.s Z0 Z1) (.s Z2 Z3)) Y1) 1 Z3 Z2 1 Z1 Z0 rfl c a)) (jb (eV [r.ahi,i,k,r.bhi,j] 1 Y0 (.a (.a (.s Z0 (.a Z1 Z2)) (.s Z3 (.a Z4 Z2))) Y1) 1 (.a Z4 Z2) Z3 1 (.a Z1 Z2) Z0 rfl d b)))
theorem Bk.ml(b:Bk r i j k):jc ⟨r.alo,i,r.blo,j⟩+1≤jc r:=aw (fh (bA _ _) 1) b.m2
theorem Bk.mr(b:Bk r i j k):jc ⟨i+k,r.ahi,j+k,r.bhi⟩+1≤jc r:=aw (fh (gC _ _) 1) b.m2
theorem Bk.a2(b:Bk r i j k):(i-r.alo)+((r.ahi-(i+k))+0)+1≤r.ahi-r.alo:=by
 have:=b.1;exact cW [i,r.alo,r.ahi,k] 1 (.a (.a (.s Z0 Z1) (.a (.s Z2 (.a Z0 Z3)) Y0)) Y1) (.s Z2 Z1) 1 Y1 Z3 rfl this
theorem Bk.al(b:Bk r i j k):(i-r.alo)+0+1≤r.ahi-r.alo:=cF (lr (Int.add_le_add_left (yV (dX b.3) (b7 0)) _) 1) b.a2
theorem Bk.ar(b:Bk r i j k):(r.ahi-(i+k))+0+1≤r.ahi-r.alo:=cF (lr (nG (dX b.2)) 1) b.a2
end
theorem GS.two{t2:Tok}{t3:Tok}(g:GS xs ys news MB QU D (qs++[q]) ms T)(hb:BI xs ys q.2.alo q.2.blo q.2.bhi (q.2.ahi-q.2.alo).toNat i j k)(hk:k≠0)
  (hi:q.2.alo<i∧q.2.blo<j) (hj:i+k<q.2.ahi∧j+k<q.2.bhi) (a1:T1≠MB) (a2:T1≠QU) (a3:T1≠D) (c1:T2≠MB) (c2:T2≠QU) (c3:T2≠D) (r1:r≠MB) (r2:r≠QU) (e:r≠D):
  GS xs ys news MB QU D (qs++[(T1,Rect.mk q.2.alo i q.2.blo j),(T2,Rect.mk (i+k) q.2.ahi (j+k) q.2.bhi)]) (ms++[(r,k)]) ([(T1,dU #[.int q.2.alo t1,.int i t2,.int q.2.blo t3,.int j t4]),(T2,dU #[.int (i+k) t5,.int q.2.ahi t6,.int (j+k) t7,.int q.2.bhi t8])]++(r,dW dx i j k w1 w2 w3)::T)∧fw ((qs++[(T1,Rect.mk q.2.alo i q.2.blo j),(T2,Rect.mk (i+k) q.2.ahi (j+k) q.2.bhi)]).map (·.2))<fw ((qs++[q]).map (·.2)):=by
 have hr:=(g.hq q (zR (az.mpr rfl))).2;have b:=Bm hb hk hr;exact g.step [(T1,Rect.mk q.2.alo i q.2.blo j),(T2,Rect.mk (i+k) q.2.ahi (j+k) q.2.bhi)] [(T1,dU #[.int q.2.alo t1,.int i t2,.int q.2.blo t3,.int j t4]),(T2,dU #[.int (i+k) t5,.int q.2.ahi t6,.int (j+k) t7,.int q.2.bhi t8])] hb hk (FC ⟨(ER _ _ _ _ (zH)),b.rl hr⟩ (FC ⟨(ER _ _ _ _ (a8 1 rfl)),b.rr hr⟩ FN)) (λt h=>Hz (r1:=Rect.mk q.2.alo i q.2.blo j) (r2:=Rect.mk (i+k) q.2.ahi (j+k) q.2.bhi) h) b.m2 b.a2 (FC a1 (FC c1 FN)) (FC a2 (FC c2 FN)) (FC a3 (FC c3 FN)) r1 r2 e
theorem GS.left{t2:Tok}{t3:Tok}(g:GS xs ys news MB QU D (qs++[q]) ms T)(hb:BI xs ys q.2.alo q.2.blo q.2.bhi (q.2.ahi-q.2.alo).toNat i j k)(hk:k≠0)
  (hi:q.2.alo<i∧q.2.blo<j) (hj:¬(i+k<q.2.ahi∧j+k<q.2.bhi)) (a1:T1≠MB) (a2:T1≠QU) (a3:T1≠D) (r1:r≠MB) (r2:r≠QU) (e:r≠D):
  GS xs ys news MB QU D (qs++[(T1,Rect.mk q.2.alo i q.2.blo j)]) (ms++[(r,k)]) ([(T1,dU #[.int q.2.alo t1,.int i t2,.int q.2.blo t3,.int j t4])]++(r,dW dx i j k w1 w2 w3)::T)∧fw ((qs++[(T1,Rect.mk q.2.alo i q.2.blo j)]).map (·.2))<fw ((qs++[q]).map (·.2)):=by
 have hr:=(g.hq q (zR (az.mpr rfl))).2;have b:=Bm hb hk hr;exact g.step [(T1,Rect.mk q.2.alo i q.2.blo j)] [(T1,dU #[.int q.2.alo t1,.int i t2,.int q.2.blo t3,.int j t4])] hb hk (FC ⟨(ER _ _ _ _ (zH)),b.rl hr⟩ FN) (λt h=>iw t 0 (wJ (r1:=Rect.mk q.2.alo i q.2.blo j) h) (ph hj) (iY t).symm) b.ml b.al (FC a1 FN) (FC a2 FN) (FC a3 FN) r1 r2 e
theorem GS.right(g:GS xs ys news MB QU D (qs++[q]) ms T)(hb:BI xs ys q.2.alo q.2.blo q.2.bhi (q.2.ahi-q.2.alo).toNat i j k)(hk:k≠0)
  (hi:¬(q.2.alo<i∧q.2.blo<j)) (hj:i+k<q.2.ahi∧j+k<q.2.bhi) (c1:T2≠MB) (c2:T2≠QU) (c3:T2≠D) (r1:r≠MB) (r2:r≠QU) (e:r≠D):
  GS xs ys news MB QU D (qs++[(T2,Rect.mk (i+k) q.2.ahi (j+k) q.2.bhi)]) (ms++[(r,k)]) ([(T2,dU #[.int (i+k) t5,.int q.2.ahi t6,.int (j+k) t7,.int q.2.bhi t8])]++(r,dW dx i j k w1 w2 w3)::T)∧fw ((qs++[(T2,Rect.mk (i+k) q.2.ahi (j+k) q.2.bhi)]).map (·.2))<fw ((qs++[q]).map (·.2)):=by
 have hr:=(g.hq q (zR (az.mpr rfl))).2;have b:=Bm hb hk hr;exact g.step [(T2,Rect.mk (i+k) q.2.ahi (j+k) q.2.bhi)] [(T2,dU #[.int (i+k) t5,.int q.2.ahi t6,.int (j+k) t7,.int q.2.bhi t8])] hb hk (FC ⟨(ER _ _ _ _ (zH)),b.rr hr⟩ FN) (λt h=>iw 0 t (ph hi) (wJ (r1:=Rect.mk (i+k) q.2.ahi (j+k) q.2.bhi) h) (fQ t).symm) b.mr b.ar (FC c1 FN) (FC c2 FN) (FC c3 FN) r1 r2 e
theorem GS.bare(g:GS xs ys news MB QU D (qs++[q]) ms T)(hb:BI xs ys q.2.alo q.2.blo q.2.bhi (q.2.ahi-q.2.alo).toNat i j k)(hk:k≠0)
  (hi:¬(q.2.alo<i∧q.2.blo<j)) (hj:¬(i+k<q.2.ahi∧j+k<q.2.bhi)) (r1:r≠MB) (r2:r≠QU) (e:r≠D):
  GS xs ys news MB QU D qs (ms++[(r,k)]) ((r,dW dx i j k w1 w2 w3)::T)∧fw (qs.map (·.2))<fw ((qs++[q]).map (·.2)):=by
 have hr:=(g.hq q (zR (az.mpr rfl))).2;have b:=Bm hb hk hr;have:=g.step (r:=r) (dx:=dx) (w1:=w1) (w2:=w2) (w3:=w3) [] [] hb hk FN (λt h=>iw 0 0 (ph hi) (ph hj) h) (aw (gC 1 _) b.ml) (cF (lr (yV (dX b.2) (b7 0)) 1) b.al) FN FN FN r1 r2 e;rw[iq] at this;exact this
theorem ES{t2:Tok}{t3:Tok}(u:xs.length≤32)(z:ys.length≤32)(h1:∀p∈news,p.1≠MB)(h2:∀p∈news,p.1≠QU)(h3:∀p∈news,p.1≠D)(G:e≠MB)(d2:e≠QU)(B:e≠D):
  GS xs ys news MB QU D [(e,Rect.mk 0 xs.length 0 ys.length)] [] ((e,dU #[.int 0 t1,.int (xs.length:Int) t2,.int 0 t3,.int (ys.length:Int) t4])::news) where
 h0:=λp hp=>zT hp
 h1:=zC ⟨G,h1⟩
 h2:=zC ⟨d2,h2⟩
 h3:=zC ⟨B,h3⟩
 hq:=λq hq=>by rw[az.mp hq];exact⟨(ER t1 t2 t3 t4 (zH)),by unfold Gr;dsimp only;exact⟨kP [] Y0 Y0 rfl,⟨cW [xs.length] 1 Y0 Z0 1 Y0 Z0 rfl j7,⟨kP [xs.length] Z0 Z0 rfl,⟨kP [] Y0 Y0 rfl,⟨cW [ys.length] 1 Y0 Z0 1 Y0 Z0 rfl j7,kP [ys.length] Z0 Z0 rfl⟩⟩⟩⟩⟩⟩
 hm:=λq hq=>nomatch hq
 ow:=λt ht=>by
  have:=wJ ht;refine(?_:pM xs ys 0 xs.length 0 ys.length (0+t))
  rwa [fQ]
 hz:=by refine(?_:0+(jc _+0)≤65);unfold jc;dsimp only;exact nU (ia [↑(((xs.length:Int)-0+((ys.length:Int)-0)+1).toNat),ys.length,xs.length] 1 (.a Y0 (.a Z0 Y0)) (.k 65) 1 Z1 (.k 32) 1 Z2 (.k 32) 1 Z0 (.a (.a (.s Z2 Y0) (.s Z1 Y0)) Y1) rfl (ef z) (ef u) (jb (eV [xs.length,ys.length] 1 Y0 (.a (.a (.s Z0 Y0) (.s Z1 Y0)) Y1) 1 Y0 Z1 1 Y0 Z0 rfl j7 j7)))
 hz2:=by refine(?_:(0:Int)+(_+0)≤32);dsimp only;exact cW [xs.length] 1 (.a Y0 (.a (.s Z0 Y0) Y0)) (.k 32) 1 Z0 (.k 32) rfl (ef u)
 hpos:=λq hq=>nomatch hq
theorem rh:∀{l:List (Addr×Rect)},(∀q∈l,Gr xs ys q.2)→l.length≤fw (l.map (·.2))
 | [],_=>aS _
 | q::l,h=>by
  have h1:=rh (l:=l) λp hp=>h p (zT hp);obtain ⟨a,b,c,d,e,f⟩:=h q (zH);refine(?_:l.length+1≤jc q.2+fw (l.map (·.2)));unfold jc;exact nU (yW [l.length,↑((q.snd.ahi-q.snd.alo+(q.snd.bhi-q.snd.blo)+1).toNat),↑(fw (f0 (λ(x:Addr×Rect)=>x.snd) l)),q.snd.blo,q.snd.bhi,q.snd.alo,q.snd.ahi] 1 (.a Z0 Y1) (.a Z1 Z2) 1 Z3 Z4 1 Z5 Z6 1 Z0 Z2 1 (.a (.a (.s Z6 Z5) (.s Z4 Z3)) Y1) Z1 rfl e b (ef h1) tq)
theorem GS.len(g:GS xs ys news MB QU D qs ms T):qs.length+ms.length≤65:=by
 have:=rh λq hq=>(g.hq q hq).2;have:=g.hz;lia
theorem GS.room(g:GS xs ys news MB QU D (qs++[q]) ms T)(v:Value):(refsOf qs++[v]).length≤ec:=by
 have:=g.len;rw[eQ];simp only[refsOf,aU,aE,di] at *;exact aw (bA (eK qs+1) (eK ms)) (r8 this (bR true))
theorem IB(h:BI xs ys alo blo bhi i bi bj bs)(hk:bs=0):uY xs ys alo blo bhi i:=by
 rcases h with ⟨_,_,_,h⟩|⟨h,_⟩
 .exact h
 .exact(qz (eV [bs] 1 Y0 (.k (-1)) 1 Y1 Z0 1 Z0 Y0 rfl h (gX hk))).elim
theorem J4{α:Type}{qs:List (Addr×α)}{a:Addr}(r:α){n:Nat} : listOf ((refsOf qs).toArray.push (.ref a)) n=listOf (refsOf (qs++[(a,r)])).toArray n:=by simp [refsOf]
theorem GS.short(g:GS xs ys news MB QU D [] ms T):ms.length≤32:=by
 have:=g.hz2;have h:vA (([]:List (Addr×Rect)).map (·.2))=0:=rfl;exact nU (eV [ms.length,vA (f0 (λ(x:Addr×Rect)=>x.snd) [])] 1 Z0 (.k 32) 1 Y0 Z1 1 (.a Z0 Z1) (.k 32) rfl (iu h) this)
theorem GS.all(g:GS xs ys news MB QU D [] ms T):pM xs ys 0 xs.length 0 ys.length (ej ms):=by
 have:=g.ow 0 rfl
 rwa [iY] at this
end
section
variable {prog:Program}{w:World}{A:Around}{E:VP}{s:Shared}{h₀:Heap}{env:Env}{body:List Stmt}{Q:FP}
theorem GP
  (F:Fr h₀ L s.heap m) (N:ba h₀ L s.heap news) (J:(Lo)→Ns→Nat→(Lo)→Ns→Prop) (D:(Lo)→Ns→(Lo)→Ns→Prop) (hJ:∃U,J m news U m news)
  (turn:∀n G u z B,Fr h₀ L z G→ba h₀ L z u→J m news n G u→aA (aq prog w) A (isTrue test env (eval test env)) (λb s₂=>if b=true then aA (aq prog w) A (kG body env) (O7 h₀ L s Q (J m news) n) E s₂ else O8 h₀ L s (D m news) s₂) E {s with heap:=z,toks:=B})
  (done:∀G u z B,Fr h₀ L z G→ba h₀ L z u→D m news G u→Q .next {s with heap:=z,toks:=B})
  (hE:autoParam (lG (aq prog w) A env E) zAf):
  aA (aq prog w) A (exec (.While test body [] pos) env) Q E s:=by
 obtain ⟨U,hJ⟩:=hJ;refine While_inv2 (J m news) F N hJ ?_ hE;intro n G u z B ah aa ab;refine ci (turn n G u z B ah aa ab) (λb s₂ x=>?_) λ_ _ e=>e
 cases b with
 | false=>
  simp only[hU,if_false] at x ⊢;refine Ho x λh' tk m' nx Y F' N' j=>?_
  try clear x
  subst Y;exact done m' nx h' tk F' N' j
 | true=>
  simp only[if_true] at x ⊢;refine ci x (λf s₃ y=>?_) λ_ _ e=>e
  cases f with
  | ret v=>exact y
  | brk=>exact y
  | next=>refine fN y λk hk O=>?_;try clear y;refine Ho O λh' tk m' nx ap F' N' j=>?_;try clear O;subst ap;exact(EP h' tk m' nx k rfl F' N' hk j)
  | cont=>refine fN y λk hk H=>?_;try clear y;refine Ho H λh' tk m' nx aj F' N' j=>?_;try clear H;subst aj;exact(EP h' tk m' nx k rfl F' N' hk j)
end
noncomputable def yX(R:Nat→Nat→Bool→Prop)(n:Nat){α:Type}(Φ:α→Prop):KasT α→Prop
 | .ret a=>Φ a
 | .ask i j k=>i<n∧j<n∧∀b,R i j b→yX R n Φ (k b)
section
variable {R:Nat→Nat→Bool→Prop}{n:Nat}{α β:Type}
theorem ff(h:∀a,u a→e a):∀{t:KasT α},yX R n u t→yX R n e t
 | .ret _,x=>h _ x
 | .ask _ _ _,x=>(eP x.1 x.2.1 (λb hb=>ff h (x.2.2 b hb)))
theorem mQ:∀{t:KasT α},yX R n (λa=>yX R n e (f a)) t→yX R n e (t.bind f)
 | .ret _,x=>x
 | .ask _ _ _,x=>(eP x.1 x.2.1 (λb hb=>mQ (x.2.2 b hb)))
theorem tl{cmp:Nat→Nat→(Bool→Shared→Prop)→Shared→Prop}{I:Shared→Prop}{e:α→Prop}{Q:α→Shared→Prop}(hc:∀i j,i<n→j<n→∀(C:Bool→Shared→Prop) s,I s→(∀b s',R i j b→I s'→C b s')→cmp i j C s)(hQ:∀a s,e a→I s→Q a s):∀{t:KasT α}{s:Shared},yX R n e t→I s→t.kasWp cmp Q s
 | .ret _,_,x,i=>hQ _ _ x i
 | .ask a b k,s,x,i=>hc a b x.1 x.2.1 _ s i λc s' r u=>tl hc hQ (x.2.2 c r) u
noncomputable def P(n:Nat)(p:Array Nat):Prop:=p.Perm (aV n).toArray
theorem P.list(h:P n p):p.toList.Perm (aV n):=by simpa using h.toList
theorem P.size(h:P n p):p.size=n:=by simpa using h.list.length_eq
theorem P.get(h:P n p)(hk:k<n):p[k]?=some (p.getD k 0):=by
 have:=h.size;rw[lP,getElem?_pos p k (pV this hk)];rfl
theorem P.lt(h:P n p)(hk:k<n):p.getD k 0<n:=by
 have hs:=h.size
 have hm:p.getD k 0∈p.toList:=by
  have:=h.get hk;rw[← kg] at this;exact cq this
 exact bE.mp (h.list.mem_iff.mp hm)
theorem P.inj(h:P n p)(hi:i<n)(hj:j<n)(hne:i≠j):p.getD i 0≠p.getD j 0:=by
 intro e;have nd:p.toList.Nodup:=h.list.nodup_iff.mpr JC;have a:=h.get hi;have b:=h.get hj;rw[e,← b,← kg,← kg] at a;exact hne ((tX (by rw[Db,h.size];exact hi) nd).mp a)
theorem P.rev(h:P n p)(i j:Nat):P n (IS p i j):=(mirror_perm _ _ _ _).trans h
theorem P.bub(h:P n p)(i j:Nat):P n (bubble p i j):=(bubble_perm _ _ _).trans h
theorem jm{p q:Array Nat}{i j:Nat}(h:p[i]?=q[j]?):p.getD i 0=q.getD j 0:=by rw[lP,lP,h]
structure Ord(lt:Nat→Nat→Bool)(n:Nat):Prop where
 tot:∀i j,i<n→j<n→i≠j→lt i j=false→lt j i=true
 tr:∀i j k,lt i j=true→lt j k=true→lt i k=true
noncomputable def tL(lt:Nat→Nat→Bool)(p:Array Nat)(k:Nat):Prop:=∀i j,i<j→j<k→lt (p.getD i 0) (p.getD j 0)=true
noncomputable def Gv(lt:Nat→Nat→Bool)(p:Array Nat)(k:Nat):Prop:=∀i j,i<j→j<k→lt (p.getD j 0) (p.getD i 0)=true
variable {lt:Nat→Nat→Bool}
theorem tL.one:tL lt p 1:=λi j h1 h2=>by exact(qz (ia [j,i] 1 Y0 (.k (-1)) 1 (.a Z0 Y1) Y1 1 (.a Z1 Y1) Z0 1 Y0 Z1 rfl (ef h2) (ef h1) j7)).elim
theorem tL.step(o:Ord lt n)(s:tL lt p k)(hk:1≤k)(h:lt (p.getD (k-1) 0) (p.getD k 0)=true):tL lt p (k+1):=by
 intro i j h1 h2
 by_cases e:j=k
 .subst e
  by_cases e2:i=j-1
  .subst e2;exact h
  .exact o.tr _ _ _ (s i (j-1) (NV h1 e2) (JQ (bD hk))) h
 .exact s i j h1 (Pr h2 e)
theorem Gv.step(o:Ord lt n)(s:Gv lt p k)(hk:1≤k)(h:lt (p.getD k 0) (p.getD (k-1) 0)=true):Gv lt p (k+1):=by
 intro i j h1 h2
 by_cases e:j=k
 .subst e
  by_cases e2:i=j-1
  .subst e2;exact h
  .exact o.tr _ _ _ h (s i (j-1) (NV h1 e2) (JQ (bD hk)))
 .exact s i j h1 (Pr h2 e)
theorem sD{p:Array Nat}{m:Nat}(hm:m≤p.size)(k:Nat):(IS p 0 m).getD k 0=if k<m then p.getD (m-1-k) 0 else p.getD k 0:=by
 have:=getElem?_mirror_all (i:=0) hm k;unfold IS
 by_cases h:k<m
 .rw[if_pos h]
  rw[if_pos (⟨nU (cW [k] 1 Y0 Z0 1 Y0 Z0 rfl j7),ltN (cW [k,m] 1 (.a Z0 Y1) Z1 1 (.a Z0 Y1) Z1 rfl (ef h))⟩)] at this;exact(jm this).trans (by congr 1;lia)
 .rw[if_neg h]
  rw[if_neg (λhh=>uH hh.right (cL h))] at this;exact jm this
theorem Gv.rev(hp:P n p)(hk:k≤n)(s:Gv lt p k):tL lt (IS p 0 k) k:=by
 intro i j h1 h2;have hz:=hp.size;rw[sD (C4 hz hk),sD (C4 hz hk),if_pos (aP h1 h2),if_pos h2];exact s _ _ (Q3 h1 h2) (RK (aP h1 h2))
noncomputable def Good(R:Nat→Nat→Bool→Prop)(lt:Nat→Nat→Bool)(n:Nat):Prop:=Ord lt n∧∀i j b,R i j b→b=lt i j
theorem Good.no(g:Good R lt n)(hi:i<n)(hj:j<n)(hne:i≠j)(r:R i j b)(hb:¬b=true):lt j i=true:=
 g.1.tot i j hi hj hne (by rw[← g.2 i j b r];simpa using hb)
theorem Good.yes(g:Good R lt n)(r:R i j b)(hb:b=true):lt i j=true:=by rw[← g.2 i j b r];exact hb
theorem AZ(hp:P n p):∀(f m:Nat),1≤m→m+f≤n→yX R n (λr=>m≤r∧r≤m+f∧(Good R lt n→tL lt p m→tL lt p r)) (kas_asc p f m)
 | 0,m,h1,h2=>(eP (aS _) (aS _) (λ_ s=>s))
 | f+1,m,h1,h2=>by
  refine(eP (hp.lt (Bp h2)) (hp.lt (JP (Bp h2))) (λb hb=>?_))
  by_cases e:b=true
  .simp only[if_pos e];exact(eP (aS _) (bA m (f+1)) (λ_ s=>s))
  .simp only[if_neg e]
   refine ff (λr x=>(eP (aN (bD x.left)) (Sm x.right.left) (λg s=>x.2.2 g (s.step g.1 h1 (g.no (hp.lt (Bp h2)) (hp.lt (JP (Bp h2))) (hp.inj (Bp h2) (JP (Bp h2)) (λhh=>PT (bD h1) hh)) hb e))))) (AZ hp f (m+1) (dO h1) (PG h2))
theorem rk:∀(f:Nat) (p:Array Nat) (m q:Nat),P n p→1≤m→m+f≤n→yX R n (λr=>P n r.1∧m≤r.2.1∧r.2.1≤n∧(Good R lt n→q=0→Gv lt p m→r.2.2=0∧Gv lt r.1 r.2.1)) (kas_desc f p m q)
 | 0,p,m,q,hp,h1,h2=>(nA hp (aS _) (by refine(?_:m≤n);exact aw (bA m 0) h2) (λ_ e d=>⟨e,d⟩))
 | f+1,p,m,q,hp,h1,h2=>by
  refine(eP (hp.lt (Bp h2)) (hp.lt (JP (Bp h2))) (λb hb=>?_))
  by_cases e:b=true
  .simp only[if_pos e]
   by_cases hq:q > 0
   .simp only[if_pos hq]
    exact ff (λr x=>(nA x.1 (aN (bD x.right.left)) x.2.2.1 (λg u=>by exact pd (QD hq (Eq.symm u))))) (rk f (IS p (m-(q+1)) m) (m+1) 0 (hp.rev _ _) (dO h1) (PG h2))
   .simp only[if_neg hq]
    exact ff (λr x=>(nA x.1 (aN (bD x.right.left)) x.2.2.1 (λg _ d=>x.2.2.2 g rfl (d.step g.1 h1 (g.yes hb e))))) (rk f p (m+1) 0 hp (dO h1) (PG h2))
  .simp only[if_neg e]
   refine(eP (hp.lt (JP (Bp h2))) (hp.lt (Bp h2)) (λc hc=>?_))
   by_cases e2:c=true
   .simp only[if_pos e2];exact(nA hp (aS _) (by refine(?_:m≤n);exact aN (Bp h2)) (λ_ e d=>⟨e,d⟩))
   .simp only[if_neg e2]
    refine ff (λr x=>(nA x.1 (aN (bD x.right.left)) x.2.2.1 (λg u=>?_))) (rk f p (m+1) (q+1) hp (dO h1) (PG h2));have B:=g.no (hp.lt (Bp h2)) (hp.lt (ltN (ia [↑(m-1),n,m,r.snd.fst] 1 (.a Z0 Y1) Z1 1 (.a Z2 Y1) Z3 1 Z3 Z1 1 (.a Z0 Y1) Z2 rfl (ef x.2.1) (ef x.2.2.1) (xK (cW [m] 1 Y1 Z0 1 Y1 Z0 rfl (ef h1)))))) (hp.inj (i:=m) (j:=m-1) (Bp h2) (ltN (ia [↑(m-1),n,m,r.snd.fst] 1 (.a Z0 Y1) Z1 1 (.a Z2 Y1) Z3 1 Z3 Z1 1 (.a Z0 Y1) Z2 rfl (ef x.2.1) (ef x.2.2.1) (xK (cW [m] 1 Y1 Z0 1 Y1 Z0 rfl (ef h1))))) (λhh=>PT (bD h1) hh)) hb e;have z:=g.2 _ _ _ hc;exact absurd (z.trans B) e2
theorem xZ(hp:P n p)(h1:1≤m)(h2:m≤n):yX R n (λr=>1≤r.1∧r.1≤n∧P n r.2∧(Good R lt n→Gv lt p m→tL lt r.2 r.1)) (kas_tail3 m n p):=by
 unfold kas_tail3;refine mQ (ff (λr x=>?_) (AZ (lt:=lt) (hp.rev 0 m) (n-m) m h1 (Ru h2)));exact(nA (aw h1 x.left) (RY (O5 h2) x.right.left) (hp.rev 0 m) (λg d=>x.2.2 g (d.rev hp h2)))
theorem rj(hp:P n p)(h1:1≤m)(h2:m+1≤n):yX R n (λr=>1≤r.1∧r.1≤n∧P n r.2∧(Good R lt n→Gv lt p (m+1)→tL lt r.2 r.1)) (kas_descPart m n p):=by
 unfold kas_descPart;refine mQ (ff (λr x=>?_) (rk (lt:=lt) (n-(m+1)) p (m+1) 0 hp (dO h1) (Ru h2)));refine xR x λB z u e=>?_
 try clear x
 by_cases hq:r.2.2 > 0
 .simp only[if_pos hq]
  refine ff (λt y=>(nA y.1 y.2.1 y.2.2.1 (λg d=>?_))) (xZ (lt:=lt) (B.rev _ _) (aN (aK h1 (bD z))) u);have:=(e g rfl d).1;exact pd (QD hq (Eq.symm this))
 .simp only[if_neg hq]
  exact ff (λt y=>(nA y.1 y.2.1 y.2.2.1 (λg d=>y.2.2.2 g (e g rfl d).2))) (xZ (lt:=lt) B (aN (aK h1 (bD z))) u)
theorem BX(hp:P n p)(h1:2≤n):yX R n (λr=>1≤r.1∧r.1≤n∧P n r.2∧(Good R lt n→tL lt r.2 r.1)) (kas_count n p):=by
 unfold kas_count;have stop:∀{a:Array Nat}{b:Nat}{f:Nat},kas_asc a f b=kas_asc a f b:=rfl
 have G:∀(f m:Nat),1≤m→m+f=n→yX R n (λr=>m≤r∧r≤n∧(Good R lt n→tL lt p m→tL lt p r∧(r<n→lt (p.getD r 0) (p.getD (r-1) 0)=true))) (kas_asc p f m):=by
  intro f
  induction f with
  | zero=>intro m a b;exact(eP (aS _) (C4 (Eq.symm b) (bA m 0)) (λ_ s=>⟨s,λh=>by exact(qz (eV [m,n] 1 Y0 (.k (-1)) 1 (.a Z0 Y1) Z1 1 Z1 (.a Z0 Y0) rfl (ef h) (l9 b))).elim⟩))
  | succ f H=>
   intro m a b;refine(eP (hp.lt (L2 b)) (hp.lt (JP (L2 b))) (λc hc=>?_))
   by_cases e:c=true
   .simp only[if_pos e];exact(eP (aS _) (C4 (Eq.symm b) (bA m (f+1))) (λg s=>⟨s,λ_=>g.yes hc e⟩))
   .simp only[if_neg e]
    exact ff (λr x=>(eP (aN (bD x.left)) (x.right.left) (λg s=>x.2.2 g (s.step g.1 a (g.no (hp.lt (L2 b)) (hp.lt (ltN (ia [↑(m-1),n,m,r] 1 (.a Z0 Y1) Z1 1 (.a Z2 Y1) Z3 1 Z3 Z1 1 (.a Z0 Y1) Z2 rfl (ef x.1) (ef x.2.1) (xK (cW [m] 1 Y1 Z0 1 Y1 Z0 rfl (ef a)))))) (hp.inj (L2 b) (ltN (ia [↑(m-1),n,m,r] 1 (.a Z0 Y1) Z1 1 (.a Z2 Y1) Z3 1 Z3 Z1 1 (.a Z0 Y1) Z2 rfl (ef x.1) (ef x.2.1) (xK (cW [m] 1 Y1 Z0 1 Y1 Z0 rfl (ef a))))) (λhh=>PT (bD a) hh)) hc e))))) (H (m+1) (dO a) (O6 b))
 refine mQ (ff (λm x=>?_) (G (n-1) 1 (aS 1) (O5 (aN (bD h1)))));refine ku x λu B z=>?_
 try clear x
 by_cases e:m=n
 .subst e
  simp only[beq_self_eq_true,if_true];exact(nA (u) (aS _) hp (λg=>(z g .one).1))
 .rw[if_neg (by simpa using e)]
  by_cases h:m > 1
  .rw[if_pos h]
   refine(eP (hp.lt (aO (bD u) B)) (hp.lt (RM (bD u) B)) (λc hc=>?_))
   by_cases e2:c=true
   .simp only[if_pos e2];exact(nA (u) B hp (λg=>(z g .one).1))
   .simp only[if_neg e2]
    refine ff (λt y=>(nA y.1 y.2.1 y.2.2.1 (λg=>?_))) (rj (lt:=lt) (hp.rev 0 m) (u) (fy (nc B e)));have a:=(z g .one).1 0 (m-1) (Nat.sub_pos_of_lt h) (JQ h);exact absurd ((g.2 _ _ _ hc).trans a) e2
  .rw[if_neg h]
   have hm:m=1:=iy (cL h) u;subst hm;refine ff (λt y=>(nA y.1 y.2.1 y.2.2.1 (λg=>y.2.2.2 g ?_))) (rj (lt:=lt) hp (cL h) (h1));exact Gv.step g.1 (λi j a b=>by exact(qz (ia [j,i] 1 Y0 (.k (-1)) 1 (.a Z0 Y1) Y1 1 (.a Z1 Y1) Z0 1 Y0 Z1 rfl (ef b) (ef a) j7)).elim) (cL h) ((z g .one).2 (bD h1))
theorem se(hp:P n p)(hk:k<n):∀(f l r:Nat),l≤r→r≤k→r-l≤f→yX R n (λx=>l≤x∧x≤r∧(Good R lt n→tL lt p k→(∀i,i<l→lt (p.getD i 0) (p.getD k 0)=true)→(∀i,r≤i→i<k→lt (p.getD k 0) (p.getD i 0)=true)→(∀i,i<x→lt (p.getD i 0) (p.getD k 0)=true)∧(∀i,x≤i→i<k→lt (p.getD k 0) (p.getD i 0)=true))) (kas_place p k f l r)
 | 0,l,r,h1,h2,h3=>(eP (aS _) h1 (λ_ _ a b=>⟨a,λi hi=>b i (by exact nU (ia [r,i,l,↑(r-l)] 1 Z0 Z1 1 Z2 Z1 1 Z3 Y0 1 Z0 (.a Z3 Z2) rfl (ef hi) (ef h3) C1))⟩))
 | f+1,l,r,h1,h2,h3=>by
  unfold kas_place
  by_cases u:l≥r
  .rw[if_pos u];exact(eP (aS _) h1 (λ_ _ a b=>⟨a,λi hi=>b i (by exact aw u hi)⟩))
  .rw[if_neg u]
   refine(eP (hp.lt (by exact hk)) (hp.lt (by exact aO (NL (cK u) h2) (aN hk))) (λc hc=>?_))
   by_cases e:c=true
   .simp only[if_pos e]
    refine ff (λx y=>(eP y.1 (by exact nU (ia [x,r,↑((l+r)/2),l] 2 Z0 Z1 2 Z0 Z2 1 (.a Z3 Y1) Z1 1 (.m 2 Z2) (.a Z3 Z1) rfl (ef y.2.1) (RX u) Rk)) (λg s a b=>y.2.2 g s a λi hi B=>?_))) (se hp hk f l ((l+r)/2) (by exact NO (cK u)) (by exact aN (NL (cK u) h2)) (by exact Ra h3 (cK u)))
    by_cases e2:i=(l+r)/2
    .subst e2;exact g.yes hc e
    .exact g.1.tr _ _ _ (g.yes hc e) (s _ _ (by lia) B)
   .simp only[if_neg e]
    refine ff (λx y=>(eP (by exact aw (NO (cK u)) (aN (bD y.left))) y.2.1 (λg s a b=>y.2.2 g s (λi hi=>?_) b))) (se hp hk f ((l+r)/2+1) r (by exact fy (NM (cK u))) (by exact h2) (by exact Rb h3 (cK u)));have z:=g.no (hp.lt (by exact hk)) (hp.lt (by exact ltN (yW [↑((l+r)/2),n,x,r,k] 1 (.a Z0 Y1) Z1 1 (.a Z0 Y1) Z2 1 Z2 Z3 1 Z3 Z4 1 (.a Z4 Y1) Z1 rfl (ef y.1) (ef y.2.1) (ef h2) (ef hk)))) (hp.inj (by exact hk) (by exact ltN (yW [↑((l+r)/2),n,x,r,k] 1 (.a Z0 Y1) Z1 1 (.a Z0 Y1) Z2 1 Z2 Z3 1 Z3 Z4 1 (.a Z4 Y1) Z1 rfl (ef y.1) (ef y.2.1) (ef h2) (ef hk))) (by exact λhh=>uH (Hy hh (bD y.left)) (aw y.right.left h2))) hc e
    by_cases e2:i=(l+r)/2
    .subst e2;exact z
    .exact g.1.tr _ _ _ (s i ((l+r)/2) (by exact Pr hi e2) (by exact NL (cK u) h2)) z
theorem uV{p:Array Nat}{src d:Nat}(hs:src<p.size)(hd:d≤src)(k:Nat):(bubble p src d).getD k 0=if k=src-d then p.getD src 0 else if src-d<k∧k≤src then p.getD (k-1) 0 else p.getD k 0:=by
 have:=getElem?_bubble hs d hd k
 by_cases h1:k=src-d
 .rw[if_pos h1] at this ⊢;exact jm this
 .rw[if_neg h1] at this ⊢
  by_cases h2:src-d<k∧k≤src
  .rw[if_pos h2] at this ⊢;exact jm this
  .rw[if_neg h2] at this ⊢;exact jm this
theorem tL.put(hp:P n p)(hk:k<n)(hl:l≤k)(s:tL lt p k)(a:∀i,i<l→lt (p.getD i 0) (p.getD k 0)=true)(b:∀i,l≤i→i<k→lt (p.getD k 0) (p.getD i 0)=true):tL lt (bubble p k (k-l)) (k+1):=by
 intro i j h1 h2;have hz:=hp.size;rw[uV (pV hz hk) (jB k l),uV (pV hz hk) (jB k l),show k-(k-l)=l by exact Nat.sub_sub_self hl]
 by_cases e1:j=l
 .have n1:¬i=l:=λhh=>uH (pV (Eq.symm e1) h1) (fz (Eq.symm hh))
  have n2:¬(l<i∧i≤k):=λhh=>uH (pV (Eq.symm e1) h1) (aN hh.left);simp only[if_pos e1,if_neg n1,if_neg n2];exact a i (pV (Eq.symm e1) h1)
 .simp only[if_neg e1]
  by_cases e2:i=l
  .have n1:l<j∧j≤k:=⟨ltN (eV [l,j,i] 1 (.a Z0 Y1) Z1 1 Z0 Z2 1 (.a Z2 Y1) Z1 rfl (l9 e2) (ef h1)),nU (cW [j,k] 1 Z0 Z1 1 (.a Z0 Y1) (.a Z1 Y1) rfl (ef h2))⟩
   simp only[if_pos e2,if_pos n1];exact b _ (lm n1.left) (PQ n1.left h2)
  .simp only[if_neg e2]
   by_cases e3:l<j
   .have n1:l<j∧j≤k:=⟨ltN (cW [l,j] 1 (.a Z0 Y1) Z1 1 (.a Z0 Y1) Z1 rfl (ef e3)),nU (cW [j,k] 1 Z0 Z1 1 (.a Z0 Y1) (.a Z1 Y1) rfl (ef h2))⟩
    simp only[if_pos n1]
    by_cases e4:l<i
    .have n2:l<i∧i≤k:=⟨ltN (cW [l,i] 1 (.a Z0 Y1) Z1 1 (.a Z0 Y1) Z1 rfl (ef e4)),nU (eV [i,k,j] 1 Z0 Z1 1 Z2 Z1 1 (.a Z0 Y1) Z2 rfl (ef n1.2) (ef h1))⟩
     simp only[if_pos n2];exact s _ _ (RJ n2.left h1) (PQ n1.left h2)
    .have n2:¬(l<i∧i≤k):=λhh=>uH hh.left (cL e4)
     simp only[if_neg n2];exact s _ _ (by lia) (PQ n1.left h2)
   .have n1:¬(l<j∧j≤k):=λhh=>uH hh.left (cL e3)
    have n2:¬(l<i∧i≤k):=λhh=>uH hh.left (aN (aO h1 (cL e3)));simp only[if_neg n1,if_neg n2];exact s _ _ h1 (by lia)
theorem AY:∀(f:Nat) (p:Array Nat) (k:Nat),P n p→1≤k→k+f=n→yX R n (λx=>P n x∧(Good R lt n→tL lt p k→tL lt x n)) (kas_bin f p k)
 | 0,p,k,hp,h1,h2=>⟨hp,λ_ s=>by rwa [show n=k by exact vm (cW [n,k] 1 Z0 Z1 1 Z0 (.a Z1 Y0) rfl (l9 h2)) (cW [k,n] 1 Z0 Z1 1 (.a Z0 Y0) Z1 rfl (vX h2))]⟩
 | f+1,p,k,hp,h1,h2=>by
  unfold kas_bin;refine mQ (ff (λl x=>?_) (se (lt:=lt) hp (L2 h2) k 0 k (aN (bD h1)) (aS _) (jB k 0)));refine ff (λy z=>⟨z.1,λg s=>z.2 g ?_⟩) (AY f (bubble p k (k-l)) (k+1) (hp.bub _ _) (dO h1) (O6 h2));have:=x.2.2 g s (λi hi=>by exact(qz (eV [i] 1 Y0 (.k (-1)) 1 (.a Z0 Y1) Y0 1 Y0 Z0 rfl (ef hi) j7)).elim) (λi a b=>by exact(qz (eV [i,k] 1 Y0 (.k (-1)) 1 (.a Z0 Y1) Z1 1 Z1 Z0 rfl (ef b) (ef a))).elim);exact s.put hp (L2 h2) x.2.1 this.1 this.2
theorem uD(h2:2≤n):yX R n (λx=>P n x∧(Good R lt n→tL lt x n)) (kas_sort n):=by
 unfold kas_sort;have hp:P n (bP (aV n)):=CZ _;refine mQ (ff (λr x=>?_) (BX (lt:=lt) hp h2));refine xR x λG B u e=>?_
 try clear x
 by_cases h:r.1<n
 .rw[if_pos h,show max r.1 1=r.1 by exact xo G]
  exact ff (λy z=>⟨z.1,λg=>z.2 g (e g)⟩) (AY (n-r.1) r.2 r.1 u G (O5 B))
 .rw[if_neg h]
  exact⟨u,λg=>by have:=e g;rwa [show r.1=n by exact iy B (cL h)] at this⟩
end
end
section
open W PyProof.Rows
open PySem.Builtin
open PySem.Builtin.Tuple in
theorem JM(args:Args):Builtin.«tuple.__lt__» args=(do
  let (a,[b]) ← slotArgs "__lt__" 1 args|unsupported "internal:tuple.compare"
  if !(← jZ b (.type "tuple")) then return ← ret .notImplemented
  let xs ← tupleItemsOf a
  let ys ← tupleItemsOf b
  for (x,y) in xs.toList.zip ys.toList do
   if !(← yN x y) then
    rule "tuple.compare.by-the-first-pair-that-differs";return ← ret (← jh .Lt x y)
  ret (tupleCompareSizes .Lt xs.size ys.size)):=rfl
section
variable {prog:Program}{w:World}{A:Around}{E:VP}{s:Shared}{x y:Addr}{ox oy:Obj}{n k:Nat}{a1 a2 a3 b1 b2 b3:Int}{t1 t2 t3 u1 u2 u3:Tok}
theorem Dp{P:Fin→Shared→Prop}(z:s.heap.get? x=some ox)(dx:ox.data=.seq #[.int a1 t1,.int a2 t2,.int a3 t3] n)(e:s.heap.get? y=some oy)(B:oy.data=.seq #[.int b1 u1,.int b2 u2,.int b3 u3] k)
  (hi:iQ (aq prog w) s.heap (jZ (.ref y) (.type "tuple")) true) (h:∀b,P (.done (.ret (.bool b))) s):aA (aq prog w) A (Builtin.«tuple.__lt__» ⟨[.ref x,.ref y],[]⟩) P E s:=by
 rw[JM];refine af (bV (a:=(.ref x,[.ref y])) (by kernel_rfl) ?_);refine af (hi.here ?_);refine af (nY z dx ?_);refine af (nY e B ?_)
 have lt:∀(a b:Int) (t u:Tok) (Q:VP) (E:VP),(∀c,Q (.bool c) s)→aA (aq prog w) A (jh .Lt (.int a t) (.int b u)) Q E s:=
  λa b t u Q E hq=>show aA _ _ (fo .Lt (.int a t) (.int b u)) Q E s from wpAny_lt_int (hq _)
 refine af (af (af (ib ?_)))
 cases (a1==b1) with
 | false=>
  exact af (gy (af (lt _ _ _ _ _ _ λc=>af (ai (ai (ai (ai (h _))))))))
 | true=>
  refine ai (af (af (ib ?_)))
  cases (a2==b2) with
  | false=>
   exact af (gy (af (lt _ _ _ _ _ _ λc=>af (ai (ai (ai (ai (h _))))))))
  | true=>
   refine ai (af (af (ib ?_)))
   cases (a3==b3) with
   | false=>
    exact af (gy (af (lt _ _ _ _ _ _ λc=>af (ai (ai (ai (ai (h _))))))))
   | true=>
    exact ai (ai (ai (h false)))
variable {K:Frag}{C:Addr}{Q:Bool→Shared→Prop}
theorem G8(hu:A.units<cX)(X:K.In s.heap)(U:s.heap.get? x=some ox)(cx:ox.cls=.ref C)(dx:ox.data=.seq #[.int a1 t1,.int a2 t2,.int a3 t3] n)(hy:s.heap.get? y=some oy)(cy:oy.cls=.ref C)(dy:oy.data=.seq #[.int b1 u1,.int b2 u2,.int b3 u3] k)
  (hf:fK K (.ref C) "__lt__"=some (some (.builtin "tuple.__lt__"))) (hm:ls K C (.type "tuple")=some true) (h:∀b,Q b s):aA (aq prog w) A (IZ oneType' (.ref x) (.ref y)) Q E s:=by
 rw[keyLt'_oneType,oneLt'_eq];refine af (wpAny_cRoomFor hu ?_)
 have H:∀(p:Addr) (o:Obj),s.heap.get? p=some o→o.cls=.ref C→iQ (aq prog w) s.heap (rH (.ref p)) (.ref C):=λp o e c=>by
  have:=(kI (M:=aq prog w) (part:=some n8) e)
  exact c▸this.andThen .now
 have hl:=ju (M:=aq prog w) X hf;have G:=kb (M:=aq prog w) X hm;have aa:iQ (aq prog w) s.heap (jZ (.ref x) (.type "tuple")) true:=(H x ox U cx).andThen G;have Y:iQ (aq prog w) s.heap (jZ (.ref y) (.type "tuple")) true:=(H y oy hy cy).andThen G;have u:=PySem.F.slot_tuple_lt.bind (.ref x)
 have fin:∀A,aA (aq prog w) A (call (.builtin "tuple.__lt__") [.ref x,.ref y]) (λv s'=>s'=s∧∃b,v=.bool b) (λ_ _=>False) s:=λA=>by
  refine eG (fX PySem.F.slot_tuple_lt.plain PySem.F.entry_tuple_lt (@rL (aq prog w) _ _ _ "tuple.__lt__" "tuple" "__lt__" (.ref x) [.ref y] [] _ (by decide +kernel) (by decide +kernel) aa (PySem.F.args_tuple_lt_2 _ _) ?_))
  exact Dp U dx hy dy Y λb=>⟨rfl,b,rfl⟩
 have fin2:∀(R:Option Value→Shared→Prop),(∀b,R (some (.bool b)) s)→aA (aq prog w) A (call (.builtin "tuple.__lt__") ([.ref x]++[.ref y]) >>= λv=>ck (some v)) R E s:=λR hR=>
  af (ci (fin A) (λv s' z=>by refine b8 z λJ B=>?_;try clear z;subst J;refine cp B λb O=>?_;try clear B;subst O;exact ai (hR b)) λ_ _ z=>z.elim)
 have go:∀(R:Option Value→Shared→Prop),(∀b,R (some (.bool b)) s)→aA (aq prog w) A (callSpecialIfBound? (.ref x) "__lt__" [.ref y]) R E s:=by
  intro R hR;refine bC (af (af (af ((H x ox U cx).here (hl.here ?_)))));refine af (qN (wpAny_ite ?_))
  split
  .exact af (bV u (ai (fin2 R hR)))
  .exact jf (af (bV u (ai (fin2 R hR))))
 refine af (go _ λb=>?_);exact aY (h b)
end
theorem g8(ms:List (Addr×α))(h:i<ms.length):(refsOf ms).getD i Value.none=.ref (ms[i]'h).1:=by
 simp [refsOf,ay,h]
theorem po(ms:List α)(d:α)(hp:P ms.length p):(p.toList.map λi=>ms.getD i d).Perm ms:=by
 have h1:=hp.list.map λi=>ms.getD i d;refine h1.trans (List.Perm.of_eq ?_);refine ot (by simp) λi h1 h2=>?_;simp only[cI,mF,ay,am h2,GF]
theorem pj(ms:List (Addr×α))(d:Addr×α)(hp:P ms.length p):(p.toList.map λi=>(refsOf ms).getD i Value.none)=refsOf (p.toList.map λi=>ms.getD i d):=by
 unfold refsOf;rw[iU];refine rT λi hi=>?_;have e:i<ms.length:=bE.mp (hp.list.mem_iff.mp hi);have:=g8 ms e;unfold refsOf at this;rw[this];simp [Function.comp,ay,am e]
section
variable {prog:Program}{w:World}{A:Around}{E:VP}{s:Shared}{h₀:Heap}{L D:Addr}{m:Lo}{news T:Ns}{n:Nat}{g:Obj→Ns}{Q:VP}{K:Frag}{ms:List (Addr×Int)}
omit K ms in
theorem xC:∀{l:Ns}{g:Obj→Ns},xf D o l g→∀o',xf D o' (g o') g
 | _,_,.head a,_=>.head a
 | _,_,.tail a b,o'=>.tail a (xC b o')
theorem zm{vs:List Value}(F:Fr h₀ L s.heap m)(N:ba h₀ L s.heap news)(U:xf D (listOf vs.toArray n) news g)(u:vs.length<2)
  (h:∀h' c,Fr h₀ L h' m→ba h₀ L h' (g (listOf vs.toArray c))→Q .none {s with heap:=h'}):aA (aq prog w) A (call (.builtin "list.sort") [.ref D]) Q E s:=by
 refine hZ U.split λpre post e0 hg O J=>?_;rw[e0] at N;have H:=N (D,listOf vs.toArray n) (zR (.head _));have ho:s.heap.get? D=some (cG "list" vs.toArray n):=H.1;refine eE Bs (db _ H.1 rfl) Av ?_ (PyProof.Rows.args_list_sort _);have s1:=cE s.heap D (bJ λ_=>(#[]:Array Value))
 obtain ⟨e1,B⟩:∃e1,(s.heap.update D (bJ λ_=>(#[]:Array Value))).get? D=some (cG "list" #[] e1):=⟨_,fF ho λ_=>#[]⟩
 have F1:Fr h₀ L (s.heap.update D (bJ λ_=>(#[]:Array Value))) m:=F.change s1 H.2.1 H.2.2;have N1:ba h₀ L (s.heap.update D (bJ λ_=>(#[]:Array Value))) (pre++(D,cG "list" #[] e1)::post):=Mp N O J s1 B;have F3:=(F1.push (cG "tuple" vs.toArray 0)).push (cG "list" #[] 0);have Y:=News.grown (News.grown N1 λ_ _ e=>aG (cG "tuple" vs.toArray 0) e) λ_ _ e=>aG (cG "list" #[] 0) e;have na:=Y (D,cG "list" #[] e1) (zR (.head _));rw[list_sort_plain];refine af (listItems_at ho rfl ?_);refine af (pY ho rfl ?_ (by rw[aL,eQ];exact r8 (aN u) (bR true)) (cr _));refine af (sX B rfl ?_);refine af (wpAny_newTuple ?_ (by refine(?_:vs.length≤_);rw[eQ];exact r8 (aN u) (bR true)));refine af (vh ?_ (cr _));refine bC ?_
 have G:vs.toArray.size<2:=by rw[aL];exact u
 rw[if_pos G,if_pos G];refine af (ai ?_);refine af (ai ?_);dsimp only
 have z:(arrOf (oq general' (vs.toArray.zip vs.toArray) #[] 7 none)).map (·.2)=vs.toArray:=by
  apply oo.mp;rw[ve,om];exact JD (aS _)
 rw[z];have s2:=cE (((s.heap.update D (bJ λ_=>(#[]:Array Value))).push (cG "tuple" vs.toArray 0)).push (cG "list" #[] 0)) D (bJ λ_=>vs.toArray)
 obtain ⟨c2,hc2⟩:∃c2,((((s.heap.update D (bJ λ_=>(#[]:Array Value))).push (cG "tuple" vs.toArray 0)).push (cG "list" #[] 0)).update D (bJ λ_=>vs.toArray)).get? D=some (cG "list" vs.toArray c2):=⟨_,fF na.1 λ_=>vs.toArray⟩
 refine af (sX na.1 rfl ?_);refine af (pY na.1 rfl ?_ (cr _) (by rw[aL,eQ];exact r8 (aN u) (bR true)));simp only[bne_self_eq_false,hU,if_false];refine ai (db _ rfl (h _ c2 (F3.change s2 na.2.1 na.2.2) ?_));rw[hg];exact Mp Y O J s2 hc2
theorem zG(hu:A.units+1<cX)(aa:K.In h₀)(hf:fK K (.ref 171) "__lt__"=some (some (.builtin "tuple.__lt__")))(hm:ls K 171 (.type "tuple")=some true)(F:Fr h₀ L s.heap m)(N:ba h₀ L s.heap news)(U:xf D (listOf (refsOf ms).toArray n) news g)
  (hM:∀q∈ms,sM T q) (hT:∀o,∀p∈T,p∈g o) (ah:ms.length<64)
  (h:∀O h' tk' c,O.Perm ms→Fr h₀ L h' m→ba h₀ L h' (g (listOf (refsOf O).toArray c))→Q .none {s with heap:=h',toks:=tk'}):
  aA (aq prog w) A (call (.builtin "list.sort") [.ref D]) Q E s:=by
 have u:∀(e1:Nat) (h':Heap),ba h₀ L h' (g (cG "list" #[] e1))→∀q∈ms,∃dx i j t1 t2 t3,h'.get? q.1=some (dW dx i j q.2 t1 t2 t3):=by
  intro e1 h' z q hq;refine zy (hM q hq) λdx i j t1 t2 t3 ab=>?_;exact(B3 dx i j t1 t2 t3 ((z _ (hT _ _ ab)).1))
 by_cases h2:2≤ms.length
 .refine kas_lsort (vs:=refsOf ms) (T:=.ref 171) F N U (by simp) (by simpa [refsOf] using h2) (by simpa [refsOf] using ah) (λe1 h' B z v hv=>?_) (by decide) (λe1 h' B z=>?_)
  .refine fN (eA.mp hv) λq hq J=>?_
   subst J;refine zy (u e1 h' z q hq) λdx i j t1 t2 t3 e=>?_;exact(kI (M:=aq prog w) (part:=some n8) e).andThen .now
  .have hl:(refsOf ms).length=ms.length:=by simp [refsOf]
   rw[hl]
   have hne:ms≠[]:=by rintro rfl;simp at h2
   refine tl (n:=ms.length) (R:=λ_ _ _=>True) (I:=λs'=>∃h' tk,s' = {s with heap:=h',toks:=tk}∧Fr h₀ L h' m∧ba h₀ L h' (g (cG "list" #[] e1))) (λi j hi hj C s1 Y hC=>?_) (λp s1 hp Y=>?_) (uD (lt:=λ_ _=>true) h2) (iw h' s.toks rfl B z)
   .refine gL Y λh1 tk H F1 N1=>?_
    try clear Y
    subst H;show aA (aq prog w) _ (IZ oneType' ((refsOf ms).getD i Value.none) ((refsOf ms).getD j Value.none)) C (λ_ _=>False) _;rw[g8 ms hi,g8 ms hj];refine zy (u e1 h1 N1 _ (bH hi)) λdx i1 j1 t1 t2 t3 e=>?_;refine zy (u e1 h1 N1 _ (bH hj)) λaD ax as ar ap aj e'=>?_;exact G8 hu (aa.keeps F1.keep) e rfl rfl e' rfl rfl hf hm λb=>hC b _ trivial (iw h1 tk rfl F1 N1)
   .refine gL Y λh1 tk G F1 N1=>?_
    try clear Y
    subst G;rw[pj ms (ms.head hne) hp.1];exact KasFin.intro F1 N1 (xC U _) λh' c B z=>h _ h' tk c (po ms _ hp.1) B z
 .exact zm F N U (by simpa [refsOf] using h2) λh' c B z=>h ms h' s.toks c (List.Perm.refl _) B z
end
end
section
open W PyProof.Rows
section
variable {prog:Program}{w:World}{A:Around}{E:VP}{env:Env}{h₀:Heap}{target:PE}{body:List Stmt}{Q:FP}{s:Shared}
theorem Bz{I:Addr}{nm:String}{keep:Ns}{vs:List Value}{m:Lo}{news:Ns}(J:Nat→(Lo)→Ns→Prop)(hJ:J 0 m news)
  (turn:∀i v m news o h tk,vs[i]?=some v→J i m news→o.cls=.type nm→Fr h₀ env.locals h m→ba h₀ env.locals h ((I,o)::news)→
   aA (aq prog w) A (dh target env v) (λ_ s₂=>aA (aq prog w) A (kG body env) (mj h₀ env.locals {s with heap:=h,toks:=tk} [(I,o)] (λm' n'=>IU keep n'∧J (i+1) m' n') Q) E s₂) E {s with heap:=h,toks:=tk})
  (done:∀m news h tk,J vs.length m news→Fr h₀ env.locals h m→ba h₀ env.locals h news→Q .next {s with heap:=h,toks:=tk}):
  qR prog w A E h₀ env target body Q s [(I,nm)] keep (vs.map .val) m news:=by
 refine pA J hJ ?_ ?_
 .intro i a m news ha hJ v h tk hv F o ho N
  rw[eS] at ha
  cases e:vs[i]? with
  | none=>rw[e] at ha;cases ha
  | some x=>
   rw[e] at ha;have z:Itm.val x=a:=cS ha;subst z;have u:v=x:=hv;subst u;exact turn i _ m news o h tk e hJ ho F N
 .intro m news h tk hJ F N
  rw[aE] at hJ;exact done m news h tk hJ F N
end
noncomputable def Gu(T:Ns)(q:Addr×Int):Prop:=∃i j t1 t2 t3,(q.1,dU #[.int i t1,.int j t2,.int q.2 t3])∈T
theorem Gu.mono(h:Gu T q)(s:∀p∈T,p∈T'):Gu T' q:=let ⟨a,b,c,d,e,f⟩:=h;⟨a,b,c,d,e,s _ f⟩
structure NS(T:Ns)(NA MB QU D I:Addr)(na:List (Addr×Int))(T2:Ns):Prop where
 h0:∀p∈T,p∈T2
 h1:∀p∈T2,p.1≠NA
 h2:∀p∈T2,p.1≠MB
 h3:∀p∈T2,p.1≠QU
 h4:∀p∈T2,p.1≠D
 h5:∀p∈T2,p.1≠I
 hn:∀q∈na,Gu T2 q
 hpos:∀q∈na,0≤q.2
theorem NS.more{T T2:Ns}{NA MB QU D I t:Addr}{na:List (Addr×Int)}(g:NS T NA MB QU D I na T2){i j k:Int}{w1 w2 w3:Tok}(e1:t≠NA)(e2:t≠MB)(e3:t≠QU)(e4:t≠D)(e5:t≠I)(hk:0≤k):NS T NA MB QU D I (na++[(t,k)]) ((t,dU #[.int i w1,.int j w2,.int k w3])::T2) where
 h0:=λp hp=>zT (g.h0 p hp)
 h1:=zC ⟨e1,g.h1⟩
 h2:=zC ⟨e2,g.h2⟩
 h3:=zC ⟨e3,g.h3⟩
 h4:=zC ⟨e4,g.h4⟩
 h5:=zC ⟨e5,g.h5⟩
 hn:=λq hq=>(aC.mp hq).elim (λh=>(g.hn q h).mono λp hp=>zT hp) λh=>az.mp h▸(Ov i j w1 w2 w3 (zH))
 hpos:=λq hq=>(aC.mp hq).elim (g.hpos q) λh=>az.mp h▸hk
theorem mJ{α:Type}{ms:List (Addr×α)}{i:Nat}{v:Value}(h:(refsOf ms)[i]?=some v):∃q,ms[i]?=some q∧v=.ref q.1:=by
 unfold refsOf at h;rw[eS] at h
 cases e:ms[i]? with
 | none=>rw[e] at h;cases h
 | some q=>rw[e] at h;exact(db q rfl ((cS h).symm))
theorem vO{ms:List (Addr×Int)}{i:Nat}{q:Addr×Int}(h:ms[i]?=some q):ej (ms.take (i+1))=ej (ms.take i)+q.2:=by
 have hl:i<ms.length:=(bz.mp h).1;rw[tW hl,mG];rw[am hl] at h;rw[cS h]
theorem pi(q:Addr×Int)(l:List (Addr×Int)):ej (q::l)=q.2+ej l:=by simp [ej]
theorem BF(h:a.Perm b):ej a=ej b:=by
 induction h with
 | nil=>rfl
 | cons x _ e=>rw[pi,pi,e]
 | swap x y l=>simp only[pi];exact ny (kP [y.snd,x.snd,ej l] (.a Z0 (.a Z1 Z2)) (.a Z1 (.a Z0 Z2)) rfl) (kP [x.snd,y.snd,ej l] (.a Z0 (.a Z1 Z2)) (.a Z1 (.a Z0 Z2)) rfl)
 | trans _ _ a b=>exact a.trans b
theorem Ha(h:a.map (·.2)=b.map (·.2)):ej a=ej b:=by unfold ej;rw[h]
theorem KD{a b:List (Addr×Int)}(h:a.map (·.2)=b.map (·.2)):a.length=b.length:=by have:=congrArg eK h;simpa using this
theorem HN{na:List (Addr×Int)}{T:Ns}{t:Addr}{i j k:Int}{w1 w2 w3:Tok}(h:∀q∈na,Gu T q):∀q∈na++[(t,k)],Gu ((t,dU #[.int i w1,.int j w2,.int k w3])::T) q:=
 λq hq=>(aC.mp hq).elim (λhq=>(h q hq).mono λp hp=>zT hp) λhq=>az.mp hq▸(Ov i j w1 w2 w3 (zH))
end
section
open W PyProof.Rows
open PySem.Builtin
section
variable {prog:Program}{w:World}{A:Around}{E:VP}{s:Shared}{K:Frag}{C r:Addr}{o:Obj}
theorem sC{name:Sr}{id:String}{args:List Value}{Q:Option Value→Shared→Prop}(X:K.In s.heap)(hr:s.heap.get? r=some o)(ho:o.cls=.ref C)(hf:fK K (.ref C) name=some (some (.builtin id)))
  (hb:bindSpecial (.builtin id) (.ref r)=ck (.builtin id,[.ref r])) (h:aA (aq prog w) A (call (.builtin id) (.ref r::args)) (λv=>Q (some v)) E s):aA (aq prog w) A (xb (.ref r) name args) Q E s:=by
 have e:iQ (aq prog w) s.heap (rH (.ref r)) (.ref C):=by
  have:=(kI (M:=aq prog w) (part:=some n8) hr)
  exact ho▸this.andThen .now
 have hl:=ju (M:=aq prog w) X hf;unfold xb tP;exact af (af (e.here (hl.here (bC (af (bV hb (af (ci h (λ_ _ z=>ai z) λ_ _ z=>z))))))))
theorem Hm(F:Fr h₀ L s.heap m)(N:ba h₀ L s.heap news)(u:K.In h₀)(hr:(r,o)∈news)(ho:o.cls=.ref C)(hd:o.data=.seq xs n)
  (hf:fK K (.ref C) "__len__"=some (some (.builtin "tuple.__len__"))) (hm:ls K C (.type "tuple")=some true) (hz:(xs.size:Int)<2 ^ 63) (h:∀tk t,Q (.int xs.size t) {s with toks:=tk}):
  aA (aq prog w) A (call (.builtin "len") [.ref r]) Q E s:=by
 have X:=u.keeps F.keep;have G:=(N _ hr).1
 have z:iQ (aq prog w) s.heap (rH (.ref r)) (.ref C):=by
  have:=(kI (M:=aq prog w) (part:=some n8) G)
  exact ho▸this.andThen .now
 have e:=kb (M:=aq prog w) X hm;have B:iQ (aq prog w) s.heap (jZ (.ref r) (.type "tuple")) true:=z.andThen e;refine xt kind_len plain_len entry_len (args_len1 _) ?_;unfold Builtin.«len»;refine af (m:=oneArg "len" _) (ai ?_);refine af (m:=xb (.ref r) (ae "__len__")) (sC X G ho hf (PySem.F.slot_tuple_len.bind _) ?_);refine eG (fX PySem.F.slot_tuple_len.plain PySem.F.entry_tuple_len (@rL (aq prog w) _ _ _ "tuple.__len__" "tuple" "__len__" (.ref r) [] [] _ (by decide +kernel) (by decide +kernel) B (PySem.F.args_tuple_len_1 _) ?_));unfold Builtin.«tuple.__len__»;refine af (bV (a:=(.ref r,[])) (by kernel_rfl) ?_);refine af (PySem.wpAny_tupleItemsOf G hd ?_)
 have h0:¬((xs.size:Int)<0):=λhh=>(qz (eV [xs.size] 1 Y0 (.k (-1)) 1 (.a Z0 Y1) Y0 1 Y0 Z0 rfl hh j7))
 have h1:¬((xs.size:Int)≥2 ^ 63):=λhh=>MJ hz hh;unfold retInt;refine af (pO ?_);refine ai ?_;refine af (bC (ai ?_));refine af (mh ?_);rw[if_neg h0];rw[if_neg h1];exact af (pO (ai (db _ rfl (h _ _))))
theorem DQ(F:Fr h₀ L s.heap m)(N:ba h₀ L s.heap news)(e:K.In h₀)(hr:(r,o)∈news)(ho:o.cls=.ref C)(hd:o.data=.seq #[a,b,c] n)
  (hf:fK K (.ref C) "__len__"=some (some (.builtin "tuple.__len__"))) (hm:ls K C (.type "tuple")=some true) (h:∀tk t,Q (.int 3 t) {s with toks:=tk}):
  aA (aq prog w) A (call (.builtin "len") [.ref r]) Q E s:=Hm F N e hr ho hd hf hm (eZ (b7 3) (by decide)) h
end
end
section
open W PyProof Rows
theorem vk:Slot "map" "__init__" "object.__init__":=
 .of (owner:="object") (n:="__init__") (by rw[cu,bw];kernel_rfl) (by decide +kernel) (by decide +kernel) (by decide +kernel)
  (by first|exact .inl (by decide +kernel)|exact .inr (by decide +kernel)) (by rw[dz];kernel_rfl)
theorem iL:Slot "map" "__next__" "map.__next__":=
 .of (owner:="map") (n:="__next__") (by rw[cu,bw];kernel_rfl) (by decide +kernel) (by decide +kernel) (by decide +kernel)
  (by first|exact .inl (by decide +kernel)|exact .inr (by decide +kernel)) (by rw[dz];kernel_rfl)
theorem qf:Slot "map" "__iter__" "map.__iter__":=
 .of (owner:="map") (n:="__iter__") (by rw[cu,bw];kernel_rfl) (by decide +kernel) (by decide +kernel) (by decide +kernel)
  (by first|exact .inl (by decide +kernel)|exact .inr (by decide +kernel)) (by rw[dz];kernel_rfl)
theorem oV:kH w9 "map.__next__"=some Builtin.«map.__next__»:=qP (by kernel_rfl)
theorem vx:kH w9 "map.__new__"=some Builtin.«map.__new__»:=qP (by kernel_rfl)
theorem uQ:kH w9 "map.__iter__"=some Builtin.«dict_keyiterator.__iter__»:=
 entryFor_alias (id':="dict_keyiterator.__iter__") (by kernel_rfl) (by decide +kernel) (by decide +kernel) (by kernel_rfl)
theorem qn(a:Value):g5 "map.__next__" ⟨[a],[]⟩:=by unfold g5;kernel_rfl
theorem vB(a:Value):g5 "map.__iter__" ⟨[a],[]⟩:=by unfold g5;kernel_rfl
theorem AR:mroOf (.type "map")=ck [.type "map",.type "object"]:=by rw[mroOf_type];kernel_rfl
theorem uy:gz (.type "map") "__new__"=ck (some (.builtin "map.__new__")):=by rw[cu,bw];kernel_rfl
theorem Ak:TypeCalled "map" "map.__new__" "object.__init__":=
 ⟨by decide +kernel,by decide +kernel,(rp _ _ AR),madeBy_type AR uy (by decide +kernel),by decide +kernel,by rw[dz];kernel_rfl,vk⟩
theorem ud(a b:Value):checkTypeCall "map" ⟨[a,b],[]⟩=ck ():=by kernel_rfl
theorem vl(a b:Value):yP "map.__new__" ⟨[.type "map",a,b],[]⟩=ck ():=by kernel_rfl
theorem zI:gz (.type "map") "__len__"=ck none:=by rw[cu,bw];kernel_rfl
theorem xX:gz (.type "map") "__length_hint__"=ck none:=by rw[cu,bw];kernel_rfl
noncomputable def l8(TI:Addr)(f:Value):Obj:={cls:=.type "map",data:=.fields #[.ref TI,f]}
noncomputable def gW(l:Addr):Obj:={cls:=.type "list_iterator",data:=.fields #[.ref l,.int 0 0]}
theorem Hb:tR (.type "map") (.type "map")=ck true:=by rw[dz];kernel_rfl
theorem vn(q l:Addr)(xs:Array Value):
  GD (Builtin.«map.__new__» ⟨[.type "map",.ref q,.ref l],[]⟩) (λ_ R s=>s.heap.IsList l xs∧
   R (.ok (.ret (.ref (((s.heap.push (gW l)).push (dU #[.ref s.heap.objs.size])).objs.size)))) {s with heap:=((s.heap.push (gW l)).push (dU #[.ref s.heap.objs.size])).push (l8 (s.heap.push (gW l)).objs.size (.ref q))}):=
 .of_wp λprog w A R s h=>by
  obtain ⟨hp,g,d,tk,os⟩:=s;obtain ⟨e,h⟩:=h;have z:=Hb;have u:Heap.IsList (Shared.heap ⟨hp,g,d,tk,os⟩) l xs:=e
  wp_walk using kC u
  exact(db _ rfl h)
section
variable {prog:Program}{w:World}{A:Around}{E:VP}{s:Shared}{h₀:Heap}{L:Addr}{m:Lo}{news:Ns}{Q:VP}{q l:Addr}
theorem FH{its:Array Value}{n:Nat}(F:Fr h₀ L s.heap m)(N:ba h₀ L s.heap news)(hl:(l,listOf its n)∈news)
  (h:∀it tup G h',Fr h₀ L h' m→ba h₀ L h' ((G,l8 tup (.ref q))::(tup,dU #[.ref it])::(it,gW l)::news)→(∀p∈news,p.1<it)→it<tup→tup<G→Q (.ref G) {s with heap:=h'}):
  aA (aq prog w) A (call (.type "map") [.ref q,.ref l]) Q E s:=by
 have H:s.heap.IsList l its:=(c9 _ ((N _ hl).1) rfl ⟨_,rfl⟩)
 refine callType_new Ak (by decide) (ud _ _) (vl _ _) (λB=>PySem.F.args_object_init_3 B _ _) vx (vn q l its) ⟨H,?_⟩;have z1:(s.heap.push (gW l)).objs.size=s.heap.objs.size+1:=gq ..
 have z2:((s.heap.push (gW l)).push (dU #[.ref s.heap.objs.size])).objs.size=s.heap.objs.size+2:=by rw[gq,z1]
 have F3:Fr h₀ L (((s.heap.push (gW l)).push (dU #[.ref s.heap.objs.size])).push (l8 (s.heap.push (gW l)).objs.size (.ref q))) m:=((F.push _).push _).push _;have u:=F.ns.lt;have z:=F.above;refine⟨(db _ (a9 _ rfl) rfl),h s.heap.objs.size (s.heap.push (gW l)).objs.size _ _ F3 ?_ (λp hp=>bO (N p hp).1) (by rw[z1];exact aJ _) (by rw[z1,z2];exact aJ _)⟩;have Y:ba h₀ L (((s.heap.push (gW l)).push (dU #[.ref s.heap.objs.size])).push (l8 (s.heap.push (gW l)).objs.size (.ref q))) news:=N.grown λb x e=>aG _ (aG _ (aG _ e));have U:=jj F;have O:=jj (F.push (gW l));have J:=jj ((F.push (gW l)).push (dU #[.ref s.heap.objs.size]));intro p hp
 rcases ak.mp hp with e|hp
 .subst e;exact(eP (a9 _ rfl) (aF (by rw[z2];exact aO u (bA _ 2))) J)
 .rcases ak.mp hp with e|hp
  .subst e;exact(eP (aG _ (a9 _ rfl)) (aF (by rw[z1];exact aO u (bA _ 1))) O)
  .rcases ak.mp hp with e|hp
   .subst e;exact(eP (aG _ (aG _ (a9 _ rfl))) (aF u) U)
   .exact Y p hp
end
theorem km_P9:True:=by
 k_with "zmt"=>first|with_reducible assumption|with_reducible exact zH|(with_reducible refine zR ?_;k_extra "zmt")|(with_reducible refine zL ?_;k_extra "zmt")|(with_reducible refine zT ?_;k_extra "zmt")
 k_with "zmm"=>first|with_reducible assumption|exact a8 0 rfl|exact a8 1 rfl|exact a8 2 rfl|exact a8 3 rfl|exact a8 4 rfl|exact a8 5 rfl|exact a8 6 rfl|exact a8 7 rfl|exact a8 8 rfl|exact a8 9 rfl|(refine bk 1 ?_;assumption)|(refine bk 2 ?_;assumption)|(refine bk 3 ?_;assumption)|(refine bk 4 ?_;assumption)|(refine bk 5 ?_;assumption)|(refine bk 6 ?_;assumption)|(refine bk 7 ?_;assumption)|(refine bk 8 ?_;assumption)|(refine bk 9 ?_;assumption)|k_extra "zmt"
 k_with "zsu"=>first|exact FN|(refine FC ?_ ?_;(focus k_extra "zmm");k_extra "zsu")|(refine FA ?_ ?_;(focus k_extra "zsu");k_extra "zsu")|(intro p9 hp9;k_extra "zmm")
 trivial
section
variable {prog:Program}{w:World}{A:Around}{E:VP}{s:Shared}{h₀:Heap}{L:Addr}{m:Lo}{news:Ns}
theorem Eu{B tup it q l f:Addr}{self v:Value}{O:Obj}{i n:Nat}{its:Array Value}{Q:Option Value→Shared→Prop}(F:Fr h₀ L s.heap m)(N:ba h₀ L s.heap ((it,O)::(B,l8 tup (.ref q))::(tup,dU #[.ref it])::(q,gf (.ref f) self)::(l,listOf its n)::news))
  (hc:O.cls=.type "list_iterator") (hd:O.data=.fields #[.ref l,.int i 0]) (hx:its[i]?=some v) (off:∀p∈news,p.1≠it) (o1:B≠it) (o2:tup≠it) (o3:q≠it) (o4:l≠it)
  (h:∀h' u,u.cls=.type "list_iterator"→u.data=.fields #[.ref l,.int ((i+1:Nat):Int) 0]→Fr h₀ L h' m→ba h₀ L h' ((it,u)::(B,l8 tup (.ref q))::(tup,dU #[.ref it])::(q,gf (.ref f) self)::(l,listOf its n)::news)→
   dY (aq prog w) A.in1 (.call (.ref f) ⟨[self,v],[]⟩) (λr s'=>match r with | .ok (.ret x)=>Q (some x) s' | .ok _=>False | .error _=>False) {s with heap:=h'}):
  aA (aq prog w) A (kE (.ref B)) Q E s:=by
 have J:=N _ (zH);have k1:=N _ (zT (zH));have k2:=N _ (zT (zT (zH)));have k4:=N _ (zT (zT (zT (zT (zH)))));dsimp only at J k1 k2 k4
 have hT:s.TypeIs (.ref B) "map":=(db _ k1.1 rfl)
 have U:s.heap.IsListIter it l i:=(c9 _ J.1 hc hd)
 have hl:s.heap.IsList l its:=(c9 _ k4.1 rfl ⟨_,rfl⟩)
 unfold kE
 refine af (Ge (ie (name:=ae "__next__") hT iL
  (eE iL hT oV ?_ (qn _))))
 unfold Builtin.«map.__next__»;refine af (bV (a:=(.ref B,[])) (by kernel_rfl) ?_);refine af (sQ k1.1 rfl (x:=.ref tup) rfl ?_);refine af (jg k2.1 rfl ?_);refine af (af (af (bC (wpAny_nextOf_list_item U hl hx λh' h1 hs=>ai (ai ?_)))));refine fM h1 λu g1 g2 g3=>?_
 try clear h1
 have keep:∀b o,b≠it→s.heap.get? b=some o→h'.get? b=some o:=λb o hb e=>hs.extBut b o hb e;have F':Fr h₀ L h' m:=F.change hs J.2.1 J.2.2
 have Y:ba h₀ L h' ((it,u)::(B,l8 tup (.ref q))::(tup,dU #[.ref it])::(q,gf (.ref f) self)::(l,listOf its n)::news):=by
  intro p hp
  rcases ak.mp hp with e|hp
  .subst e;exact⟨g1,J.2⟩
  .have z:=N p (zT hp)
   refine⟨keep _ _ ?_ z.1,z.2⟩
   rcases ak.mp hp with e|hp
   .subst e;exact o1
   .rcases ak.mp hp with e|hp
    .subst e;exact o2
    .rcases ak.mp hp with e|hp
     .subst e;exact o3
     .rcases ak.mp hp with e|hp
      .subst e;exact o4
      .exact off p hp
 have H:=Y _ (zT (zH));have G:=Y _ (zT (zT (zT (zH))));dsimp only at H G;refine af (sQ H.1 rfl (x:=.ref q) rfl ?_);refine af (bC (eG (method_call G.1 ?_)));refine xa (h h' u g2 g3 F' Y) λr s' hr=>?_
 cases r with
 | error e=>exact hr.elim
 | ok fl=>
  cases fl with
  | ret x=>exact af (mh (ai (db _ rfl (ai hr))))
  | _=>exact hr.elim
theorem Hw{u tup it q l f:Addr}{self:Value}{G:Obj}{i n:Nat}{its:Array Value}{Q:Option Value→Shared→Prop}(hh:A.handled=none)(F:Fr h₀ L s.heap m)(N:ba h₀ L s.heap ((it,G)::(u,l8 tup (.ref q))::(tup,dU #[.ref it])::(q,gf (.ref f) self)::(l,listOf its n)::news))
  (hc:G.cls=.type "list_iterator") (hd:G.data=.fields #[.ref l,.int i 0]) (U:its[i]?=none) (off:∀p∈news,p.1≠it) (o1:u≠it) (o2:tup≠it) (o3:q≠it) (o4:l≠it)
  (h:∀h',Fr h₀ L h' m→ba h₀ L h' ((u,l8 tup (.ref q))::(tup,dU #[.ref it])::(q,gf (.ref f) self)::(l,listOf its n)::news)→Q none {s with heap:=h'}):
  aA (aq prog w) A (kE (.ref u)) Q E s:=by
 have B:=N _ (zH);have k1:=N _ (zT (zH));have k2:=N _ (zT (zT (zH)));have k4:=N _ (zT (zT (zT (zT (zH)))));dsimp only at B k1 k2 k4
 have hT:s.TypeIs (.ref u) "map":=(db _ k1.1 rfl)
 have J:s.heap.IsListIter it l i:=(c9 _ B.1 hc hd)
 have hl:s.heap.IsList l its:=(c9 _ k4.1 rfl ⟨_,rfl⟩)
 unfold kE
 refine af (Ge (ie (name:=ae "__next__") hT iL
  (eE iL hT oV ?_ (qn _))))
 unfold Builtin.«map.__next__»;refine af (bV (a:=(.ref u,[])) (by kernel_rfl) ?_);refine af (sQ k1.1 rfl (x:=.ref tup) rfl ?_);refine af (jg k2.1 rfl ?_);refine af (af (af (bC (wpAny_nextOf_list_end (hh) J hl U λh' e hs he=>?_))));refine fN he λoe H O=>?_
 try clear he
 refine af (yJ (T:="StopIteration") (b:=true) (db _ H O) isSubtype_stop ?_)
 have Y:Fr h₀ L h' m:=⟨F.ns.at' (λo e=>hs _ _ B.2.1.symm e),λb x e=>hs b x (λq=>by rw[q,B.2.2] at e;cases e) (F.keep b x e),F.above⟩
 refine ai (h h' Y λp hp=>?_);have z:=N p (zT hp);refine⟨hs _ _ ?_ z.1,z.2⟩
 rcases ak.mp hp with e|hp
 .subst e;exact o1
 .rcases ak.mp hp with e|hp
  .subst e;exact o2
  .rcases ak.mp hp with e|hp
   .subst e;exact o3
   .rcases ak.mp hp with e|hp
    .subst e;exact o4
    .exact off p hp
theorem Ew{U tup it q l f S:Addr}{self ah:Value}{n:Nat}{na:List (Addr×Int)}{T:Ns}{R:Result→Shared→Prop}(hh:A.handled=none)
  (hcall:∀(s:Shared) (news:Ns) (tp:Addr) (x y z:Int) (t1 t2 t3:Tok) (Q:VP),Fr h₀ L s.heap m→ba h₀ L s.heap ((tp,dU #[.int x t1,.int y t2,.int z t3])::news)→
   (∀(r dx:Addr) (h':Heap) (tk':Nat),Fr h₀ L h' m→ba h₀ L h' ((r,dW dx x y z t1 t2 t3)::(tp,dU #[.int x t1,.int y t2,.int z t3])::news)→(∀p∈news,p.1<r)→tp<r→Q (.ref r) {s with heap:=h',toks:=tk'})→
   dY (aq prog w) A.in1.in1 (.call (.ref f) ⟨[self,.ref tp],[]⟩) (λr s'=>match r with | .ok (.ret v)=>Q v s' | .ok _=>False | .error _=>False) s)
  (aQ:na.length≤64) (O:∀p∈na,Gu T p) (aj:∀p∈T,p.1≠it) (ap:∀p∈T,p.1≠S) (o1:U≠it) (o2:tup≠it) (o3:q≠it) (o4:l≠it) (o5:it<S) (o6:U≠S) (o7:tup≠S) (o8:q≠S) (o9:l≠S)
  (hR:∀(mk:List (Addr×Int)) (M:Ns) (c:Nat) (h':Heap) (tk':Nat),mk.map (·.2)=na.map (·.2)→(∀p∈mk,sM M p)→(∀p∈M,S<p.1)→Fr h₀ L h' m→ba h₀ L h' ((S,listOf (refsOf mk).toArray c)::(M++T))→R (.ok (.ret ah)) {s with heap:=h',toks:=tk'}):
  ∀(k i:Nat) (mk:List (Addr×Int)) (M:Ns) (c:Nat) (oi:Obj) (h:Heap) (tk:Nat),na.length-i=k→i≤na.length→oi.cls=.type "list_iterator"→oi.data=.fields #[.ref l,.int i 0]→mk.length=i→mk.map (·.2)=(na.take i).map (·.2)→(∀p∈mk,sM M p)→(∀p∈M,S<p.1)→Fr h₀ L h m→
   ba h₀ L h ((it,oi)::(U,l8 tup (.ref q))::(tup,dU #[.ref it])::(q,gf (.ref f) self)::(l,listOf (refsOf na).toArray n)::(S,listOf (refsOf mk).toArray c)::(M++T))→
   dY (aq prog w) A (.builtin "list.extend.loop" ⟨[.ref S,.ref U,ah],[]⟩) R {s with heap:=h,toks:=tk}:=by
 have oM:∀{M:Ns}{c:Nat}{mk:List (Addr×Int)},(∀p∈M,S<p.1)→∀p∈(S,listOf (refsOf mk).toArray c)::(M++T),p.1≠it:=by
  intro M c mk hM p hp
  rcases ak.mp hp with e|hp
  .subst e;exact aF o5
  .rcases aC.mp hp with hp|hp
   .exact aF (aP o5 (hM p hp))
   .exact aj p hp
 intro k
 induction k with
 | zero=>
  intro i mk M c oi h tk hk hi c1 c2 H J hM u F N;have O:i=na.length:=Po hk hi;subst O;refine eu PySem.F.entry_extend_loop ?_;rw[dm PySem.F.plain_extend_loop _];refine af (Hw (hh) F N c1 c2 (by simp [refsOf]) (oM u) o1 o2 o3 o4 λh' F' Y=>?_);refine ai (hR mk M c h' tk (by rw[J,cT]) hM u F' λp hp=>Y p ?_);exact zT (zT (zT (zT hp)))
 | succ k ih=>
  intro i mk M c oi h tk hk hi c1 c2 H J hM u F N;have B:i<na.length:=Ni hk;refine eu PySem.F.entry_extend_loop ?_;rw[dm PySem.F.plain_extend_loop _];refine af (Eu (v:=.ref (na[i]).1) F N c1 c2 (by simp [refsOf,B]) (oM u) o1 o2 o3 o4 λh1 G aM aD F1 N1=>?_);refine Qd (O _ (bH B)) λx y t1 t2 t3 ar=>?_
  have N2:ba h₀ L h1 ((na[i].1,dU #[.int x t1,.int y t2,.int na[i].2 t3])::_):=Ek N1 (by
   exact zT (zT (zT (zT (zT (zT (zR ar)))))))
  refine xa (hcall {s with heap:=h1,toks:=tk} _ _ _ _ _ _ _ _ (λv s'=>∃(r dx:Addr) (h':Heap) (tk':Nat),v=.ref r∧s' = {s with heap:=h',toks:=tk'}∧Fr h₀ L h' m∧ba h₀ L h' ((r,dW dx x y na[i].2 t1 t2 t3)::(it,G)::(U,l8 tup (.ref q))::(tup,dU #[.ref it])::(q,gf (.ref f) self)::(l,listOf (refsOf na).toArray n)::(S,listOf (refsOf mk).toArray c)::(M++T))∧S<r) F1 N2 λr dx h' tk' F' Y l1 _=>(zQ r dx h' tk' rfl rfl F' (λp hp=>Y p ?_) (l1 (S,listOf (refsOf mk).toArray c) (by k_extra "zmm")))) λr s' hr=>?_
  .rcases ak.mp hp with e|hp
   .subst e;exact zH
   .exact zT (zT hp)
  cases r with
  | error e=>exact hr.elim
  | ok fl=>
   cases fl with
   | ret v=>
    refine zA hr λr dx h' tk' ab aa F' Y ax=>?_
    try clear hr
    subst ab;subst aa;have kS:=Y (S,listOf (refsOf mk).toArray c) (by k_extra "zmm");dsimp only at kS;refine af ?_
    obtain ⟨c',as⟩:∃c',(h'.update S (bJ (·.push (.ref r)))).get? S=some (listOf ((refsOf mk).toArray.push (.ref r)) c'):=⟨_,fF kS.1 (·.push (.ref r))⟩
    have e9:listOf ((refsOf mk).toArray.push (.ref r)) c'=listOf (refsOf (mk++[(r,na[i].2)])).toArray c':=J4 _;rw[e9] at as
    have N3:ba h₀ L (h'.update S (bJ (·.push (.ref r)))) ([(r,dW dx x y na[i].2 t1 t2 t3),(it,G),(U,l8 tup (.ref q)),(tup,dU #[.ref it]),(q,gf (.ref f) self),(l,listOf (refsOf na).toArray n)]++(S,listOf (refsOf (mk++[(r,na[i].2)])).toArray c')::(M++T)):=by
     refine Mp (o:=listOf (refsOf mk).toArray c) Y ?_ ?_ (cE ..) as
     .intro p hp
      simp only[ak,bT,or_false] at hp
      rcases hp with e|e|e|e|e|e<;>subst e
      .exact aF ax
      .exact aB o5
      .exact o6
      .exact o7
      .exact o8
      .exact o9
     .intro p hp
      rcases aC.mp hp with hp|hp
      .exact aF (u p hp)
      .exact ap p hp
    have hsz:(refsOf mk).toArray.size=i:=by simp [refsOf,H]
    refine jL kS.1 rfl (ai ⟨gZ PySem.F.plain_extend_loop _,ih (i+1) (mk++[(r,na[i].2)]) ((r,dW dx x y na[i].2 t1 t2 t3)::M) c' G _ tk' (by lia) (fy B) aM aD (by simp [H]) ?_ ?_ ?_ (F'.change (cE ..) kS.2.1 kS.2.2) ?_⟩)
     (by rw[hsz,eQ];lia) (by refine(?_:((refsOf mk).toArray.push _).size≤ec+1);rw[Array.size_push,hsz,eQ];lia)
    .rw[aX,J,tW B,aX];rfl
    .intro p hp
     rcases aC.mp hp with hp|hp
     .exact(hM p hp).mono λz hz=>zT hz
     .rw[az.mp hp];exact(B3 dx x y t1 t2 t3 (zH))
    .exact zC ⟨ax,u⟩
    .intro p hp
     refine N3 p ?_;simp only[ak,aC,fJ,ip] at hp ⊢
     rcases hp with e|e|e|e|e|e|e|e|e
     .exact .inr (.inl e)
     .exact .inr (.inr (.inl e))
     .exact .inr (.inr (.inr (.inl e)))
     .exact .inr (.inr (.inr (.inr (.inl e))))
     .exact .inr (.inr (.inr (.inr (.inr (.inl e)))))
     .exact .inr (.inr (.inr (.inr (.inr (.inr (.inl e))))))
     .exact .inl e
     .exact .inr (.inr (.inr (.inr (.inr (.inr (.inr (.inl e)))))))
     .exact .inr (.inr (.inr (.inr (.inr (.inr (.inr (.inr e)))))))
   | _=>exact hr.elim
end
section
variable {prog:Program}{w:World}{A:Around}{E:VP}{s:Shared}{h₀:Heap}{L:Addr}{m:Lo}{news:Ns}
theorem zr(u:s.heap.get? e=some (l8 tup f))(h:Q (.ref e) s):aA (aq prog w) A (rK (.ref e)) Q E s:=by
 have hT:s.TypeIs (.ref e) "map":=(db _ u rfl)
 refine wpAny_pyIter_slot hT qf (eE qf hT uQ ?_ (vB _));exact ai ⟨_,rfl,"map",_,hT,iL.lookup,h⟩
theorem ED{u tup it q l f:Addr}{self:Value}{n:Nat}{na:List (Addr×Int)}{T:Ns}{Q:VP}(hh:A.handled=none)
  (hcall:∀(s:Shared) (news:Ns) (tp:Addr) (x y z:Int) (t1 t2 t3:Tok) (Q:VP),Fr h₀ L s.heap m→ba h₀ L s.heap ((tp,dU #[.int x t1,.int y t2,.int z t3])::news)→
   (∀(r dx:Addr) (h':Heap) (tk':Nat),Fr h₀ L h' m→ba h₀ L h' ((r,dW dx x y z t1 t2 t3)::(tp,dU #[.int x t1,.int y t2,.int z t3])::news)→(∀p∈news,p.1<r)→tp<r→Q (.ref r) {s with heap:=h',toks:=tk'})→
   dY (aq prog w) A.in1.in1.in1 (.call (.ref f) ⟨[self,.ref tp],[]⟩) (λr s'=>match r with | .ok (.ret v)=>Q v s' | .ok _=>False | .error _=>False) s)
  (F:Fr h₀ L s.heap m) (N:ba h₀ L s.heap ((u,l8 tup (.ref q))::(tup,dU #[.ref it])::(it,gW l)::(q,gf (.ref f) self)::(l,listOf (refsOf na).toArray n)::T))
  (ab:na.length≤64) (ax:∀p∈na,Gu T p) (Y:∀p∈T,p.1≠it) (o1:u≠it) (o2:tup≠it) (o3:q≠it) (o4:l≠it)
  (h:∀(S:Addr) (mk:List (Addr×Int)) (M:Ns) (c:Nat) (h':Heap) (tk':Nat),mk.map (·.2)=na.map (·.2)→(∀p∈mk,sM M p)→(∀p∈M,S<p.1)→(∀p∈T,p.1<S)→Fr h₀ L h' m→ba h₀ L h' ((S,listOf (refsOf mk).toArray c)::(M++T))→Q (.ref S) {s with heap:=h',toks:=tk'}):
  aA (aq prog w) A (call (.type "list") [.ref u]) Q E s:=by
 have lt:∀p∈((u,l8 tup (.ref q))::(tup,dU #[.ref it])::(it,gW l)::(q,gf (.ref f) self)::(l,listOf (refsOf na).toArray n)::T),p.1<s.heap.objs.size:=λp hp=>bO (N p hp).1
 refine callType_codes (Q₁:=λaa s₁=>aa=.ref s.heap.objs.size∧s₁ = {s with heap:=s.heap.push {cls:=.type "list",data:=.seq #[]} }) PySem.F.called_list (PySem.F.typeCall_list_1 _) PySem.F.entry_list_init
  (code_list_new _ ⟨rfl,rfl⟩) λaa s₁ G=>?_
 refine b8 G λU O=>?_
 try clear G
 subst U;subst O;have hS:(s.heap.push {cls:=.type "list",data:=.seq #[]}).get? s.heap.objs.size=some (listOf #[] 0):=a9 _ rfl;refine(eP (db _ hS rfl) (PySem.F.args_list_init_2 _ _) ?_);have F1:Fr h₀ L (s.heap.push {cls:=.type "list",data:=.seq #[]}) m:=F.push _;have N1:ba h₀ L (s.heap.push {cls:=.type "list",data:=.seq #[]}) ((u,l8 tup (.ref q))::(tup,dU #[.ref it])::(it,gW l)::(q,gf (.ref f) self)::(l,listOf (refsOf na).toArray n)::T):=N.grown λb x e=>aG _ e;have ah:s.heap.objs.size≠L:=aF F.ns.lt;have ar:h₀.get? s.heap.objs.size=none:=jj F;have B:∀p∈((u,l8 tup (.ref q))::(tup,dU #[.ref it])::(it,gW l)::(q,gf (.ref f) self)::(l,listOf (refsOf na).toArray n)::T),p.1≠s.heap.objs.size:=λp hp=>aB (lt p hp)
 have cj:∀{h1 h2:Heap}{o:Obj},Fr h₀ L h1 m→ba h₀ L h1 ((u,l8 tup (.ref q))::(tup,dU #[.ref it])::(it,gW l)::(q,gf (.ref f) self)::(l,listOf (refsOf na).toArray n)::T)→Heap.SameBut s.heap.objs.size h1 h2→
   Fr h₀ L h2 m∧ba h₀ L h2 ((u,l8 tup (.ref q))::(tup,dU #[.ref it])::(it,gW l)::(q,gf (.ref f) self)::(l,listOf (refsOf na).toArray n)::T):=λ{h1 h2 o} F N hs=>
  ⟨F.change hs ah ar,λp hp=>⟨(hs.2 p.1 (B p hp)).trans (N p hp).1,(N p hp).2⟩⟩
 show aA _ A.in1.in1 (do let as ← mD (.ref s.heap.objs.size);lX (.ref s.heap.objs.size) (λ_=>#[]);letGo as.toList.reverse;kc (.ref s.heap.objs.size) (.ref u) .none) _ _ _;refine af ?_;unfold mD;refine af (jg hS rfl (ai ?_));show aA _ _ (Gx s.heap.objs.size (λ_=>#[]) >>= λ_=>letGo (#[]:Array Value).toList.reverse >>= λ_=>kc (.ref s.heap.objs.size) (.ref u) .none) _ _ _;refine af (jL hS rfl ?_)
 obtain ⟨c2,ap⟩:∃c,((s.heap.push {cls:=.type "list",data:=.seq #[]}).update s.heap.objs.size (bJ (λ_=>(#[]:Array Value)))).get? s.heap.objs.size=some (listOf #[] c):=⟨_,fF hS λ_=>#[]⟩
 obtain ⟨F2,N2⟩:=cj (o:=gW l) F1 N1 (cE ..);refine af (mh ?_);unfold kc;have kM:=N2 _ (zH)
 have H:Shared.TypeIs {s with heap:=(s.heap.push {cls:=.type "list",data:=.seq #[]}).update s.heap.objs.size (bJ (λ_=>(#[]:Array Value)))} (.ref u) "map":=(db _ kM.1 rfl)
 refine af (nD H ?_)
 have h1:tU (.ref s.heap.objs.size) (.ref u)=false:=by
  have:s.heap.objs.size≠u:=(B _ (zH)).symm;simp [tU,this]
 have h2:(oX "map" == oX "list")=false:=by decide
 have h3:(oX "map" == oX "tuple")=false:=by decide
 rw[h1];refine af (zr kM.1 ?_);refine af (bC ?_);unfold Builtin.List.listLengthHint;refine af (Ar H zI ?_);show aA _ _ (tP (bG u) (ae "__length_hint__") >>= _) _ _ _;refine af (Ar H xX ?_);refine ai ?_
 show aA _ _ (rule "list.extend.makes-room" >>= λ_=>Builtin.List.listTouch (.ref s.heap.objs.size) >>= λ_=>
  Mo (.builtin "list.extend.loop" ⟨[.ref s.heap.objs.size,.ref u,.none],[]⟩)) _ _ _
 refine af (gy ?_);refine af ?_;show aA _ _ (Gx s.heap.objs.size (·.push .none) >>= λ_=>Gx s.heap.objs.size (·.pop)) _ _ _;refine af (jL ap rfl ?_)
 obtain ⟨c3,aj⟩:∃c,(((s.heap.push {cls:=.type "list",data:=.seq #[]}).update s.heap.objs.size (bJ (λ_=>(#[]:Array Value)))).update s.heap.objs.size (bJ (·.push Value.none))).get? s.heap.objs.size=some (listOf #[.none] c):=⟨_,fF ap (·.push Value.none)⟩
 refine b8 (cj (o:=gW l) F2 N2 (cE _ _ (bJ (·.push Value.none)))) λF3 N3=>?_;refine jL (hz:=by seq_fits) aj rfl ?_
 obtain ⟨c4,aD⟩:∃c,((((s.heap.push {cls:=.type "list",data:=.seq #[]}).update s.heap.objs.size (bJ (λ_=>(#[]:Array Value)))).update s.heap.objs.size (bJ (·.push Value.none))).update s.heap.objs.size (bJ (·.pop))).get? s.heap.objs.size=some (listOf #[] c):=⟨_,fF aj (·.pop)⟩
 refine b8 (cj (o:=gW l) F3 N3 (cE _ _ (bJ (·.pop)))) λF4 J=>?_;refine ai ⟨gZ PySem.F.plain_extend_loop _,?_⟩;have ne:∀(a:Addr) (o:Obj),(a,o)∈((u,l8 tup (.ref q))::(tup,dU #[.ref it])::(it,gW l)::(q,gf (.ref f) self)::(l,listOf (refsOf na).toArray n)::T)→a≠s.heap.objs.size:=λa o hm=>B (a,o) hm;refine Ew (A:=A.in1) (f:=f) (self:=self) (q:=q) (l:=l) (it:=it) (tup:=tup) (n:=n) (na:=na) (T:=T) (h₀:=h₀) (L:=L) (m:=m) (s:=s) hh hcall ab ax Y (λp hp=>B p (by k_extra "zmm")) o1 o2 o3 o4 (lt (it,gW l) (by k_extra "zmm")) (ne u (l8 tup (.ref q)) (by k_extra "zmm")) (ne tup (dU #[.ref it]) (by k_extra "zmm")) (ne q (gf (.ref f) self) (by k_extra "zmm")) (ne l (listOf (refsOf na).toArray n) (by k_extra "zmm")) (λmk M c h' tk' e1 e2 e3 F' N'=>?_) _ 0 [] [] c4 (gW l) _ s.toks rfl (cr _) rfl rfl rfl rfl (λ_ h=>nomatch h) (λ_ h=>nomatch h) F4 ?_
 .exact⟨rfl,h _ mk M c h' tk' e1 e2 e3 (λp hp=>lt p (by k_extra "zmm")) F' N'⟩
 .intro p hp
  simp only[ip,ak] at hp
  rcases hp with e|e|e|e|e|e|e
  .exact J p (by simp [e])
  .exact J p (by simp [e])
  .exact J p (by simp [e])
  .exact J p (by simp [e])
  .exact J p (by simp [e])
  .subst e;exact(eP aD ah ar)
  .exact J p (by k_extra "zmm")
end
theorem J7{a b:List (Addr×Int)}(h:a.map (·.2)=b.map (·.2))(hb:∀q∈b,0≤q.2):∀q∈a,0≤q.2:=by
 intro q hq;have:q.2∈b.map (·.2):=h▸fZ hq;refine fN (eA.mp this) λz u e=>?_;exact e▸hb z u
theorem DM{na:List (Addr×Int)}{t:Addr}{k:Int}(h:∀q∈na,0≤q.2)(hk:0≤k):∀q∈na++[(t,k)],0≤q.2:=
 λq hq=>(aC.mp hq).elim (h q) λh=>az.mp h▸hk
section
variable {prog:Program}{w:World}{A:Around}{E:VP}{s:Shared}{K:Frag}{C r:Addr}{o:Obj}
theorem DS(X:K.In s.heap)(hr:s.heap.get? r=some o)(ho:o.cls=.ref C)(hd:o.data=.seq xs n)
  (hf:fK K (.ref C) "__getitem__"=some (some (.builtin "tuple.__getitem__"))) (hm:ls K C (.type "tuple")=some true) (hq:ls K C (.type "collections.deque")=some false)
  (ab : -(2 ^ 63)≤k) (ah:k<2 ^ 63) (hj:seqIndex? k xs.size=some j) (hx:xs[j]?=some x) (h:Q x s)
  (hs:autoParam (j8 z false (.ref r) (.int k u)=tQ [.ref r,.int k u] (pP (.ref r) (.int k u))) zAc):
  aA (aq prog w) A (subscriptTail U z (.ref r) (.int k u)) Q E s:=by
 have B:iQ (aq prog w) s.heap (rH (.ref r)) (.ref C):=by
  have:=(kI (M:=aq prog w) (part:=some n8) hr)
  exact ho▸this.andThen .now
 have hl:=ju (M:=aq prog w) X hf;have J:=kb (M:=aq prog w) X hm;have aa:=kb (M:=aq prog w) X hq;have Y:iQ (aq prog w) s.heap (jZ (.ref r) (.type "tuple")) true:=B.andThen J;unfold subscriptTail getitemInPython;refine af (af (af (B.here (hl.here ?_))));refine ai ?_;rw[hs]
 have item:aA (aq prog w) A (pP (.ref r) (.int k u)) (λv s'=>Q v s') E s:=by
  unfold pP
  try with_reducible refine bC ?_
  first|refine af (ai ?_)|skip
  have O:aA (aq prog w) A (sequenceKey (.ref r) (.int k u) (ae "__getitem__")) (λv s'=>v=.int k u∧s=s') E s:=by
   unfold sequenceKey;refine af (B.here ?_);refine af (m:=seqItemTypes.anyM λn=>tR (.ref C) (.type n)) ?_;refine af (m:=tR (.ref C) (.type "collections.deque")) (aa.here ?_);exact ai (ai ⟨rfl,rfl⟩)
  refine af (ci O (λv s' hv=>?_) λ_ _ e=>e);refine b8 hv λH G=>?_
  try clear hv
  subst H;subst G;refine af (sC X hr ho hf (slot_tuple_getitem.bind _) ?_);refine eG (fX slot_tuple_getitem.plain entry_tuple_getitem (@rL (aq prog w) _ _ _ "tuple.__getitem__" "tuple" "__getitem__" (.ref r) [.int k u] [] _ (by decide +kernel) (by decide +kernel) Y (args_tuple_getitem _ _) ?_));unfold Builtin.«tuple.__getitem__»;refine af (bV (a:=(.ref r,[.int k u])) (by kernel_rfl) ?_);refine af (PySem.wpAny_tupleItemsOf hr hd ?_);refine af (nD (iE s k u) ?_);rw[if_neg (by decide)];refine af (Ar (T:="int") (iE s k u) int_index ?_);rw[if_neg (by simp)];refine af (bV (a:=k) rfl ?_);rw[if_neg (by simp only[gB,decide_eq_true_eq];lia)];simp only[hj,Option.bind_some,hx];exact ai (ai h)
 refine af (wpAny_operating (ci item (λv s' hv=>?_) λ_ _ e=>e));exact af (wpAny_letTemporaryGo (ai hv))
end
section
variable {prog:Program}{w:World}{A:Around}{E:VP}{s:Shared}{gp:Program}{gl:List Sr}{mean:ExcName→Option Value}{mg mb:Lo}{h₀:Heap}{L c P:Addr}{m:Lo}
theorem xN(n:Nat):passing (λ_=>true) n 0=aV n:=by unfold passing;simp
inductive Ma(prog:Program)(w:World)(h₀:Heap)(L P:Addr)(m:Lo)(elt:PE)(x:Sr)(scope:Scope)(cl:List (Sr×Addr))(env:Env)(Q:VP)(A:Around)(s₁:Shared)(xv:Value):Prop
 | mk (r:Addr) (items:Array Value) (n:Nat) (ps:Array Value) (news:Ns) (F:Nat→Value→Prop) (e:xv=.ref r) (hF:Fr h₀ L s₁.heap m) (hN:ba h₀ L s₁.heap ((r,listOf items n)::(P,bS ps)::news)) (ht:ee ps.toList) (hG:dB s₁.gens) (hr:r≠P) (hn:∀p∈news,p.1≠P)
   (hel:∀(A':Around) (E':VP) (i:Nat) (v:Value) (s₂:Shared) (m₂:Lo) (Cx:Addr) (code:Value),A'.handled=none→items[i]?=some v→s₂.heap.Ns Cx m₂→m₂ x=some v→
    (∀b o,b≠P→s₁.heap.get? b=some o→s₂.heap.get? b=some o)→aA (aq prog w) A' (eval elt (genEnv scope cl Cx code builtinsNs env)) (λy s₃=>F i y∧Keeps s₂ s₃) E' s₂)
   (hQ:∀(a:Addr) (s₅:Shared) (ps':Array Value) (Kb:Addr),ee ps'.toList→Fr h₀ L s₅.heap m→ba h₀ L s₅.heap ((r,listOf items n)::(P,bS ps')::news)→dB s₅.gens→s₅.os=s₁.os→L≤Kb→
    (∀p∈(r,listOf items n)::(P,bS ps')::news,p.1≤Kb)→y7 prog w A Kb a items.size (λj y=>∃i,(aV items.size)[j]?=some i∧F i y) s₅→Q (.ref a) s₅)
theorem EU
  (_F₀:Fr h₀ L s.heap m) (T:Top gp gl mean mg mb h₀) (Cd:IV h₀ c P) (hg:env.globals=gS) (as:env.code=.ref c) (hh:A.handled=none) (c6:scope.isCoroutine=false) (bb:fC scope env=ck cl)
  (bh:∀y∈scope.names,y.2≠.cell) (h0:scope.names.lookup (".0" : Sr)=some NameKind.local) (hx:scope.names.lookup x=some .local) (hkind:scope.kind=.function) (a5:A.depth<aH)
  (h:aA (aq prog w) A (eval iter env) (λxv s₁=>L9 (Ma prog w h₀ L P m elt x scope cl env Q A s₁ xv)) E s)
  (hs:∀x,genFold iter env x=ck x):
  aA (aq prog w) A (eval (.GeneratorExp elt [⟨.Name x px,iter,[],0⟩] scope pos) env) Q E s:=by
 refine wpAny_GeneratorExp_walksQ hh c6 bb bh h0 hx hkind a5 (ci h (λxv s₁ bo=>?_) λ_ _ e=>e) hs;obtain ⟨r,items,n,ps,news,F,rfl,aD,H,ht,cD,bv,c2,hel,hQ⟩:=bo;have hr:=(H _ (zH)).1
 have hl:s₁.heap.IsList r items:=(c9 _ hr rfl ⟨n,rfl⟩)
 have ab:r<s₁.heap.objs.size:=bO hr;refine kC hl ?_;generalize hI:({cls:=.type "list_iterator",data:=.fields #[.ref r,.int 0 0]} : Obj)=oI;have up:∀b o,s₁.heap.get? b=some o→(s₁.heap.push oI).get? b=some o:=λb o e=>aG _ e;have br:(s₁.heap.push oI).objs.size=s₁.heap.objs.size+1:=gq ..;have J:Fr h₀ L (s₁.heap.push oI) m:=aD.keeps up;have cC:=H.grown up;have cc:(s₁.heap.push oI).NoLimit:=T.nolimit.keeps J.keep;have bl:=cC _ (zT (zH));have U:=bl.1;have cy:=bl.2.2;have cx:=bl.2.1;have a7:(s₁.heap.push oI).get? s₁.heap.objs.size=some oI:=a9 _ (by rw[← hI];rfl);have dg:s₁.heap.objs.size≠P:=aF (bO (H _ (zT (zH))).1);refine⟨cc,?_⟩
 have a4:∀(cv:Value) (z:Heap) (ah:Nat) (ps':Array Value),C7 P (s₁.heap.push oI) z→(s₁.heap.push oI).objs.size≤z.objs.size→z.get? P=some (bS ps')→ee ps'.toList→
   aA (aq prog w) A (builtinsFor env.globals env.builtins) (λbi u=>
    ∃I fp wr Y Pi ax pz F,bG s₁.heap.objs.size=.ref I∧(∀A':Around,A'.handled=none→y5 prog w A' I fp wr Y Pi ax)∧ax 0 u.heap∧(∀b∈fp,b<u.heap.objs.size)∧u.heap.NoLimit∧n9∉wr∧
     (∀aj:Heap,(∀b o,u.heap.get? b=some o→aj.get? b=some o)→
      QuietGen prog w (genEnv scope cl u.heap.objs.size cv bi env) x [] elt (aV u.heap.objs.size) wr Pi pz F aj)∧
     (∀a aa tk gs,gs.bare=true→u.heap.objs.size<a→aa.objs.size=a+1→(∀b o,u.heap.get? b=some o→aa.get? b=some o)→
      WalksS prog w A.in4 a (a::u.heap.objs.size::aV u.heap.objs.size) (u.heap.objs.size::wr) (GenOnlyQ u.gens.size) (passing pz Y 0).length
       (λj y=>∃i,(passing pz Y 0)[j]?=some i∧F i y) (GenAt prog w A.in4 a u.gens.size u.heap.objs.size (aV u.heap.objs.size) wr pz Y F)→
      GenAt prog w A.in4 a u.gens.size u.heap.objs.size (aV u.heap.objs.size) wr pz Y F 0 {u with gens:=u.gens.push gs,toks:=tk,heap:=aa}→
      Q (.ref a) {u with gens:=u.gens.push gs,toks:=tk,heap:=aa})) E {s₁ with heap:=z,toks:=ah}:=by
  intro cv z ah ps' O aQ bj c1;refine NB T.bmain λbm ob b1 b2 b3 b4 b5 b6=>?_;have B:∀b o,b≠P→s₁.heap.get? b=some o→z.get? b=some o:=λb o hb e=>O b o hb (up b o e);have G:∀b o,h₀.get? b=some o→z.get? b=some o:=λb o e=>O b o (λq=>by rw[q,cy] at e;cases e) (J.keep b o e)
  have cQ:Fr h₀ L z m:=⟨J.ns.at' λo e=>O L o (Ne.symm cx) e,G,J.above⟩
  have ap:z.NoLimit:=T.nolimit.keeps G;have a0:s₁.heap.objs.size<z.objs.size:=aO (by rw[br];exact aJ _) aQ;have cz:=T.keeps G;rw[hg];refine wpAny_builtinsFor cz.g b1 b2 (G _ _ b3) b4 b5 b6 ?_;have cn:n9<s₁.heap.objs.size:=let ⟨_,hn,_⟩:=T.nolimit.keeps aD.keep;hn.lt
  have cB:ba h₀ L z ((r,listOf items n)::(P,bS ps')::news):=by
   intro p hp
   rcases ak.mp hp with e|hp
   .have:=H p (e▸zH)
    exact⟨B _ _ (by rw[e];exact bv) this.1,this.2⟩
   .rcases ak.mp hp with e|hp
    .subst e;exact(eP bj cx cy)
    .have:=H p (zT (zT hp))
     exact⟨B _ _ (c2 p hp) this.1,this.2⟩
  refine(Ot s₁.heap.objs.size [s₁.heap.objs.size,r] [s₁.heap.objs.size] items.size _ _ (λ_=>true) F rfl (λA' hA=>su hA _ _ (aB ab) items) ⟨⟨oI,O _ _ dg a7,by rw[← hI],by rw[← hI];rfl⟩,⟨_,B _ _ bv hr,rfl,n,rfl⟩⟩ ?_ ap ?_ ?_ ?_)
  .intro b hb
   rcases ak.mp hb with rfl|hb
   .exact a0
   .rw[az.mp hb];exact aP ab a0
  .intro hm
   exact absurd (az.mp hm▸cn) (da _)
  .intro aj a6
   exact {tests:=λA' E' i v s₂ m₂ hA hP hn ca hk=>wpAny_tests_nil ⟨rfl,s₂.heap,s₂.toks,rfl,λ_ _ e=>e⟩,elt:=λA' E' i v s₂ m₂ hA hP _ hn ca hk=>hel A' E' i v s₂ m₂ _ cv hA hP hn ca λb o hb e=>hk b (bE.mpr (aP (bO e) a0)) (λhm=>absurd (az.mp hm▸bO e) (da _)) o (a6 _ _ (B b o hb e))}
  .intro a aa tk gs c5 cw aM ar W dd
   have cM:=cQ.keeps ar;have cA:=cB.grown ar;have C4:∀b,b<s₁.heap.objs.size→b≤s₁.heap.objs.size-1:=λb hb=>lm hb;have hpos:0<s₁.heap.objs.size:=aK (cr _) ab;refine hQ a _ ps' (s₁.heap.objs.size-1) c1 cM cA (cD.push c5) rfl (C4 _ aD.ns.lt) ?_ ?_
   .intro p hp
    rcases ak.mp hp with e|hp
    .rw[e];exact C4 _ ab
    .rcases ak.mp hp with e|hp
     .rw[e];exact C4 _ (bO (H _ (zT (zH))).1)
     .exact C4 _ (bO (H p (zT (zT hp))).1)
   .rw[xN,de] at W
    refine(Qv _ _ _ _ W dd (λi s' st=>st.1.typeIs) (zH) ?_ ?_)
    .intro b hb
     rw[aM]
     rcases ak.mp hb with rfl|hb
     .exact aJ _
     .rcases ak.mp hb with rfl|hb
      .exact aW cw
      .exact aW (aP (bE.mp hb) cw)
    .intro b hb
     have:s₁.heap.objs.size-1<s₁.heap.objs.size:=Nat.sub_lt hpos Nat.one_pos
     rcases ak.mp hb with rfl|hb
     .exact aP this a0
     .rw[az.mp hb];exact this
 cases b0:nL pos ps.toList with
 | some cv=>exact wpAny_genexprCode_hit as ((Cd.keeps J.keep).code U ht) b0 (a4 cv _ _ ps (λ_ _ _ e=>e) (aS _) U ht)
 | none=>
  refine wpAny_genexprCodeX as ((Cd.keeps J.keep).code U ht) ((Cd.keeps J.keep).tab U) b0 λc' h' tk hx c4 c3 cd dj c0 _=>?_
  exact a4 _ _ _ _ hx (aw c4 (aN c3)) c0.2 (by
   obtain ⟨_,_,_,_,_,_,_,_,_,_,_,_,_,_,_,_,_,_,_,cU,_⟩:=cd
   exact cU)
end
noncomputable def vo(mk:List (Addr×Int))(j:Nat):Int:=(mk[j]?.map (·.2)).getD 0
theorem lU(mk:List (Addr×Int)):∀j,j≤mk.length→vE (vo mk) j=ej (mk.take j)
 | 0,_=>rfl
 | j+1,h=>by
  have e:mk[j]?=some mk[j]:=am h;refine(?_:vE (vo mk) j+vo mk j=_);rw[lU mk j (iG h),vO e];unfold vo;rw[e];rfl
theorem lR:∀{l:List (Addr×Int)},(∀q∈l,0≤q.2)→0≤ej l
 | [],_=>b7 _
 | q::l,h=>by
  rw[pi];have:=h q (zH);have:=lR (l:=l) λp hp=>h p (zT hp);exact eV [q.snd,ej l] 1 Y0 (.a Z0 Z1) 1 Y0 Z1 1 Y0 Z0 rfl this (‹0≤q.snd›)
theorem zj(l:List (Addr×Int))(j:Nat):ej l=ej (l.take j)+ej (l.drop j):=by
 conv=>lhs;rw[← CR j l]
 unfold ej;rw[aX,List.sum_append]
theorem KY(h:∀q∈mk,0≤q.2)(j:Nat)(hj:j<mk.length):0≤vo mk j∧vo mk j≤ej mk∧0≤vE (vo mk) (j+1)∧vE (vo mk) (j+1)≤ej mk:=by
 have e1:=lU mk (j+1) hj;have e0:=lU mk j (aN hj);have n0:=lR (l:=mk.take j) λq hq=>h q (gD hq);have n1:=lR (l:=mk.drop (j+1)) λq hq=>h q (gE hq);have B:=zj mk (j+1);have e2:vE (vo mk) (j+1)=vE (vo mk) j+vo mk j:=rfl
 have z:0≤vo mk j:=by
  unfold vo;rw[am hj];exact h _ (bH hj)
 have G:0≤vE (vo mk) j:=e0▸n0
 have u:vE (vo mk) (j+1)≤ej mk:=by rw[e1,B];exact fA n1
 have e:vo mk j≤vE (vo mk) (j+1):=by rw[e2];exact nG G
 exact⟨z,cF e u,cF z e,u⟩
theorem Dn(h:pM xs ys a b c d t):a≤b→c≤d→0≤t∧t≤b-a∧t≤d-c:=by
 induction h with
 | none _=>intro h1 h2;exact⟨b7 0,dX h1,dX h2⟩
 | split h1 h2 h3 h4 h5 _ _ _ i1 i2=>
  intro u e;have:=i1 h1 h2;have:=i2 h4 h5;omega
section
variable {prog:Program}{w:World}{A:Around}{E:VP}{s:Shared}{h₀:Heap}{L a Kb:Addr}{m:Lo}{news:Ns}
theorem BE(F:Fr h₀ L s.heap m)(N:ba h₀ L s.heap news)(G:dB s.gens)(hK:L≤Kb)(hN:∀p∈news,p.1≤Kb)
  (X:y7 prog w A Kb a (refsOf mk).toArray.size (λj y=>∃i,(aV (refsOf mk).toArray.size)[j]?=some i∧∃t,y=eY (vo mk i) t) s)
  (hpos:∀q∈mk,0≤q.2) (hz:ej mk≤1000) (h:∀s' t,Fr h₀ L s'.heap m→ba h₀ L s'.heap news→dB s'.gens→s'.os=s.os→Q (.int (ej mk) t) s'):
  aA (aq prog w) A (call (.builtin "sum") [.ref a]) Q E s:=by
 have e:(refsOf mk).toArray.size=mk.length:=by simp [refsOf]
 rw[e] at X;refine sum_rowsK F G X hK (vo mk) (λj v hv=>?_) (λj hj=>?_) λs' B J H ho hk=>?_
 .refine fN hv λi hi u=>?_
  try clear hv
  refine cp u λt z=>?_
  try clear u
  subst z
  have:j=i:=by
   rw[lO] at hi
   .exact cS hi
   .exact(by simpa using (bz.mp hi).1)
  exact⟨t,by rw[this]⟩
 .have:=KY hpos j hj
  unfold InLong;omega
 .rw[lU mk _ (aS _),cT]
  exact h s' B J (λp hp=>⟨hk _ _ (hN p hp) (N p hp).1,(N p hp).2⟩) H ho
end
section
variable {prog:Program}{w:World}{A:Around}{E:VP}{s:Shared}{h₀ h:Heap}{L P:Addr}{K:Frag}{m:Lo}
theorem Fl{x:Sr}{scope:Scope}{cl:List (Sr×Addr)}{Cx bi q dx:Addr}{code:Value}{env:Env}{px B z u:Pos}{i j k:Int}{t1 t2 t3:Tok}{G:Nat}(X:K.In s.heap)
  (hf:fK K (.ref 171) "__getitem__"=some (some (.builtin "tuple.__getitem__"))) (hm:ls K 171 (.type "tuple")=some true) (hq:ls K 171 (.type "collections.deque")=some false)
  (hk:scope.kind=.function) (hl:scope.names.lookup x=some .local) (hd:(x==("__debug__" : Sr))=false) (hn:s.heap.Ns Cx m) (hv:m x=some (.ref q)) (ho:s.heap.get? q=some (dW dx i j k t1 t2 t3)):
  aA (aq prog w) A (eval (.Subscript (.Name x px) (.UnaryOp .USub (.Constant (.int 1) G B) z) u) (genEnv scope cl Cx code bi env)) (λy s₃=>(∃t,y=eY k t)∧Keeps s s₃) E s:=by
 refine oa (CD (sP hk hl hn hv ?_) hd);rw[eval_UnaryOp];refine af (nZ ?_);refine af (gY (bC (neg_int ?_)));refine DS (K:=K) (C:=171) (o:=dW dx i j k t1 t2 t3) X ho rfl rfl hf hm hq (by decide) (by decide) (j:=2) (by rfl) (by rfl) ?_;exact⟨⟨_,rfl⟩,s.heap,_,rfl,λ_ _ e=>e⟩
theorem Dr(N:ba h₀ L h (a++T))(hP:(P,o)∈T):ba h₀ L h ((P,o)::(a++T.filter λp=>p.1 != P)):=by
 intro p hp
 rcases ak.mp hp with e|hp
 .exact N p (e▸zR hP)
 .rcases aC.mp hp with hp|hp
  .exact N p (zL hp)
  .exact N p (zR (bZ.mp hp).1)
theorem HO(N:ba h₀ L h (a++T))(hP:(P,bS ps)∈T)(hq:sM T q):sM (T.filter λp=>p.1 != P) q:=by
 refine zy hq λdx i j t1 t2 t3 hm=>?_
 try clear hq
 refine(B3 dx i j t1 t2 t3 (bZ.mpr ⟨hm,?_⟩));have h1:=(N _ (zR hm)).1;have h2:=(N _ (zR hP)).1
 have hne:q.1≠P:=λe=>by
  dsimp only at h1 h2;rw[e,h2] at h1;cases h1
 simpa using hne
theorem uo{T:Ns}:∀p∈T.filter (λp=>p.1 != P),p.1≠P:=λp hp=>by simpa using (bZ.mp hp).2
theorem J9{T news:Ns}(h:∀p∈news,p∈T)(hn:∀p∈news,p.1≠P):∀p∈news,p∈T.filter (λp=>p.1 != P):=λp hp=>bZ.mpr ⟨h p hp,by simpa using hn p hp⟩
theorem kt{T:Ns}{q:Addr×Obj→Prop}(h:∀p∈T,q p):∀p∈T.filter (λp=>p.1 != P),q p:=λp hp=>h p (bZ.mp hp).1
end
theorem zi{h₀ h:Heap}{L P a:Addr}{o:Obj}{ps:Array Value}{news:Ns}(N:ba h₀ L h news)(h1:(a,o)∈news)(h2:(P,bS ps)∈news)(hc:o.cls≠.none):a≠P:=λe=>by
 have u:=(N _ h1).1;have z:=(N _ h2).1;dsimp only at u z;rw[e,z] at u;cases u;exact hc rfl
section
variable {prog:Program}{w:World}{A:Around}{E:VP}{s:Shared}{h₀:Heap}{L:Addr}{m:Lo}{news:Ns}
theorem yr{α:Type}{K:ItemKind α}{U:List α}{xv:Value}{env:Env}{J O:Sr}{body:List Stmt}{Q:FP}(S:PairSrcL prog w A E h₀ L K U xv s m news)(Y:env.locals=L)(hz:U=[])
  (h:∀h' tk,Fr h₀ L h' m→ba h₀ L h' news→Q .next {s with heap:=h',toks:=tk}):
  aA (aq prog w) A (rK xv) (λit s₂=>PairAt3 prog w A h₀ env J O body Q E it s₂) E s:=by
 subst Y;subst hz;refine S.at env rfl J O body Q (λ_ e z=>e=m∧z=news) ⟨rfl,rfl⟩ (λi a t v e H s₁ own _ hi=>nomatch hi) ?_;intro h' tk e z F N _ u;refine b8 u λG B=>?_;clear u;subst G;subst B;exact h h' tk F N
end
noncomputable def uW(h₀:Heap)(L I:Addr)(oI:Obj)(l:Addr)(lo:Obj)(s₀:Shared)(J:(Lo)→Ns→Nat→Prop)(Q:FP):vd→Shared→Prop
 | .next,s'=>∃m' n' tb,tb≤s'.toks∧dB s'.gens∧s'.os=s₀.os∧Fr h₀ L s'.heap m'∧ba h₀ L s'.heap ((I,oI)::(l,lo)::n')∧(∀p∈n',p.1≠I)∧J m' n' tb
 | .cont,s'=>∃m' n' tb,tb≤s'.toks∧dB s'.gens∧s'.os=s₀.os∧Fr h₀ L s'.heap m'∧ba h₀ L s'.heap ((I,oI)::(l,lo)::n')∧(∀p∈n',p.1≠I)∧J m' n' tb
 | .brk,s'=>Q .next s'
 | .ret v,s'=>Q (.ret v) s'
section
variable {prog:Program}{w:World}{A:Around}{E:VP}{s:Shared}{h₀:Heap}{m:Lo}{news:Ns}{env:Env}
theorem DB{x:Sr}{px pos:Pos}{iter:PE}{body:List Stmt}{l:Addr}{vs:List Value}{n:Nat}{Q:FP}(F:Fr h₀ env.locals s.heap m)(N:ba h₀ env.locals s.heap ((l,listOf vs.toArray n)::news))(hg:dB s.gens)
  (hh:A.handled=none) (hx:env.kindOf x=some .local) (hp:(env.scope.kind == .class||(env.scope.kind == .module&&env.locals != env.globals))=false)
  (cB:∀Q':Value→Shared→Prop,Q' (.ref l) s→aA (aq prog w) A (eval iter env) Q' E s) (hs:∀x,bX iter env x=ck x)
  (J:Nat→(Lo)→Ns→Nat→Prop) (hJ:J 0 m news 0)
  (turn:∀i v O u tb I oI s',vs[i]?=some v→J i O u tb→tb+1≤s'.toks→dB s'.gens→s'.os=s.os→Fr h₀ env.locals s'.heap (λy=>if y=x then some v else O y)→ba h₀ env.locals s'.heap ((I,oI)::(l,listOf vs.toArray n)::u)→
   oI.cls=.type "list_iterator"→(∀p∈u,p.1≠I)→l≠I→aA (aq prog w) A (kG body env) (uW h₀ env.locals I oI l (listOf vs.toArray n) s (J (i+1)) Q) E s')
  (done:∀O u tb s',J vs.length O u tb→dB s'.gens→s'.os=s.os→Fr h₀ env.locals s'.heap O→ba h₀ env.locals s'.heap ((l,listOf vs.toArray n)::u)→Q .next s')
  (hE:autoParam (lG (aq prog w) A env E) zAf):
  aA (aq prog w) A (exec (.For (.Name x px) iter body [] pos) env) Q E s:=by
 refine wpAny_For (cB _ ?_) hs;have b4:=N _ (zH)
 have hl:s.heap.IsList l vs.toArray:=(c9 _ b4.1 rfl ⟨n,rfl⟩)
 have cy:l<s.heap.objs.size:=bO b4.1;refine kC hl ?_;generalize hI:({cls:=.type "list_iterator",data:=.fields #[.ref l,.int 0 0]} : Obj)=bh;have up:∀b o,s.heap.get? b=some o→(s.heap.push bh).get? b=some o:=λb o e=>aG _ e;have ca:=F.ns.lt;have hne:l≠s.heap.objs.size:=aB cy;have W:=su (prog:=prog) (w:=w) hh s.heap.objs.size l hne vs.toArray
 refine codeAny_forLoop
  (λk s'=>∃i m' n' tb oI,tb≤s'.toks∧k=vs.length+1-i∧i≤vs.length∧s'.heap.IsListIter s.heap.objs.size l i∧dB s'.gens∧s'.os=s.os∧Fr h₀ env.locals s'.heap m'∧ba h₀ env.locals s'.heap ((s.heap.objs.size,oI)::(l,listOf vs.toArray n)::n')∧(∀p∈n',p.1≠s.heap.objs.size)∧J i m' n' tb)
  ?_ (vs.length+1) (Qs 0 m news 0 bh (cr _) rfl (cr _) ⟨bh,a9 _ (by rw[← hI];rfl),by rw[← hI],by rw[← hI];rfl⟩ hg rfl (F.keeps up) ?_ (λp hp=>aB (bO (N p (zT hp)).1)) hJ)
 .intro k s' a4
  refine Qa a4 λi m' n' tb oI cx bm hi b5 G' ho F' N' off hj=>?_;clear a4;subst bm;have aQ:=N' _ (zH);have cz:=N' _ (zT (zH))
  have ap:s'.heap.IsList l vs.toArray:=(c9 _ cz.1 rfl ⟨n,rfl⟩)
  have aj:∀{G:Heap},(∀b o,b∉[s.heap.objs.size]→s'.heap.get? b=some o→G.get? b=some o)→Fr h₀ env.locals G m'∧ba h₀ env.locals G ((l,listOf vs.toArray n)::n'):=by
   intro G hk;refine⟨⟨F'.ns.at' λo e=>hk _ o (by simpa using (Ne.symm aQ.2.1)) e,λb o e=>hk b o (λhm=>by rw[az.mp hm,aQ.2.2] at e;cases e) (F'.keep b o e),F'.above⟩,λp hp=>?_⟩;have:=N' p (zT hp);refine⟨hk _ _ ?_ this.1,this.2⟩
   rcases ak.mp hp with e|hp
   .rw[e];simpa using hne
   .simpa using off p hp
  by_cases ah:i<vs.length
  .have hsz:i<vs.toArray.size:=by simpa using ah
   refine wpAny_with_toks (n:=tb) cx ?_;refine W.item i s' _ _ hsz ⟨b5,ap⟩ λv G a7 cC aM aa=>?_;intro ax;refine b8 (aj aa) λH U=>?_
   have b6:vs[i]?=some v:=by simpa using cC
   refine fM aM.1 λB bj ar bl=>?_;refine w8 (Jx hx H.ns (λa5 bi Y=>?_) hp);have cM:s.heap.objs.size≠env.locals:=aQ.2.1;have cD:h₀.get? env.locals=none:=C6 H.above
   have cw:Fr h₀ env.locals a5 (λy=>if y=x then some v else m' y):=⟨bi,λb o e=>Y.extBut b o (λq=>by rw[q,cD] at e;cases e) (H.keep b o e),H.above⟩
   have cd:ba h₀ env.locals a5 ((s.heap.objs.size,B)::(l,listOf vs.toArray n)::n'):=by
    intro p hp
    rcases ak.mp hp with e|hp
    .rw[e];exact⟨Y.extBut _ _ cM bj,aQ.2⟩
    .exact⟨Y.extBut _ _ (U p hp).2.1 (U p hp).1,(U p hp).2⟩
   refine wpAny_passesOwn hE (ci (turn i v m' n' tb _ B _ b6 hj (g6 ax) G' ho cw cd ar off hne) (λf z ab=>?_) λ_ _ e=>e)
   have fin:(∃m' n' tb,tb≤z.toks∧dB z.gens∧z.os=s.os∧Fr h₀ env.locals z.heap m'∧ba h₀ env.locals z.heap ((s.heap.objs.size,B)::(l,listOf vs.toArray n)::n')∧(∀p∈n',p.1≠s.heap.objs.size)∧J (i+1) m' n' tb)→
     ∃k',k'<vs.length+1-i∧∃i m' n' tb oI,tb≤z.toks∧k'=vs.length+1-i∧i≤vs.length∧z.heap.IsListIter s.heap.objs.size l i∧dB z.gens∧z.os=s.os∧Fr h₀ env.locals z.heap m'∧ba h₀ env.locals z.heap ((s.heap.objs.size,oI)::(l,listOf vs.toArray n)::n')∧(∀p∈n',p.1≠s.heap.objs.size)∧J i m' n' tb:=by
    intro a0;refine Qf a0 λbv br bb aD cc bo cn a6 as b0=>?_;clear a0;exact(db (vs.length+1-(i+1)) (ltN (eV [↑(vs.length+1-(i+1)),↑(vs.length+1-i),vs.length,i] 1 (.a Z0 Y1) Z1 1 (.a Z2 Y1) (.a Z1 Z3) 1 (.a Z0 (.a Z3 Y1)) (.a Z2 Y1) rfl C1 (xK (cW [i,vs.length] 1 (.a Z0 Y1) (.a Z1 Y1) 1 (.a Z0 Y1) Z1 rfl (ef ah))))) ⟨i+1,bv,br,bb,B,aD,rfl,ah,⟨B,(a6 _ (zH)).1,ar,bl⟩,cc,bo,cn,a6,as,b0⟩)
   cases f with
   | next=>exact fin ab
   | cont=>exact fin ab
   | brk=>exact ab
   | ret v=>exact ab
  .have cA:i=vs.length:=iy hi (cL ah)
   subst cA;refine W.done s' _ _ ?_ λG a7 aa=>fg ?_
   .have e:vs.toArray.size=vs.length:=by simp
    rw[e];exact⟨b5,ap⟩
   .refine b8 (aj aa) λH U=>?_
    exact done m' n' tb _ hj G' ho H U
 .intro p hp
  rcases ak.mp hp with e|hp
  .rw[e];exact(eP (a9 _ (by rw[← hI];rfl)) (aF ca) (jj F))
  .exact⟨up _ _ (N p hp).1,(N p hp).2⟩
end
noncomputable def HX(x c:UInt64):Bool:=cY x c==some pS||cY x c==some dk
noncomputable def kq(t n:Int):UInt64:=jk (fY 4611686018427387904 (bF t)) (bF n)
noncomputable def jq(T:Ns)(q:Addr×List Int):Prop:=∃va ep,(q.1,listOf va.toArray ep)∈T∧au va q.2∧q.2.length≤32∧q.2.Nodup
noncomputable def AV(av:Value)(T:Ns):Prop:=(∃t,av=.str "" t)∨∃(l2:Addr) (vs2:List Value) (e2:Nat),av=.ref l2∧(l2,listOf vs2.toArray e2)∈T
theorem AV.mono(h:AV av T)(s:∀p∈T,p∈T'):AV av T':=h.elim Or.inl λ⟨a,b,c,d,e⟩=>Or.inr ⟨a,b,c,d,s _ e⟩
noncomputable def MK(ys:List Int)(q:Addr×List Int)(mk:List (Addr×Int))(r:Addr)(T:Ns):Prop:=
 pM q.2 ys 0 q.2.length 0 ys.length (ej mk)∧mk.length≤34∧(∀x∈mk,0≤x.2)∧(∀x∈mk,sM T x)∧∀p∈T,p.1≠r
theorem MK.small(h:MK ys q mk r T)(hq:q.2.length≤32):ej mk≤1000:=by
 have:=Dn h.1 (j7) (j7);exact eV [ej mk,q.snd.length] 1 Z0 (.k 1000) 1 Z0 (.s Z1 Y0) 1 Z1 (.k 32) rfl this.2.1 (ef hq)
structure GC(ys:List Int)(kvj:List (Int×Value))(R:List (Addr×List Int))(pass:Addr×List Int→Bool)(scr:Addr×List Int→UInt64)(news:Ns)(D RS:Addr)(T:Ns)(outs:List (Addr×(Addr×List Int)))(i tb:Nat):Prop where
 h0:∀p∈news,p∈T
 hD:∀p∈T,p.1≠D
 h256:∀p∈T,p.1≠256
 hR:∀p∈T,p.1≠RS
 hb:yI ys kvj T
 ho:∃tok:Addr→Tok,(∀o∈outs,tok o.1≠0∧tok o.1<tb∧(o.1,dU #[.float (scr o.2) (tok o.1),.ref o.2.1])∈T)∧∀o∈outs,∀o'∈outs,tok o.1=tok o'.1→o=o'
 hm:outs.map (·.2)=(R.take i).filter pass
section
variable {ys:List Int}{kvj:List (Int×Value)}{R:List (Addr×List Int)}{pass:Addr×List Int→Bool}{scr:Addr×List Int→UInt64}{news:Ns}{D RS:Addr}{T:Ns}{outs:List (Addr×(Addr×List Int))}{i tb tb':Nat}{q:Addr×List Int}
theorem GC.mono(g:GC ys kvj R pass scr news D RS T outs i tb)(s:∀p∈T,p∈T')(h1:∀p∈T',p.1≠D)(h2:∀p∈T',p.1≠256)(h3:∀p∈T',p.1≠RS):GC ys kvj R pass scr news D RS T' outs i tb where
 h0:=λp hp=>s p (g.h0 p hp)
 hD:=h1
 h256:=h2
 hR:=h3
 hb:=jY g.hb s
 ho:=let ⟨tok,h1,h2⟩:=g.ho;⟨tok,λo h=>⟨(h1 o h).1,(h1 o h).2.1,s _ (h1 o h).2.2⟩,h2⟩
 hm:=g.hm
theorem GC.skip(g:GC ys kvj R pass scr news D RS T outs i tb)(hq:R[i]?=some q)(hp:pass q=false):GC ys kvj R pass scr news D RS T outs (i+1) tb where
 h0:=g.h0
 hD:=g.hD
 h256:=g.h256
 hR:=g.hR
 hb:=g.hb
 ho:=g.ho
 hm:=by rw[g.hm,fu,hq];simp [cJ,hp]
theorem GC.add(g:GC ys kvj R pass scr news D RS T outs i tb)(hq:R[i]?=some q)(hp:pass q=true)(B:tk≠0)(u:tb≤tk)(z:tk<tb')(G:∀p∈T,p.1<t)(e1:t≠D)(e2:t≠256)(e3:t≠RS):
  GC ys kvj R pass scr news D RS ((t,dU #[.float (scr q) tk,.ref q.1])::T) (outs++[(t,q)]) (i+1) tb' where
 h0:=λp hp=>zT (g.h0 p hp)
 hD:=zC ⟨e1,g.hD⟩
 h256:=zC ⟨e2,g.h256⟩
 hR:=zC ⟨e3,g.hR⟩
 hb:=jY g.hb λp hp=>zT hp
 ho:=by
  refine fN g.ho λtok h1 h2=>?_;have hne:∀o∈outs,o.1≠t:=λo h=>aB (G _ (h1 o h).2.2);refine(db (λa=>if a=t then tk else tok a) (λo h=>?_) (λo h o' h' e=>?_))
  .rcases aC.mp h with h|h
   .dsimp only
    rw[if_neg (hne o h)];exact(eP ((h1 o h).1) (aO (h1 o h).2.1 (aw u (aN z))) (zT (h1 o h).2.2))
   .rw[az.mp h]
    dsimp only;rw[if_pos rfl];exact(eP B z (zH))
  .dsimp only at e
   rcases aC.mp h with h|h<;>rcases aC.mp h' with h'|h'
   .rw[if_neg (hne o h),if_neg (hne o' h')] at e
    exact h2 o h o' h' e
   .rw[az.mp h'] at e
    dsimp only at e;rw[if_neg (hne o h),if_pos rfl] at e;exact absurd (e▸(h1 o h).2.1) (I4.mpr u)
   .rw[az.mp h] at e
    dsimp only at e;rw[if_neg (hne o' h'),if_pos rfl] at e;exact absurd (e▸(h1 o' h').2.1) (I4.mpr u)
   .rw[az.mp h,az.mp h']
 hm:=by rw[aX,g.hm,fu,hq];simp [cJ,hp]
theorem GC.len(g:GC ys kvj R pass scr news D RS T outs i tb):outs.length≤i:=by
 have:=congrArg eK g.hm;rw[aE] at this;rw[this];exact aw (bU _ _) (by rw[eO];exact jy _ _)
end
section
variable {h₀ h:Heap}{L P:Addr}
theorem x8(N:ba h₀ L h (a++T))(hP:(P,o)∈T)(hc:o.cls≠.ref 171)(hq:sM T q):sM (T.filter λp=>p.1 != P) q:=by
 refine zy hq λdx i j t1 t2 t3 hm=>?_
 try clear hq
 refine(B3 dx i j t1 t2 t3 (bZ.mpr ⟨hm,?_⟩));have h1:=(N _ (zR hm)).1;have h2:=(N _ (zR hP)).1
 have hne:q.1≠P:=λe=>by
  dsimp only at h1 h2;rw[e,h2] at h1;cases h1;exact hc rfl
 simpa using hne
end
theorem DC{h₀:Heap}{L I l:Addr}{oI lo:Obj}{e s':Shared}{J:(Lo)→Ns→Nat→Prop}{Q:FP}{m':Lo}{n':Ns}{tb:Nat}(u:tb≤s'.toks)(F:Fr h₀ L s'.heap m')(N:ba h₀ L s'.heap ((I,oI)::(l,lo)::n'))
  (g:dB s'.gens) (o:s'.os=e.os) (off:∀p∈n',p.1≠I) (j:J m' n' tb):uW h₀ L I oI l lo e J Q .next s':=(Qx m' n' tb u g o F N off j)
theorem zw(N:ba h₀ L h news)(h1:(a,o)∈news)(h2:(b,o')∈news)(hc:o.cls≠o'.cls):a≠b:=λe=>by
 have u:=(N _ h1).1;have z:=(N _ h2).1;dsimp only at u z;rw[e,z] at u;cases u;exact hc rfl
theorem dict_cls{α:Type}[DecidableEq α]{prog:Program}{w:World}{knd:PySem.KeyKind prog w α}{o:Obj}{kvs:List (α×Value)}(h:o.IsDictOf knd kvs):o.cls=.type "dict":=by
 refine pU h λes ep e _=>?_
 try clear h
 exact e.1
theorem Bo{ys:List Int}{kvs:List (Int×Value)}{h₀ h:Heap}{L P:Addr}{o:Obj}{a T:Ns}(N:ba h₀ L h (a++T))(hP:(P,o)∈T)(hne:∀(j:Int) (t:Tok) (ep:Nat),o≠listOf #[.int j t] ep)(hb:yI ys kvs T):yI ys kvs (T.filter λp=>p.1 != P):=
 ⟨hb.1,λj n e=>let ⟨x,t,ep,h1,h2⟩:=hb.2 j n e;⟨x,t,ep,h1,bZ.mpr ⟨h2,by
  have u:=(N _ (zR h2)).1;have z:=(N _ (zR hP)).1
  have:x≠P:=λe=>by
   dsimp only at u z;rw[e,z] at u;exact hne _ _ _ (cS u)
  simpa using this⟩⟩⟩
theorem iO{P:Addr}{p:Addr×Obj}{T:Ns}(h:p∈T)(hn:p.1≠P):p∈T.filter λx=>x.1 != P:=bZ.mpr ⟨h,by simpa using hn⟩
theorem MK.mono(h:MK ys q mk r T)(s:∀p∈T,p∈T')(h2:∀p∈T',p.1≠r):MK ys q mk r T':=
 (OB h.1 h.2.1 h.2.2.1 (λx e=>(h.2.2.2.1 x e).mono s) h2)
noncomputable def Ap(prog:Program)(w:World)(cv:Value)(ge:UInt64→Bool):Prop:=∀(A:Around) (E:VP) (s:Shared) (x:UInt64) (t:Tok) (Q:VP),Q (.bool (ge x)) s→aA (aq prog w) A (fo .GtE (.float x t) cv) Q E s
noncomputable def MP(prog:Program)(w:World)(cv:Value):Prop:=∀(A:Around) (E:VP) (s:Shared) (t:Tok) (Q:VP),Q (.bool true) s→aA (aq prog w) A (fo .LtE (.float 0 t) cv) Q E s
noncomputable def MO(prog:Program)(w:World)(cv:Value):Prop:=∀(A:Around) (E:VP) (s:Shared) (t:Tok) (Q:VP),Q (.bool true) s→aA (aq prog w) A (fo .LtE cv (.float 4607182418800017408 t)) Q E s
section
variable {prog:Program}{A:Around}{h₀:Heap}{L:Addr}{m:Lo}{env:Env}
theorem yw{x u:Sr}{px:Pos}{scope:Scope}{cl:List (Sr×Addr)}{s:Shared}{ax:Addr}{its:Array Value}{Fin:List Value→Ns→Prop}{news:Ns}{outs:List (Addr×(Addr×List Int))}{scr:Addr×List Int→UInt64}
  (G:its=(refsOf outs).toArray) (ho:∀o∈outs,∃tk,(o.1,dU #[.float (scr o.2) tk,.ref o.2.1])∈news) (S:MW h₀ ax its news) (U:∀C,(fq scope cl C env).scope.kind=.function) (Y:∀C,(fq scope cl C env).kindOf u=some .local)
  (hd:(u==("__debug__" : Sr))=false) (hF:Fin (outs.map λo=>.ref o.2.1) news):
  ∀(k i:Nat) (ys:List Value),i+k=outs.length→ys=(outs.take i).map (λo=>.ref o.2.1)→LCp.CompRestP prog W0 A h₀ L m env (.Name u px) x u scope cl s (MW h₀ ax its) (λi v=>its[i]?=some v) Fin k i ys news:=by
 intro k
 induction k with
 | zero=>
  intro i ys hi H;have e:i=outs.length:=vm (cW [i,outs.length] 1 Z0 Z1 1 (.a Z0 Y0) Z1 rfl (vX hi)) (cW [outs.length,i] 1 Z0 Z1 1 Z0 (.a Z1 Y0) rfl (l9 hi));subst e;rw[cT] at H;subst H;exact hF
 | succ k ih=>
  intro i ys hi H;refine xn λv hv=>?_
  have O:(refsOf outs)[i]?=some v:=by rw[G] at hv;simpa using hv
  refine fN (mJ O) λo B z=>?_;subst z;refine cp (ho o (cq B)) λtk hm=>?_;refine(EP o.1 _ _ _ _ rfl hm rfl rfl (λI oI C oC D m₂ h tk E' hC hx J F N off ne=>?_));refine LCgL.ld_own N (zT (zH)) hC J ?_ (U C) (Y C) hd;refine LCg.CompEnd.intro F N news (λp hp=>hp) off S (ih (i+1) _ (O6 hi) ?_);subst H;rw[fu,B];simp
end
noncomputable def ss(W0:World)(nn:Int)(scr:Addr×List Int→UInt64)(Pre:List (Addr×(Addr×List Int))→Prop)(Rel:List (Addr×(Addr×List Int))→List (Addr×(Addr×List Int))→Prop):Prop:=
 ∀(gp:Program) (gl:List Sr) (mean:ExcName→Option Value) (mg mb:Lo) (dp un:Nat) (gd:Option (List sU)) (cn:Sr) (cs:Scope) (a:Addr) (ccd:Value) (cl:List (Sr×Addr)) (outer:List Env) (A₀:Around) (base h₀:Heap) (L:Addr) (m:Lo)
  (news:Ns) (s:Shared) (Q E:VP) (RS:Addr) (re:Nat) (outs:List (Addr×(Addr×List Int))) (tn:Tok),qU A₀ base outer h₀→Fr h₀ L s.heap m→(hd.heap_1 W0.params).In h₀→ba h₀ L s.heap ((RS,listOf (refsOf outs).toArray re)::news)→Top gp gl mean mg mb h₀→cs.kind=.function→
  dp+20<aH→un+200<cX→outs.length≤40→Pre outs→(∃tok:Addr→Tok,(∀o∈outs,tok o.1≠0∧(o.1,dU #[.float (scr o.2) (tok o.1),.ref o.2.1])∈news)∧∀o∈outs,∀o'∈outs,tok o.1=tok o'.1→o=o')→(∀o∈outs,jq news o.2)→
  (∀(NR:Addr) (outs2:List (Addr×(Addr×List Int))) (c2:Nat) (h':Heap) (tk':Nat),Rel outs outs2→(∀o∈outs2,o∈outs)→outs2.length≤40→(∀p∈news,p.1<NR)→Fr h₀ L h' m→ba h₀ L h' ((NR,listOf (refsOf outs2).toArray c2)::news)→Q (.ref NR) {s with heap:=h',toks:=tk'})→
  aA (aq cH.row.prog W0) (ij dp un gd cn cs L a ccd cl outer) (call (.ref 288) [.int nn tn,.ref RS]) Q E s
theorem xQ:∀{l:Ns},LCg.Off1 D l→∀p∈l,p.1≠D
 | [],_,_,h=>nomatch h
 | _::_,x,p,h=>by
  rcases ak.mp h with e|h
  .rw[e];exact x.1
  .exact xQ x.2 p h
noncomputable abbrev P0:Program:=cH.row.prog
structure Fm(W0:World)(cs:Scope) where
 gp:Program
 gl:List Str
 mean:ExcName→Option Value
 mg:Lo
 mb:Lo
 dp:Nat
 un:Nat
 gd:Option (List sU)
 cn:Str
 L:Addr
 a:Addr
 ccd:Value
 cl:List (Str×Addr)
 outer:List Env
 A₀:Around
 base:Heap
 h₀:Heap
 s:Shared
 E:Value→Shared→Prop
 P:Shared→Prop
 B:qU A₀ base outer h₀
 X:(hd.heap_1 W0.params).In h₀
 T:Top gp gl mean mg mb h₀
 hk:cs.kind=.function
 hE:lG (aq P0 W0) (ij dp un gd cn cs L a ccd cl outer) (yR cn cs L a ccd cl) E
 hP:∀h tk,P {s with heap:=h,toks:=tk}
section
variable {cs:Scope}
noncomputable abbrev Fm.A(c:Fm W0 cs):Around:=ij c.dp c.un c.gd c.cn cs c.L c.a c.ccd c.cl c.outer
noncomputable abbrev Fm.env(c:Fm W0 cs):Env:=yR c.cn cs c.L c.a c.ccd c.cl
inductive Fm.Is(c:Fm W0 cs)(m:Lo)(n:Ns)(s:Shared):Prop
 | mk (h:Heap) (tk:Nat) (e:s = {c.s with heap:=h,toks:=tk}) (F:Fr c.h₀ c.L h m) (N:ba c.h₀ c.L h n)
noncomputable def Fm.Lib(c:Fm W0 cs)(m:Lo)(n:Ns)(s:Shared):Prop:=s.os=c.s.os∧c.P s∧Fr c.h₀ c.L s.heap m∧ba c.h₀ c.L s.heap n
noncomputable def Fm.Fin(c:Fm W0 cs)(f:vd)(m:Lo)(n:Ns)(s:Shared):Prop:=match f with
 | .ret _=>c.Lib m n s
 | _=>c.Is m n s
structure Cx(c:Fm W0 cs)(sc:Scope) where
 env:Env
 E:Value→Shared→Prop
 Is:Lo→Ns→Shared→Prop
 hsc:env.scope=sc
 exA:List Addr
 opn:∀{m:Lo}{n:Ns}{s:Shared},Is m n s→∃m0 ex,ex.map (·.1)=exA∧Fr c.h₀ c.L s.heap m0∧ba c.h₀ c.L s.heap (ex++n)∧∀h' tk n',Fr c.h₀ c.L h' m0→ba c.h₀ c.L h' (ex++n')→Is m n' {s with heap:=h',toks:=tk}
 load:∀{m:Lo}{n:Ns}{s:Shared}{x:Str}{pos:Pos}{v:Value}{Q:VP},Is m n s→m x=some v→sc.names.lookup x=some .local→(x==("__debug__" : Str))=false→Q v s→aA (aq P0 W0) c.A (eval (.Name x pos) env) Q E s
inductive Bq where
 | val (v:Value)
 | int (i:Int)
 | flt (x:UInt64)
noncomputable def Bq.den:Bq→Value→Prop
 | .val v,x=>x=v
 | .int i,x=>∃t,x=.int i t
 | .flt f,x=>∃t,x=.float f t
structure Ev{c:Fm W0 cs}{sc:Scope}(k:Cx c sc)(m:Lo)(n:Ns)(e:PE)(a:Bq):Prop where
 run:∀(Q:VP) s,k.Is m n s→(∀v s',a.den v→k.Is m n s'→Q v s')→aA (aq P0 W0) c.A (eval e k.env) Q k.E s
structure Tw{c:Fm W0 cs}{sc:Scope}(k:Cx c sc)(m:Lo)(n:Ns)(e:PE)(wh:Sem Value)(b:Bool):Prop where
 run:∀(Q:Bool→Shared→Prop) s,k.Is m n s→(∀s',k.Is m n s'→Q b s')→aA (aq P0 W0) c.A (isTrue e k.env wh) Q k.E s
structure Er{c:Fm W0 cs}{sc:Scope}(k:Cx c sc)(m:Lo)(n:Ns)(e:PE)(P:Value→Ns→Prop):Prop where
 run:∀(Q:VP) s,k.Is m n s→(∀v n' s',P v n'→k.Is m n' s'→Q v s')→aA (aq P0 W0) c.A (eval e k.env) Q k.E s
noncomputable abbrev Re:=vd→Lo→Ns→Prop
structure Ex(c:Fm W0 cs)(m:Lo)(n:Ns)(st:Stmt)(R:Re):Prop where
 run:∀(Q:FP) s,c.Is m n s→(∀f m' n' s',R f m' n'→c.Fin f m' n' s'→Q f s')→aA (aq P0 W0) c.A (exec st c.env) Q c.E s
structure cN(c:Fm W0 cs)(m:Lo)(n:Ns)(sts:List Stmt)(R:Re):Prop where
 run:∀(Q:FP) s,c.Is m n s→(∀f m' n' s',R f m' n'→c.Fin f m' n' s'→Q f s')→aA (aq P0 W0) c.A (kG sts c.env) Q c.E s
noncomputable def md(c:Fm W0 cs)(rest:List Stmt)(R:Re)(f:vd)(m:Lo)(n:Ns):Prop:=match f with
 | .next=>cN c m n rest R
 | f=>R f m n
noncomputable def cj(m:Lo)(x:Str)(v:Value):Lo:=λy=>if y=x then some v else m y
variable {c:Fm W0 cs}{m:Lo}{n:Ns}{R:Re}
theorem Fm.Is.at{s:Shared}(h:c.Is m n s):Fr c.h₀ c.L s.heap m∧ba c.h₀ c.L s.heap n:=by obtain ⟨h',tk,rfl,F,N⟩:=h;exact⟨F,N⟩
theorem Fm.Is.to{s:Shared}{m':Lo}{n':Ns}(h:c.Is m n s){h':Heap}{tk:Nat}(F:Fr c.h₀ c.L h' m')(N:ba c.h₀ c.L h' n'):c.Is m' n' {s with heap:=h',toks:=tk}:=by obtain ⟨_,_,rfl,_,_⟩:=h;exact⟨h',tk,rfl,F,N⟩
theorem Fm.Is.toks{s:Shared}(h:c.Is m n s){tk:Nat} : c.Is m n {s with toks:=tk}:=by obtain ⟨h',_,rfl,F,N⟩:=h;exact⟨h',tk,rfl,F,N⟩
theorem Fm.Is.sub{s:Shared}{n':Ns}(h:c.Is m n s)(sub:∀p∈n',p∈n):c.Is m n' s:=by obtain ⟨h',tk,rfl,F,N⟩:=h;exact⟨h',tk,rfl,F,cm N sub⟩
theorem Fm.Is.lib{s:Shared}(h:c.Is m n s):c.Lib m n s:=by obtain ⟨h',tk,rfl,F,N⟩:=h;exact(nA rfl (c.hP _ _) F N)
theorem Fm.Is.as{s:Shared}{m':Lo}(h:c.Is m n s)(e:m=m'):c.Is m' n s:=e▸h
theorem Cx.Is.toks{c:Fm W0 cs}{sc:Scope}{k:Cx c sc}{m:Lo}{n:Ns}{s:Shared}(h:k.Is m n s){tk:Nat} : k.Is m n {s with toks:=tk}:=by refine hZ (k.opn h) λm0 ex _ F N cl=>?_;exact cl _ _ _ F N
theorem Cx.Is.sub{c:Fm W0 cs}{sc:Scope}{k:Cx c sc}{m:Lo}{n n':Ns}{s:Shared}(h:k.Is m n s)(sub:∀p∈n',p∈n):k.Is m n' s:=by
 refine hZ (k.opn h) λm0 ex _ F N cl=>?_;exact cl s.heap s.toks n' F (cm N λp hp=>(aC.mp hp).elim (λh=>zL h) λh=>zR (sub p h))
theorem Cx.Is.get{c:Fm W0 cs}{sc:Scope}{k:Cx c sc}{m:Lo}{n:Ns}{s:Shared}(h:k.Is m n s){p:Addr×Obj}(hp:p∈n):s.heap.get? p.1=some p.2:=by
 refine hZ (k.opn h) λm0 ex _ F N cl=>?_;exact(N _ (zR hp)).1
noncomputable def Fm.cx(c:Fm W0 cs):Cx c cs where
 env:=c.env
 E:=c.E
 Is:=c.Is
 hsc:=rfl
 exA:=[]
 opn:=λ{m}{n}{s} h=>(sh m [] rfl h.at.1 h.at.2 (λh' tk n' F N=>h.to F N))
 load:=λh hv hx hd hq=>nameX_L h.at.1 hv hq c.hk hx hd
variable {sc:Scope}{k:Cx c sc}
theorem ao{x pos}(hv:m x=some v)(e:autoParam (sc.names.lookup x=some .local) zAa)(hd:autoParam ((x==("__debug__" : Str))=false) zAd):Ev k m n (.Name x pos) (.val v):=
 ⟨λ_ _ hi hq=>k.load hi hv e hd (hq _ _ rfl hi)⟩
theorem ag{x pos}(hv:m x=some (.int i t))(e:autoParam (sc.names.lookup x=some .local) zAa)(hd:autoParam ((x==("__debug__" : Str))=false) zAd):Ev k m n (.Name x pos) (.int i):=
 ⟨λ_ _ hi hq=>k.load hi hv e hd (hq _ _ ⟨t,rfl⟩ hi)⟩
theorem bf{i:Int}{kk:Nat}{pos:Pos} : Ev k m n (.Constant (.int i) kk pos) (.int i):=⟨λ_ _ hi hq=>nZ (hq _ _ ⟨_,rfl⟩ hi.toks)⟩
noncomputable def PI(op:Mv)(f:Int→Int→Int):Prop:=∀(W0:World) (A:Around) (E:VP) (s:Shared) (Q:VP) (a b:Int) (t u:Tok),(∀t' tk,Q (.int (f a b) t') {s with toks:=tk})→aA (aq P0 W0) A (CF op (.int a t) (.int b u)) Q E s
theorem K6:PI .Add (· + ·):=λ_ _ _ _ _ _ _ _ _ h=>add_int (h _ _)
theorem K4:PI .Sub (· - ·):=λ_ _ _ _ _ _ _ _ _ h=>sub_int (h _ _)
theorem Ab{op:Mv}{f:Int→Int→Int}{l r:PE}{pos}{a b:Int}(o:PI op f)(hl:Ev k m n l (.int a))(hr:Ev k m n r (.int b)):Ev k m n (.BinOp l op r pos) (.int (f a b)):=
 ⟨λ_ s hi hq=>d9 (hl.run _ s hi λv s1 hv h1=>hr.run _ s1 h1 λv2 s2 B h2=>by
  refine cp hv λt z=>?_
  try clear hv
  subst z;refine cp B λu e=>?_
  try clear B
  subst e
  exact o _ _ _ _ _ _ _ _ _ λG tk=>hq _ _ ⟨G,rfl⟩ h2.toks)⟩
theorem eg{pos}(hl:Ev k m n l (.int a))(hr:Ev k m n r (.int b)):Ev k m n (.BinOp l .Add r pos) (.int (a+b)):=Ab K6 hl hr
theorem jo{pos}(hl:Ev k m n l (.int a))(hr:Ev k m n r (.int b)):Ev k m n (.BinOp l .Sub r pos) (.int (a-b)):=Ab K4 hl hr
theorem ft{e z:PE}{pos}{l:Addr}{va:List Value}{xs:List Int}{ep:Nat}{j:Int}(hv:Ev k m n e (.val (.ref l)))(hk:Ev k m n z (.int j))(hm:(l,listOf va.toArray ep)∈n)(hi:au va xs)(h0:0≤j)(h1:j<xs.length)(hf:j<2 ^ 63)
  (hs:autoParam (∀u,j8 z false (.ref l) (.int j u)=tQ [.ref l,.int j u] (pP (.ref l) (.int j u))) zAg) (O:autoParam (∀r,eX e (.ref l) r=ck ()) zAe):
  Ev k m n (.Subscript e z pos) (.int (xs.getD j.toNat 0)):=
 ⟨λ_ s U hq=>oa (hv.run _ s U λv s1 H J=>hk.run _ s1 J λv2 s2 G h2=>by
  cases H;refine cp G λu B=>?_
  try clear G
  subst B
  exact item_list_ints (c9 _ (h2.get hm) rfl ⟨ep,rfl⟩) hi h0 h1 hf (λt=>hq _ _ ⟨t,rfl⟩ h2) (hs u) O)⟩
noncomputable def Pl(op:CmpOp)(f:Int→Int→Bool):Prop:=∀(W0:World) (A:Around) (E:VP) (s:Shared) (Q:VP) (a b:Int) (t u:Tok),Q (.bool (f a b)) s→aA (aq P0 W0) A (fo op (.int a t) (.int b u)) Q E s
theorem lh:Pl .Lt (λa b=>decide (a<b)):=λ_ _ _ _ _ _ _ _ _ h=>lt_int h
theorem qk:Pl .Gt (λa b=>decide (b<a)):=λ_ _ _ _ _ _ _ _ _ h=>gt_int h
theorem Fw:Pl .GtE (λa b=>decide (b≤a)):=λ_ _ _ _ _ _ _ _ _ h=>ge_int h
theorem wp:Pl .Eq (λa b=>decide (a=b)):=λ_ _ _ _ _ _ _ _ _ h=>eq_int h
theorem eJ{pos wh}(o:Pl op f)(hl:Ev k m n l (.int a))(hr:Ev k m n r (.int b))(hm:autoParam (eR op r=false) zAc):Tw k m n (.Compare l [op] [r] pos) wh (f a b):=
 ⟨λ_ s hi hq=>bY (hl.run _ s hi λv s1 hv h1=>hr.run _ s1 h1 λv2 s2 B h2=>by
  refine cp hv λt z=>?_
  try clear hv
  subst z;refine cp B λu e=>?_
  try clear B
  subst e
  exact o _ _ _ _ _ _ _ _ _ (aY (hq _ h2))) hm⟩
theorem qt{pos wh}(h:Tw k m n x (eval x k.env) b):Tw k m n (.UnaryOp .Not x pos) wh (!b):=⟨λ_ s hi hq=>isTrue_not (h.run _ s hi λs' h'=>hq s' h')⟩
theorem iV{pos wh} : Tw k m n (.BoolOp .And [] pos) wh true:=⟨λ_ s hi hq=>isTrue_and_nil (hq s hi)⟩
theorem fU{pos wh}(h:Tw k m n x (eval x k.env) b)(hr:b=true→Tw k m n (.BoolOp .And rest pos) wh d):Tw k m n (.BoolOp .And (x::rest) pos) wh (b&&d):=⟨λ_ s hi hq=>vJ (h.run _ s hi λs' h'=>by
 cases b with
 | false=>exact hq _ h'
 | true=>exact(hr rfl).run _ _ h' hq)⟩
theorem kh(h:Ev k m n e (.int i))(he:autoParam (isTrue e k.env (eval e k.env)=(do let v ← eval e k.env;gc e.pos;gr [v] (truthy v))) zAa):Tw k m n e (eval e k.env) (i != 0):=
 ⟨λ_ s hi hq=>xm (h.run _ s hi λv s1 hv h1=>by refine cp hv λt u=>?_;try clear hv;subst u;exact truthy_int (hq _ h1)) he⟩
theorem cb(h:R .next m n):cN c m n [] R:=⟨λ_ s hi hq=>fg (hq _ _ _ _ h hi)⟩
theorem bL{st:Stmt}{rest:List Stmt}(h:Ex c m n st (md c rest R)):cN c m n (st::rest) R:=⟨λQ s hi hq=>fn (h.run _ s hi λf m' n' s' hr e=>by
 cases f with
 | next=>exact cN.run hr Q s' e hq
 | ret v=>exact hq _ _ _ _ hr e
 | brk=>exact hq _ _ _ _ hr e
 | cont=>exact hq _ _ _ _ hr e)⟩
theorem bQ(h:cN c m n rest R):cN c m n [] (md c rest R):=cb h
theorem cO(h:cN c m n' sts R)(sub:∀p∈n',p∈n):cN c m n sts R:=⟨λQ s hi hq=>h.run Q s (hi.sub sub) hq⟩
theorem wO(h:cN c m n sts R)(hi:c.Is m n s)(hq:∀f m' n' s',R f m' n'→c.Fin f m' n' s'→Q f s'):aA (aq P0 W0) c.A (kG sts c.env) Q c.E s:=h.run Q s hi hq
theorem du(hi:c.Is m n s)(hq:∀s',c.Is (cj m x v) n s'→Q () s')(e:c.env.kindOf x=some .local):aA (aq P0 W0) c.A (storeName c.env x v) Q E s:=
 storeX_L hi.at.1 hi.at.2 (λh' F N=>hq _ (hi.to F N)) c.hk e
theorem tB{x:Str}{u pos:Pos}{e:PE}{rest:List Stmt}{v:Value}(he:Ev c.cx m n e (.val v))(h:cN c (cj m x v) n rest R)
  (hs:autoParam (f9 e (some (.Name x u)) pos.line c.env=ck false) zAa) (z:autoParam (c.env.kindOf x=some .local) zAa):cN c m n (.Assign [.Name x u] e pos::rest) R:=
 bL ⟨λ_ s hi hq=>gQ (he.run _ s hi λB s1 hv h1=>by cases hv;exact du h1 (λs2 h2=>hq .next _ _ _ h h2) z) hs⟩
theorem fx{x:Str}{u pos:Pos}{e:PE}{rest:List Stmt}{i:Int}(he:Ev c.cx m n e (.int i))(h:∀t,cN c (cj m x (.int i t)) n rest R)
  (hs:autoParam (f9 e (some (.Name x u)) pos.line c.env=ck false) zAa) (B:autoParam (c.env.kindOf x=some .local) zAa):cN c m n (.Assign [.Name x u] e pos::rest) R:=
 bL ⟨λ_ s hi hq=>gQ (he.run _ s hi λG s1 hv h1=>by refine cp hv λt z=>?_;try clear hv;subst z;exact du h1 (λs2 h2=>hq .next _ _ _ (h t) h2) B) hs⟩
theorem dE{test:PE}{body e rest:List Stmt}{pos:Pos}{b:Bool}(ht:Tw c.cx m n test (eval test c.env) b)(h1:b=true→cN c m n body (md c rest R))(h2:b=false→cN c m n e (md c rest R)):cN c m n (.If test body e pos::rest) R:=
 bL ⟨λQ s hi hq=>Mh (ht.run _ s hi λs' h'=>by
  cases b with
  | true=>exact(h1 rfl).run Q s' h' hq
  | false=>exact(h2 rfl).run Q s' h' hq)⟩
theorem pG{e:PE}{pos:Pos}{rest:List Stmt}{a:Bq}(he:Ev c.cx m n e a)(h:∀v,a.den v→R (.ret v) m n):cN c m n (.Return (some e) pos::rest) R:=
 bL ⟨λQ s hi hq=>iP (he.run _ s hi λv s' hv h'=>hq (.ret v) _ _ _ (h v hv) h'.lib)⟩
theorem E5(h:R .cont m n):cN c m n (.Continue pos::rest) R:=bL ⟨λQ s hi hq=>wpAny_Continue (hq .cont _ _ _ h hi)⟩
theorem HZ(h:R .brk m n):cN c m n (.Break pos::rest) R:=bL ⟨λQ s hi hq=>wpAny_Break (hq .brk _ _ _ h hi)⟩
noncomputable def WR(R:Re)(J:Nat→Lo→Ns→Prop)(k:Nat)(f:vd)(m:Lo)(n:Ns):Prop:=match f with
 | .ret v=>R (.ret v) m n
 | .brk=>R .next m n
 | _=>∃j,j<k∧J j m n
theorem jG{test:PE}{body rest:List Stmt}{pos:Pos}(J:Nat→Lo→Ns→Prop){U:Nat}(hJ:J U m n)
  (turn:∀k u e,J k u e→∃b,Tw c.cx u e test (eval test c.env) b∧(b=true→cN c u e body (WR (md c rest R) J k))∧(b=false→cN c u e rest R)):cN c m n (.While test body [] pos::rest) R:=
 bL ⟨λQ s hi hq=>by
  obtain ⟨h,tk,rfl,F,N⟩:=hi;refine GP (env:=c.env) F N (λ_ _=>J) (λ_ _ u e=>cN c u e rest R) ⟨U,hJ⟩ ?_ ?_ c.hE
  .intro k u e B z H G j
   refine fM (turn k u e j) λb ht h1 h2=>?_;refine ht.run _ _ ⟨B,z,rfl,H,G⟩ λs' h'=>?_
   cases b with
   | true=>
    rw[if_pos rfl];refine(h1 rfl).run _ s' h' λf m' n' s2 hr O=>?_
    cases f with
    | ret v=>exact hq _ _ _ _ hr O
    | brk=>exact hq .next _ _ _ hr O
    | next=>refine fN hr λj hj x=>?_;try clear hr;obtain ⟨h2,tk2,rfl,F2,Y⟩:=O;exact(db j hj ⟨h2,tk2,m',n',rfl,F2,Y,x⟩)
    | cont=>refine fN hr λj hj x=>?_;try clear hr;obtain ⟨h2,tk2,rfl,F2,Y⟩:=O;exact(db j hj ⟨h2,tk2,m',n',rfl,F2,Y,x⟩)
   | false=>
    rw[if_neg (by decide)];obtain ⟨aa,tk2,rfl,F2,Y⟩:=h';exact(EQ aa tk2 u e rfl F2 Y (h2 rfl))
  .intro u e B z H G d
   exact hq .next _ _ _ d ⟨B,z,rfl,H,G⟩⟩
end
section
variable {cs:Scope}{c:Fm W0 cs}{m:Lo}{n:Ns}{R:Re}
theorem uG
  (B:qU A₀ base outer h₀) (F:Fr h₀ L s.heap m) (X:(hd.heap_1 W0.params).In h₀) (N:ba h₀ L s.heap n) (T:Top gp gl mean mg mb h₀) (hk:cs.kind=.function)
  (hE:lG (aq P0 W0) (ij dp un gd cn cs L a ccd cl outer) (yR cn cs L a ccd cl) E) (R:Re)
  (h:∀c:Fm W0 cs,c.dp=dp→c.un=un→cN c m n body R)
  (hq:∀f m' n' h' tk,R f m' n'→Fr h₀ L h' m'→ba h₀ L h' n'→Q f {s with heap:=h',toks:=tk}):
  aA (aq P0 W0) (ij dp un gd cn cs L a ccd cl outer) (kG body (yR cn cs L a ccd cl)) Q E s:=
 wO (c:=⟨gp,gl,mean,mg,mb,dp,un,gd,cn,L,a,ccd,cl,outer,A₀,base,h₀,s,E,λs'=>s'.gens=s.gens∧s'.drawn=s.drawn,B,X,T,hk,hE,λ_ _=>⟨rfl,rfl⟩⟩) (h _ rfl rfl) ⟨s.heap,s.toks,rfl,F,N⟩ λf m' n' s' r i=>by
  have G:∃h tk,s' = {s with heap:=h,toks:=tk}∧Fr h₀ L h m'∧ba h₀ L h n':=by
   cases f with
   | ret v=>
    refine xR i λe1 u F N=>?_
    try clear i
    refine b8 u λe2 e3=>?_
    try clear u
    cases s';dsimp only at e1 e2 e3;subst e1 e2 e3;exact(iw _ _ rfl F N)
   | next=>obtain ⟨h,tk,e,F,N⟩:=i;exact(iw h tk e F N)
   | brk=>obtain ⟨h,tk,e,F,N⟩:=i;exact(iw h tk e F N)
   | cont=>obtain ⟨h,tk,e,F,N⟩:=i;exact(iw h tk e F N)
  refine gL G λh' tk z F N=>?_
  try clear G
  subst z;exact hq f m' n' h' tk r F N
theorem is_tup{s:Shared}{D:Addr}{ep:Nat}{vs:List Value}(h:c.Is m n s)(hm:(D,({cls:=.type "tuple",data:=.seq vs.toArray ep} : Obj))∈n):IsTup s.heap D vs.toArray:=(c9 _ ((h.at.2 _ hm).1) rfl ⟨ep,rfl⟩)
theorem yk{sc:Scope}{k:Cx c sc}{e1 e2 e3:PE}{pos:Pos}{a1 a2 a3:Bq}(h1:Ev k m n e1 a1)(h2:Ev k m n e2 a2)(h3:Ev k m n e3 a3)
  (G:∀r,SE k.env e1 r) (B:∀r,SE k.env e2 r) (z:∀r,SE k.env e3 r)
  {Q:List Value→Shared→Prop}{s:Shared} (hi:k.Is m n s) (hq:∀v1 v2 e s',a1.den v1→a2.den v2→a3.den e→k.Is m n s'→Q [v1,v2,e] s'):aA (aq P0 W0) c.A (spliced (fj pos (bW [e1,e2,e3] k.env))) Q k.E s:=
 aI (h1.run _ s hi λv1 s1 J i1=>aI (h2.run _ s1 i1 λv2 s2 d2 i2=>aI (h3.run _ s2 i2 λe u H i3=>bK (hq v1 v2 e u J d2 H i3)) (z _)) (B _)) (G _)
theorem pE(h1:Ev c.cx m n e1 (.int i1))(h2:Ev c.cx m n e2 (.int i2))(h3:Ev c.cx m n e3 (.int i3))
  (h:∀t1 t2 t3,cN c (cj (cj (cj m O (.int i3 t3)) U (.int i2 t2)) Y (.int i1 t1)) n rest R)
  (hs:autoParam (lV [.Tuple B k z] (.Tuple [e1,e2,e3] kk e) pos.line c.env=ck false) zAa)
  (hw:autoParam (fW [.Tuple B k z] (.Tuple [e1,e2,e3] kk e) c.env=ck (some [Y,U,O])) zAa)
  (q1:autoParam (∀r,SE c.env e1 r) zAb) (q2:autoParam (∀r,SE c.env e2 r) zAb) (q3:autoParam (∀r,SE c.env e3 r) zAb)
  (k1:autoParam (c.env.kindOf Y=some .local) zAa) (k2:autoParam (c.env.kindOf U=some .local) zAa) (k3:autoParam (c.env.kindOf O=some .local) zAa):
  cN c m n (.Assign [.Tuple B k z] (.Tuple [e1,e2,e3] kk e) pos::rest) R:=
 bL ⟨λQ s hi hq=>sY (names:=[Y,U,O]) (vM (yk (k:=c.cx) h1 h2 h3 q1 q2 q3 hi λv1 v2 v3 s1 d1 d2 d3 u=>by
  refine cp d1 λt1 J=>?_
  try clear d1
  subst J;refine cp d2 λt2 H=>?_
  try clear d2
  subst H;refine cp d3 λt3 G=>?_
  try clear d3
  subst G;refine iF u.at.1 u.at.2 (λD h' F' N' hl=>?_) (by decide:(3:Nat)≤ec);have ab:=u.to (tk:=s1.toks) F' N';refine Gj F' N' (is_tup ab (zH)) rfl rfl λh2 F2 N2=>?_;have aa:=u.to (tk:=s1.toks) F2 (cm N2 λp hp=>zT hp);refine be (qT (du aa (λs4 i4=>?_) k3));refine be (qT (du i4 (λs5 i5=>?_) k2));refine be (qT (du i5 (λs6 i6=>?_) k1))
  exact fE (hq .next _ _ _ (h t1 t2 t3) i6))) hs hw⟩
noncomputable def FR(R:Re)(I:Addr)(o:Obj)(J:Nat→Lo→Ns→Prop)(i:Nat)(f:vd)(m:Lo)(n:Ns):Prop:=match f with
 | .ret v=>R (.ret v) m n
 | .brk=>R .next m n
 | _=>(I,o)∈n∧∃n',(∀p∈n',p∈n∧p.1≠I)∧J i m n'
theorem zU(hi:c.Fin f m n s)(z:∃h tk,s₁ = {c.s with heap:=h,toks:=tk})(hq:∀f m' n' s',R f m' n'→c.Fin f m' n' s'→Q f s')(h:FR R I o J i f m n):
  mj c.h₀ c.L s₁ [(I,o)] (λm' n'=>IU [] n'∧J i m' n') Q f s:=by
 refine uq z λH G B=>?_
 try clear z
 subst B
 have go:c.Is m n s→((I,o)∈n∧∃n',(∀p∈n',p∈n∧p.1≠I)∧J i m n')→IT c.h₀ c.L {c.s with heap:=H,toks:=G} [(I,o)] (λm' n'=>IU [] n'∧J i m' n') s:=by
  intro hi u;refine b8 u λO e=>?_;clear u;refine fN e λn' hs j=>?_
  try clear e
  obtain ⟨h',tk,rfl,F,N⟩:=hi;exact xD F N ⟨trivial,j⟩ O (λp hp=>(hs p hp).1) (λp hp=>(hs p hp).2)
 cases f with
 | ret v=>exact hq _ _ _ _ h hi
 | brk=>exact hq .next _ _ _ h hi
 | next=>exact go hi h
 | cont=>exact go hi h
structure IM{c:Fm W0 cs}{sc:Scope}(k:Cx c sc)(m:Lo)(n:Ns)(e:PE)(a b:Int):Prop where
 run:∀(Q:VP) s,k.Is m n s→(∀r t u v s',k.Is m n s'→PySem.IsRange s'.heap r a b 1 t u v→Q (.ref r) s')→aA (aq P0 W0) c.A (eval e k.env) Q k.E s
theorem B7(he:IM c.cx m n iter a b)(hk:(b-a).toNat=k)(G:dT a b 1=true)(J:Nat→Lo→Ns→Prop)(hJ:J 0 m n)
  (turn:∀i t B e I o,i<k→(∀p∈n,p.1<I)→J i B e→cN c (cj B x (.int (a+(i:Int)) t)) ((I,o)::e) body (FR (md c rest R) I o J (i+1)))
  (done:∀B e,J k B e→cN c B e rest R) (Y:autoParam (c.env.kindOf x=some .local) zAa) (hs:autoParam (∀z,bX iter c.env z=ck z) zAb):
  cN c m n (.For (.Name x px) iter body [] pos::rest) R:=
 bL ⟨λQ s hi hq=>by
  refine qS (env:=c.env) hi.at.1 (he.run _ s hi λr t u v s' h' hr=>?_) hs c.hE;subst hk;obtain ⟨h1,O,rfl,F1,N1⟩:=h';refine kj (env:=c.env) rfl hr G (pX a b) F1 N1 λI hI=>?_;refine qv (env:=c.env) J hJ (λi t B e o h tk H j _ F N=>?_) (λB e h tk j F N=>hq .next _ _ _ (done B e j) ⟨h,tk,rfl,F,N⟩);refine assign_Name (du (c:=c) ⟨h,tk,rfl,F,N⟩ (λs2 h2=>?_) Y)
  exact(turn i t B e I o H hI j).run _ s2 h2 λf m' n' s' r U=>zU U (rp h tk rfl) hq r⟩
theorem rz(hf:Ev k m n f (.val (.ref q)))(he:Ev k m n e (.int j))(hq:(q,cg "set.__contains__" (.ref d))∈n)(hd:(d,dA led)∈n)
  (h1:autoParam (CC k.env f [e] pos) zAa) (h2:autoParam (SE k.env e []) zAa):Ev k m n (.Call f [e] [] pos) (.val (.bool false)):=
 ⟨λQ s hi hQ=>gu (hf.run _ s hi λv s1 B i1=>by
  cases B;refine hZ (k.opn i1) λm0 ex _ O N0 _=>?_;refine pK N0 (zR hq) ?_ h2;refine aI (he.run _ s1 i1 λv2 s2 d2 i2=>bK ?_) h2;refine cp d2 λt u=>?_
  try clear d2
  subst u;refine⟨i2.get hq,?_⟩;refine hZ (k.opn i2) λH z _ J G _=>?_
  exact Jn G (zR hq) (zR hd) (hQ _ _ rfl i2.toks)) h1⟩
theorem nq(h:Ev k m n e (.val (.bool b)))(he:autoParam (isTrue e k.env (eval e k.env)=(do let v ← eval e k.env;gc e.pos;gr [v] (truthy v))) zAa):Tw k m n e (eval e k.env) b:=
 ⟨λ_ s hi hq=>xm (h.run _ s hi λv s1 hv h1=>by cases hv;exact aY (hq _ h1)) he⟩
theorem ye(hm:m x=some (.int i t))(hv:Ev c.cx m n e (.int j))(h:∀J,cN c (cj m x (.int (i+j) J)) n rest R)(G:autoParam (c.env.kindOf x=some .local) zAa):
  cN c m n (.AugAssign (.Name x B) .Add e pos::rest) R:=
 bL ⟨λQ s hi hq=>wpAny_AugAssign_Name (sP c.hk G hi.at.1.ns hm (hv.run _ s hi λv s1 H i1=>by
  refine cp H λu z=>?_
  try clear H
  subst z
  exact iadd_int (du i1.toks (λs2 i2=>hq .next _ _ _ (h _) i2) G)))⟩
theorem mT:∀{ks:List (Str×Value)},Gd m ks→zN ks m=m
 | [],_=>rfl
 | p::r,h=>by
  funext z
  refine(?_:(if z=p.1 then some p.2 else zN r m z)=m z)
  by_cases e:z=p.1
  .rw[if_pos e,e];exact h.1.symm
  .rw[if_neg e,mT h.2]
end
end
section
open W PyProof Rows Spec PySem.Calls Rows.LCg
section
variable {cs:Scope}{c:Fm W0 cs}{sc:Scope}{k:Cx c sc}{m:Lo}{n:Ns}{s:Shared}
theorem Cx.Is.but(h:k.Is m ((a,o)::n) s)(hk:∀b u,b∉[a]→s.heap.get? b=some u→h'.get? b=some u)(ho:h'.get? a=some o')(off:∀p∈n,p.1≠a)(nQ:a∉k.exA):k.Is m ((a,o')::n) {s with heap:=h',toks:=tk}:=by
 refine hZ (k.opn h) λm0 ex B F N cl=>?_;have z:=N (a,o) (zR (zH));refine cl _ _ _ (fr_but F hk (Ne.symm z.2.1) z.2.2) λp hp=>?_
 rcases aC.mp hp with hp|hp
 .have hne:p.1≠a:=λe=>nQ (by rw[← B,← e];exact fZ hp)
  have y:=N p (zL hp);exact⟨hk _ _ (by simpa using hne) y.1,y.2⟩
 .rcases ak.mp hp with rfl|hp
  .exact⟨ho,z.2⟩
  .have y:=N p (zR (zT hp))
   exact⟨hk _ _ (by simpa using off p hp) y.1,y.2⟩
theorem Cx.Is.drop(h:k.Is m ((a,o)::n) s)(hk:∀b u,b∉[a]→s.heap.get? b=some u→h'.get? b=some u)(off:∀p∈n,p.1≠a)(nQ:a∉k.exA):k.Is m n {s with heap:=h',toks:=tk}:=by
 refine hZ (k.opn h) λm0 ex B F N cl=>?_;have z:=N (a,o) (zR (zH));refine cl _ _ _ (fr_but F hk (Ne.symm z.2.1) z.2.2) λp hp=>?_;have hne:p.1≠a:=(aC.mp hp).elim (λhp e=>nQ (by rw[← B,← e];exact fZ hp)) (off p);have y:=N p ((aC.mp hp).elim (λh=>zL h) λh=>zR (zT h));exact⟨hk _ _ (by simpa using hne) y.1,y.2⟩
theorem Cx.Is.grow(h:k.Is m n s)(hk:∀b z,s.heap.get? b=some z→h'.get? b=some z)(hn:∀p∈new,h'.get? p.1=some p.2∧@LE.le Nat _ s.heap.objs.size p.1):k.Is m (new++n) {s with heap:=h',toks:=tk}:=by
 refine hZ (k.opn h) λm0 ex G F N cl=>?_;refine cl _ _ _ (F.keeps hk) λp hp=>?_
 have u:∀p∈ex++n,h'.get? p.1=some p.2∧p.1≠c.L∧c.h₀.get? p.1=none:=λp hp=>⟨hk _ _ (N p hp).1,(N p hp).2⟩
 rcases aC.mp hp with hp|hp
 .exact u p (zL hp)
 .rcases aC.mp hp with hp|hp
  .refine b8 (hn p hp) λa1 a2=>?_
   have B:@aR Nat _ c.L s.heap.objs.size:=F.ns.lt;refine(eP a1 (λe=>?_) ?_)
   .have:@Eq Nat p.1 c.L:=e
    exact uH B (C4 (Eq.symm this) a2)
   .cases e:c.h₀.get? p.1 with
    | none=>rfl
    | some z=>
     have:@aR Nat _ p.1 s.heap.objs.size:=bO (F.keep _ _ e);exact(qz (eV [p.fst,s.heap.objs.size] 1 Y0 (.k (-1)) 1 (.a Z0 Y1) Z1 1 Z1 Z0 rfl (ef this) (ef a2))).elim
  .exact u p (zR hp)
theorem Cx.Is.lt(h:k.Is m n s):(∀p∈n,@aR Nat _ p.1 s.heap.objs.size)∧∀a∈k.exA,@aR Nat _ a s.heap.objs.size:=by
 refine hZ (k.opn h) λm0 ex u F N cl=>?_;refine⟨λp hp=>bO (N p (zR hp)).1,λa ha=>?_⟩;rw[← u] at ha;refine fN (eA.mp ha) λp hp e=>?_;subst e;exact bO (N p (zL hp)).1
noncomputable def Cx.comp(k:Cx c sc)(mo:Lo)(scope:Scope)(cl:List (Str×Addr))(C:Addr)(E':VP)(hk:scope.kind=.function):Cx c (rJ scope k.env) where
 env:=fq scope cl C k.env
 E:=E'
 Is:=λm n s=>∃oC,NsObj oC m∧k.Is mo ((C,oC)::n) s
 hsc:=rfl
 exA:=k.exA++[C]
 opn:=λ{m n s} h=>by
  refine fN h λoC ho hi=>?_
  try clear h
  refine hZ (k.opn hi) λm0 ex hA F N cl=>?_;refine(sh m0 (ex++[(C,oC)]) (by rw[aX,hA];rfl) F (by rw[jS];exact N) (λh' tk n' F' N'=>(db oC ho (cl h' tk _ F' (by rw[jS] at N';exact N')))))
 load:=λ{m n s x pos v Q} h hv hx hd hq=>by
  refine fN h λoC ho hi=>?_
  try clear h
  exact CD (sP (by simpa [fq,rJ] using hk) hx (ho.ns (hi.get (zH))) hv hq) hd
end
noncomputable abbrev BA(env:Env):PE→Bool→Sem (ForInStep Bool):=λct r=>if r=true then do let ok ← isTrue ct env (eval ct env);ck (nO ok) else ck (nO r)
section
variable {cs:Scope}{c:Fm W0 cs}{sc:Scope}
structure Jw(k:Cx c sc)(m:Lo)(n:Ns)(e:PE)(P:Value→Ns→Shared→Prop):Prop where
 run:∀(Q:VP) s,k.Is m n s→(∀v n' s',P v n' s'→k.Is m n' s'→Q v s')→aA (aq P0 W0) c.A (eval e k.env) Q k.E s
structure II(k:Cx c sc)(xv:Value)(s1:Shared)(nn:Nat)(It:Nat→Value→Prop)(kp:Ns):Prop where
 run:∀(Q2:VP),(∀(I:Addr) (oI:Obj) (h2:Heap) (tk2:Nat) (fp:List Addr) (St:Nat→Heap→Prop),y5 P0 W0 c.A I fp [I] nn It St→(∀i h,St i h→∃o,h.get? I=some o)→(∀b o,s1.heap.get? b=some o→h2.get? b=some o)→@Eq Nat I s1.heap.objs.size→@Eq Nat h2.objs.size (I+1)→h2.get? I=some oI→St 0 h2→(∀b∈fp,b=I∨∃o,(b,o)∈kp)→Q2 (.ref I) {s1 with heap:=h2,toks:=tk2})→
  aA (aq P0 W0) c.A (rK xv) Q2 k.E s1
noncomputable def Off3(C I D:Addr)(n:Ns):Prop:=∀p∈n,p.1≠C∧p.1≠I∧p.1≠D
variable {k:Cx c sc}{m:Lo}{n:Ns}
inductive Q0(J:Nat→List Value→Ns→Prop)(C I D:Addr)(oI:Obj)(out:List Value)(i:Nat)(v:Value)(n':Ns):Prop
 | mk (n2:Ns) (h1:∀p∈(I,oI)::(D,bB out)::n2,p∈n') (h2:Off3 C I D n2) (h3:J i (out++[v]) n2)
structure ww(k:Cx c sc)(m:Lo)(n:Ns)(elt:PE)(x:Str)(tests:List PE)(scope:Scope)(cl:List (Str×Addr))(hkind:scope.kind=.function)(nn:Nat)(It:Nat→Value→Prop)(kp:Ns)(J:Nat→List Value→Ns→Prop)(P:Value→Ns→Prop):Prop where
 hJ:J 0 [] n
 hkp:∀i out n1,J i out n1→(∀p∈kp,p∈n1)∧out.length≤i
 turn:∀i v out n1 (C I D:Addr) (oI:Obj) (E':VP) (mC:Lo),i<nn→It i v→J i out n1→mC x=some v→Off3 C I D n1→C≠I→C≠D→I≠D→(∀p∈n,@aR Nat _ p.1 I)→(∀a∈k.exA,a≠C∧a≠I∧a≠D)→
   ∃b,(∀Q s,(k.comp m scope cl C E' hkind).Is mC ((I,oI)::(D,bB out)::n1) s→(∀s',(k.comp m scope cl C E' hkind).Is mC ((I,oI)::(D,bB out)::n1) s'→Q b s')→aA (aq P0 W0) c.A (GL tests true (BA (fq scope cl C k.env))) Q E' s)∧
    (b=true→Er (k.comp m scope cl C E' hkind) mC ((I,oI)::(D,bB out)::n1) elt (Q0 J C I D oI out (i+1)))∧(b=false→J (i+1) out n1)
 done:∀out n1 D,J nn out n1→(∀p∈n,@aR Nat _ p.1 D)→(∀p∈n1,p.1≠D)→P (.ref D) ((D,bB out)::n1)
 hsz:nn≤ec
inductive QT(q:Cx c sc)(I:Addr)(nn:Nat)(St:Nat→Heap→Prop)(Y:Nat→Lo→Ns→Prop)(r:Nat)(s:Shared):Prop
 | mk (j:Nat) (oI:Obj) (m:Lo) (n:Ns) (h1:nn+1-j=r) (h2:j≤nn) (h3:Y j m n) (h4:q.Is m ((I,oI)::n) s) (h5:St j s.heap)
theorem Sk{j nn:Nat}(h:j<nn):nn+1-(j+1)<nn+1-j:=GG (aW h) (aJ j)
theorem Jk{cd:sU}{x:Str}{px:Pos}{I:Addr}{fp:List Addr}{nn:Nat}{It:Nat→Value→Prop}{St:Nat→Heap→Prop}{kp:Ns}{R:Result→Shared→Prop}{T:(Shared→Prop)→Shared→Prop}{oI:Obj}{s:Shared}(W:y5 P0 W0 c.A I fp [I] nn It St)(hex:∀i h,St i h→∃o,h.get? I=some o)(aa:∀b∈fp,b=I∨∃o,(b,o)∈kp)(hI:I∉k.exA)(Y:Nat→Lo→Ns→Prop)
  (O:∀j m n,Y j m n→(∀p∈kp,p∈n)∧∀p∈n,p.1≠I)
  (hl:∀V:Nat→Shared→Prop,(∀r s,V r s→aA (aq P0 W0) c.A (kE (.ref I)) (λy s₁=>match y with|none=>R (.ok .next) s₁|some v=>aA (aq P0 W0) c.A (dh (.Name x px) k.env v) (λ_ s₂=>T (λs₅=>∃q,q<r∧V q s₅) s₂) k.E s₁) k.E s)→∀r,V r s→dY (aq P0 W0) c.A cd R s)
  (turn:∀j v oI m n s Z,j<nn→It j v→Y j m n→k.Is m ((I,oI)::n) s→(∀m' n' s',Y (j+1) m' n'→k.Is m' ((I,oI)::n') s'→Z s')→aA (aq P0 W0) c.A (dh (.Name x px) k.env v) (λ_ s₂=>T Z s₂) k.E s)
  (done:∀m n s,Y nn m n→k.Is m n s→R (.ok .next) s) (h0:Y 0 m n) (hi:k.Is m ((I,oI)::n) s) (hs:St 0 s.heap):dY (aq P0 W0) c.A cd R s:=
 hl (QT k I nn St Y) (λr s h=>by
  obtain ⟨j,oI,m,n,e,hj,y,hi,st⟩:=h
  by_cases u:j<nn
  .refine W.item j _ _ _ u st λv h4 B hv H z=>?_
   obtain ⟨J,G⟩:=hex _ _ H
   refine turn j v J m n _ _ u hv y (hi.but (tk:=B) z G (O _ _ _ y).2 hI) λm' n' s' y' U=>⟨_,e▸Sk u,j+1,J,m',n',rfl,u,y',U,W.frame _ _ _ H λb hb o e=>?_⟩
   rcases aa b hb with h|⟨o',ho⟩
   .rw[h] at e ⊢
    exact(U.get (zH)).trans (G.symm.trans e)
   .exact(U.get (zT ((O _ _ _ y').1 _ ho))).trans (((hi.but (tk:=B) z G (O _ _ _ y).2 hI).get (zT ((O _ _ _ y).1 _ ho))).symm.trans e)
  .cases iy hj (I4.mp u)
   exact W.done _ _ _ st λh4 B z=>done _ _ _ y (hi.drop z (O _ _ _ y).2 hI)) (nn+1) ⟨0,oI,m,n,rfl,cr _,h0,hi,hs⟩
theorem ML(h:a<b):a≠b+2:=λe=>da a (aP h (e▸eH (oY 1)))
theorem PF(h:a<b):a≠b+1:=λe=>da a (aP h (e▸aJ b))
theorem Sl(h:a<b):a≠b+3:=λe=>da a (aP h (e▸eH (oY 2)))
structure Me(k:Cx c sc)(scope:Scope)(cl:List (Str×Addr))(cl':List (Str×Addr))(own:Ns)(z:Addr):Prop where
 run:∀(G:Env→Addr→Shared→Prop) (s:Shared),@Eq Nat s.heap.objs.size (z+2)→(∀oC h tk,NsObj oC (λ_=>none)→h.get? (z+2)=some oC→(∀b o,s.heap.get? b=some o→h.get? b=some o)→(∀p∈own,h.get? p.1=some p.2∧z≤p.1)→G (fq scope cl' (z+2) k.env) (z+2) {s with heap:=h,toks:=tk})→
  aA (aq P0 W0) c.A (newFunctionEnv scope k.env.globals cl [] k.env.qual none .none (some k.env)) (λe s'=>G {e with scope:=rJ scope k.env} e.locals s') k.E s
noncomputable def Su(k:Cx c sc)(m:Lo)(n:Ns)(e:PE)(scope:Scope)(cl':Addr→List (Str×Addr))(own:Addr→Ns)(hkind:scope.kind=.function)(nn:Nat)(It:Nat→Value→Prop)(kp:Ns)(CP:Addr→Addr→Result→Shared→Prop):Prop:=
 ∀(I:Addr) (oI:Obj) (fp:List Addr) (St:Nat→Heap→Prop) (s:Shared),y5 P0 W0 c.A I fp [I] nn It St→(∀i h,St i h→∃o,h.get? I=some o)→(∀b∈fp,b=I∨∃o,(b,o)∈kp)→(∀p∈n,@aR Nat _ p.1 I)→(∀a∈k.exA,@aR Nat _ a I)→
  (k.comp m scope (cl' I) (I+2) k.E hkind).Is (λ_=>none) (own I++(I,oI)::(I+1,bB [])::n) s→St 0 s.heap→dY (aq P0 W0) c.A (.compLoop e 0 (.ref I) (.ref (I+1)) (fq scope (cl' I) (I+2) k.env)) (CP (I+1) (I+2)) s
theorem OQ(H:∀y∈scope.names,y.2≠.cell)(hkind:scope.kind=.function):Me k scope cl cl [] z:=
 ⟨λG s e h=>wpAny_newFunctionEnv H (λ_ h=>nomatch h) (λJ B u=>by
  obtain ⟨oC,O,hC⟩:=ns_obj B;have z:=h oC J s.toks;rw[← e] at z
  exact z hC O (λb o e=>u.extBut b o (aB (bO e)) (aG _ e)) (λ_ h=>nomatch h)) hkind⟩
theorem Ag(hi:k.Is m n s)(hkind:scope.kind=.function)(he:Jw k m n iter PS)(U:∀z,Me k scope cl (cl' z) (own z) z)
  (h:∀v n1 s1,PS v n1 s1→k.Is m n1 s1→∃nn It kp,II k v s1 nn It kp∧Su k m n1 (.ListComp elt (⟨target,iter,tests,0⟩::gs) scope pos) scope cl' own hkind nn It kp λD C=>sR (aq P0 W0) c.A k.E use Q (.ref D) C)
  (J:fC scope k.env=ck cl) (B:∀y∈scope.names,y.2=.local→scope.names.lookup y.1=some .local) (hs:∀z,bX iter k.env z=ck z):
  aA (aq P0 W0) c.A (Gg (.ListComp elt (⟨target,iter,tests,0⟩::gs) scope pos) scope k.env ar (newList []) false (eval iter k.env) use) Q k.E s:=by
 refine wpAny_comprehension_free (use:=use) rfl hs J hkind B (he.run _ s hi λxv n1 s1 ap i1=>?_);obtain ⟨nn,It,kp,ab,go⟩:=h xv n1 s1 ap i1;refine ab.run _ λI oI h2 tk2 fp St W hex aa eI H hI aj ah=>?_;refine pN ?_;have lt:=i1.lt;rw[← eI] at lt;have O:(h2.push {cls:=.type "list",dict:=none,data:=.seq ([]:List Value).toArray}).objs.size=I+2:=(gq h2 _).trans (congrArg (· + 1) H);have Y:(h2.push {cls:=.type "list",dict:=none,data:=.seq ([]:List Value).toArray}).get? (I+1)=_:=H▸a9 h2 rfl;have u:∀b o,h2.get? b=some o→(h2.push {cls:=.type "list",dict:=none,data:=.seq ([]:List Value).toArray}).get? b=some o:=λb o e=>aG _ e;rw[H];generalize h2.push _=H3 at O Y u ⊢;refine(U I).run (λe C s'=>dY (aq P0 W0) c.A (.compStart _ 0 (.ref I) (.ref (I+1)) e) (sR (aq P0 W0) c.A k.E use Q (.ref (I+1)) C) s') _ O λoC h tk hC hg up G=>?_;have st:St 0 h:=W.frame _ _ _ aj λb _ o e=>up _ _ (u _ _ e);have le:s1.heap.objs.size≤I:=fz eI.symm
 have main:=go I oI fp St {s1 with heap:=h,toks:=tk} W hex ah lt.1 lt.2 ⟨oC,hC,by
  have z:=i1.grow (tk:=tk) (new:=((I+2,oC)::own I)++[(I,oI),(I+1,bB [])]) (λb ob e=>up _ _ (u _ _ (aa _ _ e))) (FA (FC ⟨hg,aw le (bA I 2)⟩ λp hp=>⟨(G p hp).1,aw le (G p hp).2⟩) (FC ⟨up _ _ (u _ _ hI),le⟩ (FC ⟨up _ _ Y,aw le (bA I 1)⟩ FN)));rw[jS] at z
  exact z⟩ st
 exact codeAny_compStart_list main (W.self 0 _ _ _ st main)
theorem K2(hi:k.Is m ((D,bB out)::n) s)(hsz:out.length≤ec)(off:∀p∈n,p.1≠D)(nQ:D∉k.exA)(h:∀s',k.Is m ((D,bB (out++[u]))::n) s'→Z s'):aA (aq P0 W0) c.A (call (.builtin "list.append") [.ref D,u]) (λ_=>Z) E s:=
 append_at (hsz:=by rw[aL];exact hsz) (hi.get (zH)) λh8 z B=>h _ (hi.but (tk:=s.toks) (λb G hb e=>z.extBut _ _ (λq=>hb (q▸zH)) e) (B.trans (congrArg some (lst_snoc out _))) off nQ)
theorem zO(hi:(k.comp m scope cl C E' hkind).Is mC n s)(J:scope.names.lookup x=some .local)(off:∀p∈n,p.1≠C)(nQ:C∉k.exA)(h:∀s',(k.comp m scope cl C E' hkind).Is (cj mC x v) n s'→Z s'):aA (aq P0 W0) c.A (dh (.Name x px) (fq scope cl C k.env) v) (λ_=>Z) E s:=by
 obtain ⟨oC,hC,i⟩:=hi;refine w8 (Jx (lookup_relabel_local J) (hC.ns (i.get (zH))) (λh5 G B=>?_) (by refine(?_:(scope.kind == .class||(scope.kind == .module&&_))=false);rw[hkind];rfl));obtain ⟨z,H,u⟩:=ns_obj G;exact h _ ⟨z,u,i.but (λb O hb e=>B.extBut _ _ (λq=>hb (q▸zH)) e) H off nQ⟩
noncomputable abbrev TL(k:Cx c sc)(elt:PE)(tests:List PE)(D:Addr):(Shared→Prop)→Shared→Prop:=λZ s=>aA (aq P0 W0) c.A (GL tests true (BA k.env)) (λok s₃=>if ok=true then aA (aq P0 W0) c.A (eval elt k.env) (λx s₄=>aA (aq P0 W0) c.A (call (.builtin "list.append") [.ref D,x]) (λ_=>Z) k.E s₄) k.E s₃ else Z s₃) k.E s
inductive LY(D:Addr)(Y:Nat→Lo→List Value→Ns→Prop)(j:Nat)(m:Lo):Ns→Prop
 | mk (out:List Value) (n:Ns) (h:Y j m out n):LY D Y j m ((D,bB out)::n)
theorem Ah{cd:sU}{x:Str}{px:Pos}{I D:Addr}{fp:List Addr}{nn:Nat}{It:Nat→Value→Prop}{St:Nat→Heap→Prop}{kp:Ns}{R:Result→Shared→Prop}{oI:Obj}{s:Shared}{elt:PE}{tests:List PE}{ys:List Value}(W:y5 P0 W0 c.A I fp [I] nn It St)(hex:∀i h,St i h→∃o,h.get? I=some o)(H:∀b∈fp,b=I∨∃o,(b,o)∈kp)(hI:I∉k.exA)(hD:D∉k.exA)(e:I≠D)(Y:Nat→Lo→List Value→Ns→Prop)(U:Nat→Value→Lo→List Value→Ns→Prop)
  (B:∀j m out n,Y j m out n→(∀p∈kp,p∈n)∧(j<nn→out.length≤ec)∧(∀p∈n,p.1≠I)∧∀p∈n,p.1≠D)
  (hl:∀V:Nat→Shared→Prop,(∀r s,V r s→aA (aq P0 W0) c.A (kE (.ref I)) (λy s₁=>match y with|none=>R (.ok .next) s₁|some v=>aA (aq P0 W0) c.A (dh (.Name x px) k.env v) (λ_ s₂=>TL k elt tests D (λs₅=>∃q,q<r∧V q s₅) s₂) k.E s₁) k.E s)→∀r,V r s→dY (aq P0 W0) c.A cd R s)
  (G:∀j v out oI m n s Z,Y j m out n→k.Is m ((I,oI)::(D,bB out)::n) s→(∀m' n' s',U j v m' out n'→k.Is m' ((I,oI)::(D,bB out)::n') s'→Z s')→aA (aq P0 W0) c.A (dh (.Name x px) k.env v) (λ_=>Z) k.E s)
  (turn:∀j v out oI m n,j<nn→It j v→U j v m out n→∃b,(∀Q s,k.Is m ((I,oI)::(D,bB out)::n) s→(∀s',k.Is m ((I,oI)::(D,bB out)::n) s'→Q b s')→aA (aq P0 W0) c.A (GL tests true (BA k.env)) Q k.E s)∧(b=true→∀Q s,k.Is m ((I,oI)::(D,bB out)::n) s→(∀u n2 n' s',(∀p∈(D,bB out)::(I,oI)::n2,p∈n')→Y (j+1) m (out++[u]) n2→k.Is m n' s'→Q u s')→aA (aq P0 W0) c.A (eval elt k.env) Q k.E s)∧(b=false→Y (j+1) m out n))
  (done:∀m out n s,Y nn m out n→k.Is m ((D,bB out)::n) s→R (.ok .next) s) (h0:Y 0 m ys n) (hi:k.Is m ((I,oI)::(D,bB ys)::n) s) (hs:St 0 s.heap):dY (aq P0 W0) c.A cd R s:=
 Jk W hex H hI (LY D Y) (λj m n' h=>by
  obtain ⟨out,n,y⟩:=h
  exact⟨λp hp=>zT ((B _ _ _ _ y).1 p hp),FC (Ne.symm e) (B _ _ _ _ y).2.2.1⟩) hl (λj v oI m n' s Z z hv h i hz=>by
  obtain ⟨out,n,y⟩:=h;refine G j v out oI m n s _ y i λm' n' s5 y' i5=>?_;obtain ⟨b,ht,h1,h0⟩:=turn j v out oI m' n' z hv y';refine ht _ _ i5 λs6 O=>?_
  cases b with
  | true=>
   rw[if_pos rfl];exact h1 rfl _ s6 O λu n2 n7 s7 sub J i7=>K2 (i7.sub sub) ((B _ _ _ _ y).2.1 z) (FC e (B _ _ _ _ J).2.2.2) hD λs8 i8=>hz _ _ _ (.mk _ _ J) (i8.sub (iB [1,0] 2 rfl))
  | false=>exact hz _ _ _ (.mk _ _ (h0 rfl)) O) (λm n' s h i=>by
  obtain ⟨out,n,y⟩:=h
  exact done m out n s y i) (.mk _ _ h0) hi hs
theorem xT{ex:List Addr}{z:Addr}{n:Nat}(h:∀a∈ex,@aR Nat _ a z):z+n∉ex:=λq=>da z (aK (bA z n) (h _ q))
theorem Kr(h:∀a∈ex,@aR Nat _ a z):z∉ex++[z+2]:=λq=>(aC.mp q).elim (λq=>da z (h _ q)) λq=>aB (eH (oY 1)) (az.mp q)
theorem Ks{ex:List Addr}{z:Addr}(h:∀a∈ex,@aR Nat _ a z):z+1∉ex++[z+2]:=λq=>(aC.mp q).elim (λq=>xT (n:=1) h q) λq=>aB (aJ (z+1)) (az.mp q)
structure CY(C I D:Addr)(J:Nat→List Value→Ns→Prop)(A:Prop)(j:Nat)(out:List Value)(n:Ns):Prop where
 a:A
 off:Off3 C I D n
 j:J j out n
theorem PY(h:∀p∈n,@aR Nat _ p.1 z):Off3 (z+2) z (z+1) n:=λp hp=>⟨ML (h p hp),aB (h p hp),PF (h p hp)⟩
theorem nQ{z:Addr}{ex:List Addr}(h:∀a∈ex,@aR Nat _ a z):∀a∈ex,a≠z+2∧a≠z∧a≠z+1:=λa hp=>⟨ML (h a hp),aB (h a hp),PF (h a hp)⟩
theorem NH:z+2≠z:=aF (eH (oY 1))
theorem Jc:z+2≠z+1:=aF (aJ _)
theorem MG:z≠z+1:=aB (aJ _)
theorem Iq{cd:sU}{R:Result→Shared→Prop}{elt:PE}{x:Str}{px:Pos}{tests:List PE}{scope:Scope}{cl:List (Str×Addr)}{EE:VP}{hkind:scope.kind=.function}{nn:Nat}{It:Nat→Value→Prop}{kp:Ns}{J:Nat→List Value→Ns→Prop}{P:Value→Ns→Prop}{I:Addr}{fp:List Addr}{St:Nat→Heap→Prop}{oI:Obj}{s:Shared}(h:ww k m n elt x tests scope cl hkind nn It kp J P)(hx:scope.names.lookup x=some .local)(W:y5 P0 W0 c.A I fp [I] nn It St)(hex:∀i h,St i h→∃o,h.get? I=some o)(O:∀b∈fp,b=I∨∃o,(b,o)∈kp)(lt:∀p∈n,@aR Nat _ p.1 I)(z:∀a∈k.exA,@aR Nat _ a I)
  (hl:∀V:Nat→Shared→Prop,(∀r s,V r s→aA (aq P0 W0) c.A (kE (.ref I)) (λy s₁=>match y with|none=>R (.ok .next) s₁|some v=>aA (aq P0 W0) c.A (dh (.Name x px) (k.comp m scope cl (I+2) EE hkind).env v) (λ_ s₂=>TL (k.comp m scope cl (I+2) EE hkind) elt tests (I+1) (λs₅=>∃q,q<r∧V q s₅) s₂) (k.comp m scope cl (I+2) EE hkind).E s₁) (k.comp m scope cl (I+2) EE hkind).E s)→∀r,V r s→dY (aq P0 W0) c.A cd R s)
  (fin:∀out n s mC,J nn out n→Off3 (I+2) I (I+1) n→(k.comp m scope cl (I+2) EE hkind).Is mC ((I+1,bB out)::n) s→R (.ok .next) s)
  (hi:(k.comp m scope cl (I+2) EE hkind).Is (λ_=>none) ((I,oI)::(I+1,bB [])::n) s) (hs:St 0 s.heap):dY (aq P0 W0) c.A cd R s:=
 Ah W hex O (Kr z) (Ks z) MG (λj _ out n=>CY (I+2) I (I+1) J True j out n) (λj v m out n=>CY (I+2) I (I+1) J (m x=some v) j out n)
  (λj m out n y=>⟨(h.hkp _ _ _ y.j).1,λG=>aw (h.hkp _ _ _ y.j).2 (aw (aN G) h.hsz),λp hp=>(y.off p hp).2.1,λp hp=>(y.off p hp).2.2⟩)
  hl
  (λj v out oI m n s Z y i hz=>zO i hx (FC (Ne.symm NH) (FC (Ne.symm Jc) λp hp=>(y.off p hp).1)) (xT z) λs5 i5=>hz _ _ s5 ⟨if_pos rfl,y.off,y.j⟩ i5)
  (λj v out oI m n G hv y=>by
   obtain ⟨b,ht,h1,h0⟩:=h.turn j v out n _ I _ oI _ m G hv y.j y.a y.off NH Jc MG lt (nQ z)
   exact⟨b,ht,λe Q s i hq=>(h1 e).run Q s i λu n7 Y hP i7=>by
    obtain ⟨n2,H,B,U⟩:=hP
    exact hq u n2 n7 Y (λp hp=>H p (iB [1,0] 2 rfl p hp)) ⟨trivial,B,U⟩ i7,λe=>⟨trivial,y.off,h0 e⟩⟩)
  (λmC out n s y i=>fin out n s mC y.j y.off i) ⟨trivial,PY lt,h.hJ⟩ hi hs
theorem yx{elt iter:PE}{x:Str}{px:Pos}{tests:List PE}{scope:Scope}{pos O:Pos}{cl:List (Str×Addr)}{P:Value→Ns→Prop}{PS:Value→Ns→Shared→Prop}{use:Option (Value→Sem Unit)}{Q:VP}{s:Shared}(hi:k.Is m n s)(hkind:scope.kind=.function)(he:Jw k m n iter PS)
  (h:∀v n1 s1,PS v n1 s1→k.Is m n1 s1→∃nn It kp J,II k v s1 nn It kp∧ww k m n1 elt x tests scope cl hkind nn It kp J P)
  (fin:∀D n' C oC mC s4,P (.ref D) n'→NsObj oC mC→k.Is m ((C,oC)::n') s4→(∀p∈n',p.1≠C)→C∉k.exA→sR (aq P0 W0) c.A k.E use Q (.ref D) C (.ok .next) s4)
  (B:fC scope k.env=ck cl) (G:∀y∈scope.names,y.2≠.cell) (u:∀y∈scope.names,y.2=.local→scope.names.lookup y.1=some .local) (hx:scope.names.lookup x=some .local) (hs:∀z,bX iter k.env z=ck z):
  aA (aq P0 W0) c.A (Gg (.ListComp elt [⟨.Name x px,iter,tests,0⟩] scope pos) scope k.env O (newList []) false (eval iter k.env) use) Q k.E s:=
 Ag (cl':=λ_=>cl) (own:=λ_=>[]) hi hkind he (λz=>OQ G hkind) (λv n1 s1 hp i1=>by
  obtain ⟨nn,It,kp,J,py,H⟩:=h v n1 s1 hp i1
  exact⟨nn,It,kp,py,λI oI fp St s W hex Y lt U hi st=>Iq (EE:=jM (aq P0 W0) c.A (fq scope cl (I+2) k.env) λe s'=>sR (aq P0 W0) c.A k.E use Q (.ref (I+1)) (I+2) (.error e) s') H hx W hex Y lt U (λV hV r=>IQ V hV r) (λout n s mC j off i=>by
   obtain ⟨oC,hC,i⟩:=i
   exact fin _ _ _ oC mC _ (H.done out n _ j (λp hp=>aW (lt p hp)) λp hp=>(off p hp).2.2) hC i (FC (Ne.symm Jc) λp hp=>(off p hp).1) (xT U)) hi st⟩) B u hs
theorem nB{elt iter:PE}{x:Str}{px:Pos}{tests:List PE}{scope:Scope}{pos:Pos}{cl:List (Str×Addr)}{P:Value→Ns→Prop}{PS:Value→Ns→Shared→Prop}(hkind:scope.kind=.function)(he:Jw k m n iter PS)
  (h:∀v n1 s1,PS v n1 s1→k.Is m n1 s1→∃nn It kp J,II k v s1 nn It kp∧ww k m n1 elt x tests scope cl hkind nn It kp J P)
  (B:autoParam (fC scope k.env=ck cl) zAa) (G:autoParam (∀y∈scope.names,y.2≠.cell) zAd) (u:autoParam (∀y∈scope.names,y.2=.local→scope.names.lookup y.1=some .local) zAd) (Y:autoParam (scope.names.lookup x=some .local) zAa) (hs:autoParam (∀z,bX iter k.env z=ck z) zAb):
  Er k m n (.ListComp elt [⟨.Name x px,iter,tests,0⟩] scope pos) P:=by
 refine⟨λQ s hi hq=>?_⟩;rw[Gf];refine yx hi hkind he h (λD n' C oC mC U hp ho O off nQ=>?_) B G u Y hs;exact(db mC (ho.ns (O.get (zH))) (λh5 H=>hq _ _ _ hp (O.drop (tk:=U.toks) (λb ob hb e=>H.extBut _ _ (by simpa using hb:b≠C) e) off nQ)))
theorem rx{elt iter:PE}{x y:Str}{px py B:Pos}{tests:List PE}{scope:Scope}{pos:Pos}{cl:List (Str×Addr)}{P:Value→Ns→Prop}{PS:Value→Ns→Shared→Prop}{R:Re}{rest:List Stmt}(hkind:scope.kind=.function)(he:Jw c.cx m n iter PS)
  (h:∀v n1 s1,PS v n1 s1→c.cx.Is m n1 s1→∃nn It kp J,II c.cx v s1 nn It kp∧ww c.cx m n1 elt x tests scope cl hkind nn It kp J P) (hr:∀v n',P v n'→cN c (cj m y v) n' rest R)
  (O:autoParam (f9 (.ListComp elt [⟨.Name x px,iter,tests,0⟩] scope pos) (some (.Name y py)) B.line c.env=ck true) zAa)
  (G:autoParam (fC scope c.env=ck cl) zAa) (H:autoParam (∀y∈scope.names,y.2≠.cell) zAd) (u:autoParam (∀y∈scope.names,y.2=.local→scope.names.lookup y.1=some .local) zAd) (hx:autoParam (scope.names.lookup x=some .local) zAa) (hy:autoParam (c.env.kindOf y=some .local) zAa) (hs:autoParam (∀z,bX iter c.env z=ck z) zAb):
  cN c m n (.Assign [.Name y py] (.ListComp elt [⟨.Name x px,iter,tests,0⟩] scope pos) B::rest) R:=by
 refine bL ⟨λQ s hi hq=>?_⟩;rw[exec_Assign_Name_used _ _ _ _ O];refine af (gY (af ?_));refine af (ci (yx (k:=c.cx) (Q:=λ_ s'=>Q .next s') hi hkind he h (λD n' C oC mC s4 hp ho Y off nQ=>?_) G H u hx hs) (λ_ s' hq=>ai (ai hq)) λ_ _ e=>e);have z:=Y.at.2 (C,oC) (zH);have aa:=z.1;refine assign_Name (du (c:=c) Y (λs5 i5=>?_) hy);exact(db mC (ho.ns (i5.at.2 (C,oC) (zH)).1) (λh6 U=>hq .next _ _ _ (hr _ _ hp) (Cx.Is.drop (k:=c.cx) (tk:=s5.toks) i5 (λb ob hb e=>U.extBut _ _ (by simpa using hb:b≠C) e) off nQ)))
end
section
variable {cs:Scope}{c:Fm W0 cs}{sc:Scope}{k:Cx c sc}{m:Lo}{n:Ns}
theorem jD{r:Addr}{nn:Nat}{t u v:Tok}{s1:Shared}(hr:PySem.IsRange s1.heap r 0 (nn:Int) 1 t u v)(B:dT 0 (nn:Int) 1=true):II k (.ref r) s1 nn (λi v=>∃t,v=.int (i:Int) t) []:=by
 refine⟨λQ2 h=>?_⟩;refine wpAny_pyIter_range hr B ?_
 have rs:lI 0 (nn:Int) 1=(nn:Int):=by rw[pX];exact ny (cW [↑(((nn:Int)-0).toNat),nn] 1 Z0 Z1 1 Z0 (.s Z1 Y0) rfl (jb (cW [nn] 1 Y0 (.s Z0 Y0) 1 Y0 Z0 rfl j7))) (cW [nn,↑(((nn:Int)-0).toNat)] 1 Z0 Z1 1 (.s Z0 Y0) Z1 rfl tq)
 have W:=range_walks (prog:=P0) (w:=W0) (A:=c.A) (I:=s1.heap.objs.size) rfl 0 nn;rw[rs];refine h s1.heap.objs.size _ _ _ [s1.heap.objs.size] _ {W with item:=λi s Q E hi st hQ=>W.item i s Q E hi st λv h' tk hP=>hQ v h' tk (by refine cp hP λt z=>?_;try clear hP;subst z;exact⟨t,by rw[fQ]⟩)} (λi h st=>⟨_,st⟩) (λb o e=>aG _ e) rfl (gq ..) (a9 _ rfl) ?_ (λb hb=>.inl (by simpa using hb));simpa using a9 s1.heap rfl
theorem ui{l:Addr}{vs:List Value}{ep:Nat}{s1:Shared}(hi:k.Is m n s1)(hl:(l,listOf vs.toArray ep)∈n):II k (.ref l) s1 vs.length (λi v=>vs[i]?=some v) [(l,listOf vs.toArray ep)]:=by
 refine⟨λQ2 h=>?_⟩;have G:=hi.get hl
 have z:s1.heap.IsList l vs.toArray:=(c9 _ G rfl ⟨ep,rfl⟩)
 have B:@aR Nat _ l s1.heap.objs.size:=bO G;refine kC z ?_;have W:=su (prog:=P0) (w:=W0) (A:=c.A) rfl s1.heap.objs.size l (λe=>by have:@Eq Nat l s1.heap.objs.size:=e;exact QD B this) vs.toArray
 have e1:vs.toArray.size=vs.length:=by simp
 rw[e1] at W;refine h s1.heap.objs.size _ _ _ [s1.heap.objs.size,l] _ {W with item:=λi s Q E hi st hQ=>W.item i s Q E hi st λv h' tk hP=>hQ v h' tk (by simpa using hP)} (λi h st=>?_) (λb o e=>aG _ e) rfl (gq ..) (a9 _ rfl) ⟨?_,?_⟩ (λb hb=>?_)
 .refine b8 st λu _=>?_
  try clear st
  refine fN u λo ho _=>?_
  try clear u
  exact⟨o,ho⟩
 .exact(c9 _ (a9 _ rfl) rfl rfl)
 .exact(c9 _ (aG _ G) rfl ⟨ep,rfl⟩)
 .simp only[ak,bT,or_false] at hb
  rcases hb with rfl|rfl
  .exact .inl rfl
  .exact .inr ⟨_,zH⟩
theorem jd(h:IM k m n e a b):Jw k m n e (λv n1 s1=>n1=n∧∃r t u z,v=.ref r∧PySem.IsRange s1.heap r a b 1 t u z):=
 ⟨λQ s hi hq=>h.run Q s hi λr t u v s' B hr=>hq _ _ _ ⟨rfl,r,t,u,v,rfl,hr⟩ B⟩
theorem so{e:PE}{P:Value→Ns→Prop}(h:Er k m n e P):Jw k m n e (λv n1 _=>P v n1):=⟨λQ s hi hq=>h.run Q s hi λv n' s' hp u=>hq _ _ _ hp u⟩
theorem iM(h:Ev k m n e a):Er k m n e (λv n1=>a.den v∧n1=n):=⟨λQ s hi hq=>h.run Q s hi λv s' hv u=>hq _ _ _ ⟨hv,rfl⟩ u⟩
theorem fB{e:PE}{P P':Value→Ns→Prop}(h:Er k m n e P)(hp:∀v n',P v n'→P' v n'):Er k m n e P':=⟨λQ s hi hq=>h.run Q s hi λv n' s' p u=>hq _ _ _ (hp v n' p) u⟩
theorem Ac{e:PE}{n':Ns}{P:Value→Ns→Prop}(h:Er k m n' e P)(sub:∀p∈n',p∈n):Er k m n e P:=⟨λQ s hi hq=>h.run Q s (hi.sub sub) hq⟩
theorem dL{R:Re}{x:Str}{u pos:Pos}{e:PE}{rest:List Stmt}{P:Value→Ns→Prop}(he:Er c.cx m n e P)(h:∀v n',P v n'→cN c (cj m x v) n' rest R)
  (hs:autoParam (f9 e (some (.Name x u)) pos.line c.env=ck false) zAa) (z:autoParam (c.env.kindOf x=some .local) zAa):cN c m n (.Assign [.Name x u] e pos::rest) R:=
 bL ⟨λ_ s hi hq=>gQ (he.run _ s hi λv n' s1 hv h1=>du h1 (λs2 h2=>hq .next _ _ _ (h v n' hv) h2) z) hs⟩
theorem H2{R e:Re}{st:Stmt}(h:Ex c m n st R)(hr:∀f m' n',R f m' n'→e f m' n'):Ex c m n st e:=⟨λQ s hi hq=>h.run Q s hi λf m' n' s' r u=>hq _ _ _ _ (hr _ _ _ r) u⟩
theorem lg(h:cN c m n sts R)(hr:∀f m' n',R f m' n'→u f m' n'):cN c m n sts u:=⟨λQ s hi hq=>h.run Q s hi λf m' n' s' r e=>hq _ _ _ _ (hr _ _ _ r) e⟩
theorem pg(h:Q true s):aA (aq P0 W0) c.A (GL [] true (BA env)) Q E' s:=ai h
theorem wE(h:Tw k m n ct (eval ct k.env) b)(Q:Bool→Shared→Prop)(s:Shared)(hi:k.Is m n s)(hq:∀s',k.Is m n s'→Q b s'):aA (aq P0 W0) c.A (GL [ct] true (BA k.env)) Q k.E s:=wpAny_tests_one (h.run _ s hi hq)
end
noncomputable abbrev ql:Obj:={cls:=.type "cell",data:=.cell none}
theorem zD(z:∀a,fT a scope.names cl=(x,a)::cl)(e:∀h,Gy h scope.names=h.push ql)
  (h:Q (newEnv scope s.heap.objs.size globals ((x,s.heap.objs.size+1)::cl) qual none .none (some env) builtinsNs) {s with heap:=(s.heap.push {cls:=.type "dict",data:=.dict #[]}).push ql}):
  aA M A (newFunctionEnv scope globals cl [] qual none .none (some env)) Q E s:=by
 refine af (Mg ?_);refine af (wpAny_layCells _ (λname kind B=>by cases u:kind==NameKind.cell<;>simp [u]) _ _ _ _ ?_);rw[z,e];refine af ?_;rw[List.forIn_nil];refine ai (ai ?_);rw[gq];exact h
section
variable {cs:Scope}{c:Fm W0 cs}{sc:Scope}{k:Cx c sc}{m:Lo}{n:Ns}
noncomputable def IK(C K I D:Addr)(n:Ns):Prop:=∀p∈n,p.1≠C∧p.1≠K∧p.1≠I∧p.1≠D
inductive Pm(J:Nat→List Value→Ns→Prop)(C K I D:Addr)(oK oI:Obj)(out:List Value)(i:Nat)(v:Value)(n':Ns):Prop
 | mk (n2:Ns) (h1:∀p∈(K,oK)::(I,oI)::(D,bB out)::n2,p∈n') (h2:IK C K I D n2) (h3:J i (out++[v]) n2)
structure Aq(k:Cx c sc)(m:Lo)(n:Ns)(elt:PE)(x:Str)(tests:List PE)(scope:Scope)(cl:List (Str×Addr))(hkind:scope.kind=.function)(nn:Nat)(It:Nat→Value→Prop)(kp:Ns)(J:Nat→List Value→Ns→Prop)(P:Value→Ns→Prop):Prop where
 hJ:J 0 [] n
 hkp:∀i out n1,J i out n1→(∀p∈kp,p∈n1)∧out.length≤i
 turn:∀i v out n1 (C K I D:Addr) (oK oI:Obj) (E':VP) (mC:Lo),i<nn→It i v→J i out n1→oK.data=.cell (some v)→IK C K I D n1→C≠I→C≠D→I≠D→K≠C→K≠I→K≠D→(∀p∈n,@aR Nat _ p.1 I)→(∀a∈k.exA,a≠C∧a≠I∧a≠D)→
   ∃b,(∀Q s,(k.comp m scope ((x,K)::cl) C E' hkind).Is mC ((K,oK)::(I,oI)::(D,bB out)::n1) s→(∀s',(k.comp m scope ((x,K)::cl) C E' hkind).Is mC ((K,oK)::(I,oI)::(D,bB out)::n1) s'→Q b s')→aA (aq P0 W0) c.A (GL tests true (BA (fq scope ((x,K)::cl) C k.env))) Q E' s)∧
    (b=true→Er (k.comp m scope ((x,K)::cl) C E' hkind) mC ((K,oK)::(I,oI)::(D,bB out)::n1) elt (Pm J C K I D oK oI out (i+1)))∧(b=false→J (i+1) out n1)
 done:∀out n1 D,J nn out n1→(∀p∈n,@aR Nat _ p.1 D)→(∀p∈n1,p.1≠D)→P (.ref D) ((D,bB out)::n1)
 hsz:nn≤ec
theorem OP(B:∀a,fT a scope.names cl=(x,a)::cl)(u:∀h,Gy h scope.names=h.push ql):Me k scope cl ((x,z+3)::cl) [(z+3,ql)] z:=
 ⟨λG s e h=>zD B u (by
  have sz:(s.heap.push {cls:=.type "dict",data:=.dict #[]}).objs.size=z+3:=(gq ..).trans (congrArg (· + 1) e);have h0:=a9 s.heap (o:={cls:=.type "dict",data:=.dict #[]}) rfl;have h1:=a9 (s.heap.push {cls:=.type "dict",data:=.dict #[]}) (o:=ql) rfl;rw[sz] at h1
  have hC:NsObj {cls:=.type "dict",dict:=none,data:=.dict #[]} (λ_=>none):=by
   obtain ⟨o,es,ep,e,hd,r⟩:=Heap.Ns.new s.heap (.type "dict");cases (a9 s.heap (o:={cls:=.type "dict",data:=.dict #[]}) rfl).symm.trans e;exact⟨es,ep,hd,r⟩
  refine(?_:G (fq scope ((x,s.heap.objs.size+1)::cl) s.heap.objs.size k.env) s.heap.objs.size _);rw[e] at h0 ⊢
  exact h _ _ s.toks hC (aG _ h0) (λb o e=>aG _ (aG _ e)) (FC ⟨h1,bA z 3⟩ FN))⟩
theorem HK{scope:Scope}{cl:List (Str×Addr)}{C K:Addr}{E' E:VP}{hkind:scope.kind=.function}{x:Str}{px:Pos}{v:Value}{O:Option Value}{oK:Obj}{mC:Lo}{s:Shared}{Z:Shared→Prop}(hi:(k.comp m scope ((x,K)::cl) C E' hkind).Is mC ((K,oK)::n) s)(hd:oK.data=.cell O)(U:(rJ scope k.env).names.lookup x=some .cell)(off:∀p∈n,p.1≠K)(nQ:K∉k.exA++[C])(h:∀u s',u.data=.cell (some v)→(k.comp m scope ((x,K)::cl) C E' hkind).Is mC ((K,u)::n) s'→Z s'):aA (aq P0 W0) c.A (dh (.Name x px) (fq scope ((x,K)::cl) C k.env) v) (λ_=>Z) E s:=
 w8 (wpAny_storeName_cell (c:=K) (by simpa [fq,rJ] using hkind) U (by refine(?_:List.lookup x ((x,K)::cl)=some K);simp [List.lookup_cons]) ⟨oK,hi.get (zH),hd⟩ (λh5 H G=>by
  obtain ⟨B,J,z⟩:=H
  exact h B _ z (hi.but (tk:=s.toks) (λb Y hb e=>G.extBut _ _ (λq=>hb (q▸zH)) e) J off nQ)))
theorem Qk(h:∀a∈ex,@aR Nat _ a z):z+3∉ex++[z+2]:=λq=>(aC.mp q).elim (λq=>xT (n:=3) h q) λq=>aF (aJ (z+2)) (az.mp q)
inductive YC(C K I D:Addr)(J:Nat→List Value→Ns→Prop)(A:Obj→Prop)(j:Nat)(out:List Value):Ns→Prop
 | mk (oK:Obj) (n:Ns) (a:A oK) (off:IK C K I D n) (h:J j out n):YC C K I D J A j out ((K,oK)::n)
theorem n3{z n:Nat}(h:n≤2):z+3≠z+n:=aF (Nat.add_lt_add_left (JB h) z)
theorem Fv{cd:sU}{R:Result→Shared→Prop}{elt:PE}{x:Str}{px:Pos}{tests:List PE}{scope:Scope}{cl:List (Str×Addr)}{EE:VP}{hkind:scope.kind=.function}{nn:Nat}{It:Nat→Value→Prop}{kp:Ns}{J:Nat→List Value→Ns→Prop}{P:Value→Ns→Prop}{I:Addr}{fp:List Addr}{St:Nat→Heap→Prop}{oI:Obj}{s:Shared}(h:Aq k m n elt x tests scope cl hkind nn It kp J P)(hx:(rJ scope k.env).names.lookup x=some .cell)(W:y5 P0 W0 c.A I fp [I] nn It St)(hex:∀i h,St i h→∃o,h.get? I=some o)(O:∀b∈fp,b=I∨∃o,(b,o)∈kp)(lt:∀p∈n,@aR Nat _ p.1 I)(z:∀a∈k.exA,@aR Nat _ a I)
  (hl:∀V:Nat→Shared→Prop,(∀r s,V r s→aA (aq P0 W0) c.A (kE (.ref I)) (λy s₁=>match y with|none=>R (.ok .next) s₁|some v=>aA (aq P0 W0) c.A (dh (.Name x px) (k.comp m scope ((x,I+3)::cl) (I+2) EE hkind).env v) (λ_ s₂=>TL (k.comp m scope ((x,I+3)::cl) (I+2) EE hkind) elt tests (I+1) (λs₅=>∃q,q<r∧V q s₅) s₂) (k.comp m scope ((x,I+3)::cl) (I+2) EE hkind).E s₁) (k.comp m scope ((x,I+3)::cl) (I+2) EE hkind).E s)→∀r,V r s→dY (aq P0 W0) c.A cd R s)
  (fin:∀out n s mC oK,J nn out n→IK (I+2) (I+3) I (I+1) n→(k.comp m scope ((x,I+3)::cl) (I+2) EE hkind).Is mC ((I+1,bB out)::(I+3,oK)::n) s→R (.ok .next) s)
  (hi:(k.comp m scope ((x,I+3)::cl) (I+2) EE hkind).Is (λ_=>none) ((I+3,ql)::(I,oI)::(I+1,bB [])::n) s) (hs:St 0 s.heap):dY (aq P0 W0) c.A cd R s:=
 Ah W hex O (Kr z) (Ks z) MG (λj _ out n=>YC (I+2) (I+3) I (I+1) J (λo=>∃v,o.data=.cell v) j out n) (λj v _ out n=>YC (I+2) (I+3) I (I+1) J (λo=>o.data=.cell (some v)) j out n)
  (λj m out n y=>by
   obtain ⟨oK,n,_,off,j1⟩:=y
   exact⟨λp hp=>zT ((h.hkp _ _ _ j1).1 p hp),λG=>aw (h.hkp _ _ _ j1).2 (aw (aN G) h.hsz),FC (n3 (n:=0) (by decide)) λp hp=>(off p hp).2.2.1,FC (n3 (n:=1) (by decide)) λp hp=>(off p hp).2.2.2⟩)
  hl
  (λj v out oI m n s Z y i hz=>by
   obtain ⟨oK,n,⟨vK,hd⟩,off,j1⟩:=y
   exact HK (i.sub (iB [2,0,1] 3 rfl)) hd hx (FC (Ne.symm (n3 (n:=0) (by decide))) (FC (Ne.symm (n3 (n:=1) (by decide))) λp hp=>(off p hp).2.1)) (Qk z) λoK s5 hd i5=>hz _ _ s5 ⟨oK,n,hd,off,j1⟩ (i5.sub (iB [1,2,0] 3 rfl)))
  (λj v out oI m n G hv y=>by
   obtain ⟨oK,n,hd,off,j1⟩:=y;obtain ⟨b,ht,h1,h0⟩:=h.turn j v out n _ _ I _ oK oI _ m G hv j1 hd off NH Jc MG (n3 (n:=2) (by decide)) (n3 (n:=0) (by decide)) (n3 (n:=1) (by decide)) lt (nQ z)
   exact⟨b,λQ s i hq=>ht Q s (i.sub (iB [2,0,1] 3 rfl)) λs' i'=>hq s' (i'.sub (iB [1,2,0] 3 rfl)),λe Q s i hq=>(h1 e).run Q s (i.sub (iB [2,0,1] 3 rfl)) λu n7 Y hP i7=>by
    obtain ⟨n2,H,B,U⟩:=hP
    exact hq u _ n7 Y (λp hp=>H p (iB [2,1,0] 3 rfl p hp)) ⟨oK,n2,⟨_,hd⟩,B,U⟩ i7,λe=>⟨oK,n,⟨_,hd⟩,off,h0 e⟩⟩)
  (λmC out n s y i=>by
   obtain ⟨oK,n,_,off,j1⟩:=y
   exact fin out n s mC oK j1 off i) ⟨ql,n,⟨none,rfl⟩,λp hp=>⟨ML (lt p hp),Sl (lt p hp),aB (lt p hp),PF (lt p hp)⟩,h.hJ⟩ (hi.sub (iB [1,2,0] 3 rfl)) hs
theorem Co{elt iter:PE}{x:Str}{px:Pos}{tests:List PE}{scope:Scope}{pos G:Pos}{cl:List (Str×Addr)}{P:Value→Ns→Prop}{PS:Value→Ns→Shared→Prop}{use:Option (Value→Sem Unit)}{Q:VP}{s:Shared}(hi:k.Is m n s)(hkind:scope.kind=.function)(he:Jw k m n iter PS)
  (h:∀v n1 s1,PS v n1 s1→k.Is m n1 s1→∃nn It kp J,II k v s1 nn It kp∧Aq k m n1 elt x tests scope cl hkind nn It kp J P)
  (fin:∀D n' C oC mC s4,P (.ref D) n'→NsObj oC mC→k.Is m ((C,oC)::n') s4→(∀p∈n',p.1≠C)→C∉k.exA→sR (aq P0 W0) c.A k.E use Q (.ref D) C (.ok .next) s4)
  (B:fC scope k.env=ck cl) (aa:∀a,fT a scope.names cl=(x,a)::cl) (U:∀h,Gy h scope.names=h.push ql) (u:∀y∈scope.names,y.2=.local→scope.names.lookup y.1=some .local) (hx:(rJ scope k.env).names.lookup x=some .cell) (hs:∀z,bX iter k.env z=ck z):
  aA (aq P0 W0) c.A (Gg (.ListComp elt [⟨.Name x px,iter,tests,0⟩] scope pos) scope k.env G (newList []) false (eval iter k.env) use) Q k.E s:=
 Ag (cl':=λz=>(x,z+3)::cl) (own:=λz=>[(z+3,ql)]) hi hkind he (λz=>OP aa U) (λv n1 s1 hp i1=>by
  obtain ⟨nn,It,kp,J,py,H⟩:=h v n1 s1 hp i1
  exact⟨nn,It,kp,py,λI oI fp St s W hex Y lt O hi st=>Fv (EE:=jM (aq P0 W0) c.A (fq scope ((x,I+3)::cl) (I+2) k.env) λe s'=>sR (aq P0 W0) c.A k.E use Q (.ref (I+1)) (I+2) (.error e) s') H hx W hex Y lt O (λV hV r=>IQ V hV r) (λout n s mC oK j off i=>by
   obtain ⟨oC,hC,i⟩:=i
   exact fin _ _ _ oC mC _ (H.done out n _ j (λp hp=>aW (lt p hp)) λp hp=>(off p hp).2.2.2) hC (i.sub (iB [0,1] 3 rfl)) (FC (Ne.symm Jc) λp hp=>(off p hp).1) (xT O)) hi st⟩) B u hs
theorem ym{elt iter:PE}{x:Str}{px:Pos}{tests:List PE}{scope:Scope}{pos:Pos}{cl:List (Str×Addr)}{P:Value→Ns→Prop}{PS:Value→Ns→Shared→Prop}(hkind:scope.kind=.function)(he:Jw k m n iter PS)
  (h:∀v n1 s1,PS v n1 s1→k.Is m n1 s1→∃nn It kp J,II k v s1 nn It kp∧Aq k m n1 elt x tests scope cl hkind nn It kp J P)
  (B:autoParam (fC scope k.env=ck cl) zAa) (O:autoParam (∀a,fT a scope.names cl=(x,a)::cl) zAb) (H:autoParam (∀h,Gy h scope.names=h.push ql) zAb) (u:autoParam (∀y∈scope.names,y.2=.local→scope.names.lookup y.1=some .local) zAd) (hx:autoParam ((rJ scope k.env).names.lookup x=some .cell) zAa) (hs:autoParam (∀z,bX iter k.env z=ck z) zAb):
  Er k m n (.ListComp elt [⟨.Name x px,iter,tests,0⟩] scope pos) P:=by
 refine⟨λQ s hi hq=>?_⟩;rw[Gf];refine Co hi hkind he h (λD n' C oC mC Y hp ho U off nQ=>?_) B O H u hx hs;exact(db mC (ho.ns (U.get (zH))) (λh5 G=>hq _ _ _ hp (U.drop (tk:=Y.toks) (λb ob hb e=>G.extBut _ _ (by simpa using hb:b≠C) e) off nQ)))
theorem pF{R:Re}{x:Str}{u pos:Pos}{e:PE}{rest:List Stmt}{P:Value→Ns→Prop}{a:Addr}(he:Er c.cx m n e P)(hc:c.cl.lookup x=some a)
  (h:∀v n',P v n'→∃o g v0,xf a o n' g∧o.data=.cell v0∧∀o':Obj,o'.data=.cell (some v)→cN c m (g o') rest R)
  (hs:autoParam (f9 e (some (.Name x u)) pos.line c.env=ck false) zAa) (B:autoParam (c.env.kindOf x=some .cell) zAa):cN c m n (.Assign [.Name x u] e pos::rest) R:=
 bL ⟨λ_ s hi hq=>gQ (he.run _ s hi λv n' s1 hv h1=>by
  refine zB (h v n' hv) λo g v0 U hd hn=>?_;refine storeX_C h1.at.1 h1.at.2 hc U hd (λh' o' F N z=>?_) c.hk B
  exact hq .next _ _ _ (hn o' z) (Fm.Is.to h1 F N)) hs⟩
theorem eN(hc:k.env.cells.lookup x=some a)(hm:(a,o)∈n)(hd:o.data=.cell (some v))(hk:autoParam (k.env.scope.kind=.function) zAa)(e:autoParam (k.env.kindOf x=some .cell) zAa)(hb:autoParam ((x==("__debug__" : Str))=false) zAd):Ev k m n (.Name x pos) (.val v):=
 ⟨λ_ _ hi hq=>CD (wpAny_loadName_cell hk e hc (db o (hi.get hm) hd) (hq _ _ rfl hi)) hb⟩
end
section
variable {cs:Scope}{c:Fm W0 cs}{sc:Scope}{k:Cx c sc}{m:Lo}{n:Ns}
theorem qE{pos}(hl:Ev k m n l (.int a))(hr:Ev k m n r (.int b))(h0:0≤b):Ev k m n (.BinOp l .RShift r pos) (.int (a.fdiv (2 ^ b.toNat))):=
 ⟨λ_ s hi hq=>d9 (hl.run _ s hi λv s1 hv h1=>hr.run _ s1 h1 λv2 s2 B h2=>by
  refine cp hv λt z=>?_
  try clear hv
  subst z;refine cp B λu e=>?_
  try clear B
  subst e
  exact rshift_int h0 (hq _ _ ⟨_,rfl⟩ h2.toks))⟩
theorem K5:PI .BitAnd gh:=λ_ _ _ _ _ _ _ _ _ h=>and_int (h _ _)
theorem qG{pos}(hl:Ev k m n l (.int a))(hr:Ev k m n r (.int b)):Ev k m n (.BinOp l .BitAnd r pos) (.int (gh a b)):=Ab K5 hl hr
theorem qj(h:Ev k m n e (.val (.int i t))):Ev k m n e (.int i):=⟨λQ s hi hq=>h.run Q s hi λv s' hv u=>hq v s' ⟨t,hv⟩ u⟩
theorem Fg{f e:PE}{pos:Pos}{P P':Value→Ns→Prop}(hf:Ev k m n f (.val (.builtin "len")))(he:Er k m n e P)(hP:∀v n',P v n'→∃(l:Addr) (vs:List Value) (ep:Nat),v=.ref l∧(l,listOf vs.toArray ep)∈n'∧vs.length≤1000∧∀t,P' (.int (vs.length:Nat) t) n')
  (h1:autoParam (CC k.env f [e] pos) zAa) (h2:autoParam (SE k.env e []) zAa):Er k m n (.Call f [e] [] pos) P':=
 ⟨λQ s hi hQ=>gu (hf.run _ s hi λv s1 B i1=>by
  cases B;refine callWith_builtin1 (aI (he.run _ s1 i1 λv2 n' s2 z i2=>bK ?_) h2) h2;refine Hp (hP _ _ z) λl vs ep u hm hs hp=>?_;subst u;refine call_len_list (c9 _ (i2.get hm) rfl ⟨ep,rfl⟩) (by rw[aL];exact cW [vs.length] 1 (.a Z0 Y1) (.k (2 ^ 63)) 1 Z0 (.k 1000) rfl (ef hs)) ?_;rw[aL]
  exact hQ _ _ _ (hp (s2.toks+1)) (i2.toks (tk:=s2.toks+1+1))) h1⟩
end
end
section
noncomputable def e0:PE:=.Name PySem.Str.empty ⟨0,0,0,0⟩
noncomputable def rZ:PySem.Scope:=⟨.function,[],false,false,[]⟩
universe u
noncomputable def C0:PySem.Stmt:=.Pass ⟨0,0,0,0⟩
noncomputable def sB(s:PySem.Stmt):List Stmt:=@PySem.Stmt.casesOn (λ_=>List Stmt) s (λ_ _ x _ _ _ _ _ _ _=>x) (λ_ _ _ _ _ _ _ _ _ _=>[]) (λ_ _ _ x _ _ _ _ _ _ _=>x) (λ_ _=>[]) (λ_ _=>[]) (λ_ _ _=>[]) (λ_ _ _ _ _ _ _=>[]) (λ_ _ _ _=>[]) (λ_ _ _ _ _=>[]) (λ_ _ x _ _=>x) (λ_ _ _ _ _=>[]) (λ_ x _ _=>x) (λ_ x _ _=>x) (λ_ _ _=>[]) (λ_ _ _=>[]) (λ_ _ _=>[]) (λ_ _ _=>[]) (λ_ _ _ _ _=>[]) (λ_ _ _ _ _=>[]) (λ_ _ _=>[]) (λ_ _=>[]) (λ_ _ _ _=>[]) (λ_ _=>[]) (λ_ _=>[]) (λ_ _=>[]) (λ_=>[]) (λ_=>[]) (λ_=>[])
noncomputable def sO(s:PySem.Stmt):List Stmt:=@PySem.Stmt.casesOn (λ_=>List Stmt) s (λ_ _ _ _ _ _ _ _ _ _=>[]) (λ_ _ _ _ _ _ _ _ _ _=>[]) (λ_ _ _ _ _ _ _ _ _ _ _=>[]) (λ_ _=>[]) (λ_ _=>[]) (λ_ _ _=>[]) (λ_ _ _ _ _ _ _=>[]) (λ_ _ _ _=>[]) (λ_ _ _ _ _=>[]) (λ_ _ _ _ _=>[]) (λ_ _ _ _ _=>[]) (λ_ _ _ _=>[]) (λ_ _ x _=>x) (λ_ _ _=>[]) (λ_ _ _=>[]) (λ_ _ _=>[]) (λ_ _ _=>[]) (λ_ _ _ _ _=>[]) (λ_ _ _ _ _=>[]) (λ_ _ _=>[]) (λ_ _=>[]) (λ_ _ _ _=>[]) (λ_ _=>[]) (λ_ _=>[]) (λ_ _=>[]) (λ_=>[]) (λ_=>[]) (λ_=>[])
noncomputable def sE(s:PySem.Stmt):PE:=@PySem.Stmt.casesOn (λ_=>PE) s (λ_ _ _ _ _ _ _ _ _ _=>e0) (λ_ _ _ _ _ _ _ _ _ _=>e0) (λ_ _ _ _ _ _ _ _ _ _ _=>e0) (λx _=>x.getD e0) (λ_ _=>e0) (λ_ x _=>x) (λ_ _ _ _ _ _ _=>e0) (λ_ _ _ _=>e0) (λ_ _ _ _ _=>e0) (λ_ x _ _ _=>x) (λ_ _ _ _ _=>e0) (λ_ _ _ _=>e0) (λx _ _ _=>x) (λ_ _ _=>e0) (λ_ _ _=>e0) (λ_ _ _=>e0) (λ_ _ _=>e0) (λ_ _ _ _ _=>e0) (λ_ _ _ _ _=>e0) (λ_ _ _=>e0) (λ_ _=>e0) (λ_ _ _ _=>e0) (λ_ _=>e0) (λ_ _=>e0) (λ_ _=>e0) (λ_=>e0) (λ_=>e0) (λ_=>e0)
noncomputable def sS(s:PySem.Stmt):Scope:=@PySem.Stmt.casesOn (λ_=>Scope) s (λ_ _ _ _ _ _ x _ _ _=>x) (λ_ _ _ _ _ _ _ _ _ _=>rZ) (λ_ _ _ _ _ _ _ _ _ _ _=>rZ) (λ_ _=>rZ) (λ_ _=>rZ) (λ_ _ _=>rZ) (λ_ _ _ _ _ _ _=>rZ) (λ_ _ _ _=>rZ) (λ_ _ _ _ _=>rZ) (λ_ _ _ _ _=>rZ) (λ_ _ _ _ _=>rZ) (λ_ _ _ _=>rZ) (λ_ _ _ _=>rZ) (λ_ _ _=>rZ) (λ_ _ _=>rZ) (λ_ _ _=>rZ) (λ_ _ _=>rZ) (λ_ _ _ _ _=>rZ) (λ_ _ _ _ _=>rZ) (λ_ _ _=>rZ) (λ_ _=>rZ) (λ_ _ _ _=>rZ) (λ_ _=>rZ) (λ_ _=>rZ) (λ_ _=>rZ) (λ_=>rZ) (λ_=>rZ) (λ_=>rZ)
noncomputable def eC(s:PE):List PE:=@PySem.Expr.casesOn (λ_=>List PE) s (λ_ _ _=>[]) (λ_ _ _=>[]) (λ_ _ _ _=>[]) (λ_ _ _=>[]) (λ_ _ _ _=>[]) (λ_ _ _ _=>[]) (λ_ _ _=>[]) (λ_ _ _=>[]) (λ_ x _ _=>x.map (·.iter)) (λ_ _ _ _=>[]) (λ_ _ _ _ _=>[]) (λ_ _ _ _=>[]) (λ_ _=>[]) (λ_ _=>[]) (λ_ _=>[]) (λx _ y _=>x::y) (λ_ y x _=>x.map (·.value)++y) (λ_ _ _ _=>[]) (λ_ _=>[]) (λ_ _ _=>[]) (λ_ _ _=>[]) (λx y _=>[x,y]) (λ_ _=>[]) (λ_ _=>[]) (λ_ _=>[]) (λ_ _ _=>[]) (λx _ _ _=>[x.getD e0])
noncomputable def ch(e:PE)(i:Nat):PE:=((eC e)[i]?).getD e0
noncomputable def eL{α:Sort u}(e:PE)(d:α)(f:ke→PE→Scope→Pos→α):α:=@PySem.Expr.casesOn (λ_=>α) e (λ_ _ _=>d) (λ_ _ _=>d) (λ_ _ _ _=>d) (λ_ _ _=>d) f (λ_ _ _ _=>d) (λ_ _ _=>d) (λ_ _ _=>d) (λ_ _ _ _=>d) (λ_ _ _ _=>d) (λ_ _ _ _ _=>d) (λ_ _ _ _=>d) (λ_ _=>d) (λ_ _=>d) (λ_ _=>d) (λ_ _ _ _=>d) (λ_ _ _ _=>d) (λ_ _ _ _=>d) (λ_ _=>d) (λ_ _ _=>d) (λ_ _ _=>d) (λ_ _ _=>d) (λ_ _=>d) (λ_ _=>d) (λ_ _=>d) (λ_ _ _=>d) (λ_ _ _ _=>d)
end
section
open W PyProof Rows
noncomputable def vg(l:List Stmt)(k:Nat):List Stmt:=sB ((l[k]?).getD C0)
noncomputable def tw(l:List Stmt)(k:Nat):Scope:=sS ((l[k]?).getD C0)
noncomputable def HI:List Stmt:=vg P0.main.body 26
noncomputable def lawS:Scope:=tw P0.main.body 26
noncomputable def bp(i:Nat):Stmt:=(HI[i]?).getD C0
noncomputable def bN(L:Addr)(o1 o2 o3 o4 o5:Obj)(ps qs:Array Value):Ns:=[(L+1+1+1+1+1,o5),(L+1+1+1+1,o4),(L+1+1+1,o3),(L+1+1,o2),(L+1,o1),(364,bS ps),(256,bS qs)]
structure LawC(c:Fm W0 lawS):Prop where
 cl:c.cl=fT (c.L+1) lawS.names []
 hd:c.dp+100<aH
 hu:c.un+1000<cX
 lo:@aR Nat instLTNat 366 c.L
noncomputable def b9(L:Addr)(n:Ns):Prop:=∀p∈n,p.1∉[L+1,L+1+1,L+1+1+1,L+1+1+1+1,L+1+1+1+1+1,364,256]
theorem b9.all(h:b9 L n):(∀p∈n,p.1≠L+1)∧(∀p∈n,p.1≠L+1+1)∧(∀p∈n,p.1≠L+1+1+1)∧(∀p∈n,p.1≠L+1+1+1+1)∧(∀p∈n,p.1≠L+1+1+1+1+1)∧(∀p∈n,p.1≠364)∧(∀p∈n,p.1≠256):=by
 refine(Lb ?_ ?_ ?_ ?_ ?_ ?_ ?_)<;>(intro p hp e;exact h p hp (by rw[e];simp))
theorem b9.add(h:b9 L n)(l:∀p∈bN L o1 o2 o3 o4 o5 ps qs++n,p.1<D):b9 L ((D,o)::n):=by
 intro p hp
 rcases ak.mp hp with rfl|hp
 .intro hm
  have k:∀q∈bN L o1 o2 o3 o4 o5 ps qs,q.1<D:=λq hq=>l q (zL hq);simp only[bN,ak,bT,or_false,forall_eq_or_imp,forall_eq] at k hm;refine BR k λk1 k2 k3 k4 k5 k6 k7=>?_
  try clear k
  rcases hm with e|e|e|e|e|e|e<;>exact absurd e (aF (by assumption))
 .exact h p hp
end
section
noncomputable def bt(c t:Int):Bool:=(c.toNat/2 ^ t.toNat) % 2==1
noncomputable def th(c:Int):List Int:=[0,1,2,3].filter (bt c)
noncomputable def nv(vs:List Int)(t:Int):Int:=vs.getD t.toNat 0
noncomputable def gx(l:List Int):Int:=l.foldl (· + ·) 0
noncomputable def fP(vs:List Int)(c:Int):Int:=gx ((th c).map (nv vs))
noncomputable def qJ(vs:List Int):Nat→Int×Int
 | 0=>(0,0)
 | i+1=>if fP vs i*(gx vs+5*(qJ vs i).2) > (qJ vs i).1*(gx vs+5*((th i).length:Int)) then (fP vs i,((th i).length:Int)) else qJ vs i
noncomputable def fS(f:Int→Bool)(xs:List Int):Nat→Nat→Nat→Nat
 | 0,lo,_=>lo
 | n+1,lo,hi=>if pZ lo hi then (if f (xs.getD ((lo+hi)/2) 0) then fS f xs n ((lo+hi)/2+1) hi else fS f xs n lo ((lo+hi)/2)) else lo
noncomputable def uF(xs:List Int)(i:Nat)(x:Int):List Int:=xs.take i++x::xs.drop i
noncomputable def eD(vs:List Int):Nat→List Int
 | 0=>[]
 | k+1=>uF (eD vs k) (fS (λj=>decide (nv vs j<nv vs k)) (eD vs k) k 0 k) k
noncomputable def dJ(vs:List Int):List Int:=(eD vs 4).drop (fS (λj=>!decide (2<nv vs j)) (eD vs 4) 4 0 4)
noncomputable def df(vs:List Int):Int:=(qJ vs 16).1
noncomputable def sizeOf(vs:List Int):Int:=(qJ vs 16).2
noncomputable def dw(vs:List Int):Int:=gx vs+5*sizeOf vs
noncomputable def jl(vs:List Int):Nat:=fS (λj=>decide (nv vs j*dw vs<5*df vs)) (eD vs 4) 4 0 4
noncomputable def gv(vs:List Int):Nat:=fS (λj=>!decide (5*df vs<nv vs j*dw vs)) (eD vs 4) 4 0 4
noncomputable def uC(vs:List Int)(c:Int):List Int:=((eD vs 4).drop (gv vs)++dJ vs).filter (λt=>!bt c t)
noncomputable def pD(vs:List Int)(c:Int):List Int:=((eD vs 4).take (jl vs)).filter (bt c)
noncomputable def pW(vs:List Int)(c:Int):Bool:=(uC vs c).isEmpty&&(pD vs c).isEmpty
noncomputable def jp(vs ts:List Int):Int:=gx ([0,1,2,3].map λt=>if t∈ts then 5-nv vs t else nv vs t)
noncomputable def Dy(l:List Int):List Int:=[0,1,2,3].filter (λt=>t∈l)
noncomputable def uj(p q:Int×Int):Bool:=decide (p.1<q.1)||(decide (p.1=q.1)&&decide (p.2<q.2))
noncomputable def xM(vs:List Int):List (Int×Int):=[0,1,2,3].map λt=>(nv vs t,-t)
noncomputable def zP:List (Int×Int)→Bool
 | p::q::r=>uj p q&&zP (q::r)
 | _=>true
noncomputable def PD(vs:List Int):Bool:=
 decide (gx vs=0)||(decide (0<df vs)&&decide (0≤sizeOf vs)&&decide (sizeOf vs≤4)&&decide (2*df vs≤dw vs) &&
  ((aV 16).all λc=>(pW vs c==decide (df vs*(gx vs+5*((th c).length:Int))=fP vs c*dw vs))&&decide (fP vs c*dw vs≤df vs*(gx vs+5*((th c).length:Int))) &&
   (decide (th c=Dy (dJ vs))||decide (jp vs (dJ vs)<jp vs (th c)))) &&
  (decide (gx vs<4)||decide (dw vs<2*gx vs*df vs)) &&
  zP ((eD vs 4).map λt=>(nv vs t,-t))&&decide (Dy (eD vs 4)=[0,1,2,3])&&decide ((eD vs 4).length=4))
end
section
open W PyProof.Rows
noncomputable def f8(W0:World)(kl:Addr)(newsK:Ns)(KV:Int→Value→Prop):Prop:=
 ∀(gp:Program) (gl:List Sr) (mean:ExcName→Option Value) (mg mb:Lo) (dp un:Nat) (gd:Option (List sU)) (cn:Sr) (cs:Scope) (a:Addr) (ccd:Value) (cl:List (Sr×Addr)) (outer:List Env) (A₀:Around) (base h₀:Heap) (L:Addr) (m:Lo)
  (news:Ns) (s:Shared) (Q E:VP) (t:Int) (tok:Tok),qU A₀ base outer h₀→Fr h₀ L s.heap m→(hd.heap_1 W0.params).In h₀→ba h₀ L s.heap news→Top gp gl mean mg mb h₀→cs.kind=.function→
  dp+3<aH→un+40<cX→(∀p∈newsK,p∈news)→0≤t→t<4→
  (∀(v:Value) (h':Heap) (tk':Nat),KV t v→Fr h₀ L h' m→ba h₀ L h' news→Q v {s with heap:=h',toks:=tk'})→
  aA (aq cH.row.prog W0) (ij dp un gd cn cs L a ccd cl outer) (call (.ref kl) [.int t tok]) Q E s
noncomputable def yG(KV:Int→Value→Prop)(xv:Value)(f:Int→Bool):Prop:=∀(prog:Program) (W0:World) (A:Around) (Q E:VP) (s:Shared) (t:Int) (v:Value),0≤t→t<4→KV t v→Q (.bool (f t)) s→aA (aq prog W0) A (fo .Lt v xv) Q E s
noncomputable def CA(KV:Int→Value→Prop)(xv:Value)(f:Int→Bool):Prop:=∀(prog:Program) (W0:World) (A:Around) (Q E:VP) (s:Shared) (t:Int) (v:Value),0≤t→t<4→KV t v→Q (.bool !(f t)) s→aA (aq prog W0) A (fo .Lt xv v) Q E s
structure BJ(f:Int→Bool)(xs:List Int)(r:Nat)(lo hi:Int):Prop where
 a:0≤lo
 b:lo≤hi
 c:hi≤xs.length
 d:∃k:Nat,hi-lo≤k∧fS f xs k lo.toNat hi.toNat=r
variable {f:Int→Bool}{xs:List Int}{r:Nat}{lo hi:Int}
theorem yD:BJ f xs (fS f xs xs.length 0 xs.length) 0 xs.length:=⟨b7 _,ce _,b7 _,xs.length,by exact R9 (b7 ↑(eK xs)) (b7 0),rfl⟩
theorem qK(B:BJ f xs r lo hi)(h:lo<hi):lo≤(lo+hi).fdiv 2∧(lo+hi).fdiv 2<hi∧0≤(lo+hi).fdiv 2∧(lo+hi).fdiv 2<xs.length:=by
 have:=B.a;have:=B.c;rw[iN _ (by decide)];exact⟨eV [lo,(lo+hi)/2,hi] 2 Z0 Z1 1 (.a Z0 Y1) Z2 1 (.a Z0 Z2) (.a (.m 2 Z1) Y1) rfl h ON,⟨eV [(lo+hi)/2,hi,lo] 2 (.a Z0 Y1) Z1 1 (.a Z2 Y1) Z1 1 (.m 2 Z0) (.a Z2 Z1) rfl h PC,⟨ia [(lo+hi)/2,lo,hi] 2 Y0 Z0 2 Y0 Z1 1 (.a Z1 Y1) Z2 1 (.a Z1 Z2) (.a (.m 2 Z0) Y1) rfl (‹0≤lo›) h ON,ia [(lo+hi)/2,xs.length,hi,lo] 2 (.a Z0 Y1) Z1 2 Z2 Z1 1 (.a Z3 Y1) Z2 1 (.m 2 Z0) (.a Z3 Z2) rfl this h PC⟩⟩⟩
theorem Bn(B:BJ f xs r lo hi)(h:lo<hi):∃k:Nat,hi-lo≤(k:Int)+1∧(if f (xs.getD ((lo+hi).fdiv 2).toNat 0) then fS f xs k (((lo+hi).fdiv 2)+1).toNat hi.toNat else fS f xs k lo.toNat ((lo+hi).fdiv 2).toNat)=r:=by
 refine fN B.d λk hk e=>?_;have ha:=B.a
 cases k with
 | zero=>exact(qz (eV [hi,lo] 1 Y0 (.k (-1)) 1 (.s Z0 Z1) Y0 1 (.a Z1 Y1) Z0 rfl hk h)).elim
 | succ k=>
  refine(db k (cW [hi,lo,k] 1 (.s Z0 Z1) (.a Z2 Y1) 1 (.s Z0 Z1) (.a Z2 Y1) rfl hk) ?_);unfold fS at e;rw[if_pos (jC.mpr (R0 (eZ ha h) h))] at e
  have e1:(lo.toNat+hi.toNat)/2=((lo+hi).fdiv 2).toNat:=by rw[iN _ (by decide)];exact vm (Jf [↑((lo.toNat+hi.toNat)/2),↑(((lo+hi)/2).toNat),lo.toNat,hi.toNat,(lo+hi)/2,lo,hi] 2 Z0 Z1 1 (.m 2 Z0) (.a Z2 Z3) 2 Z4 Z1 1 (.a Z5 Z6) (.a (.m 2 Z4) Y1) 1 Z2 Z5 1 Z3 Z6 rfl Rk tq ON (jb (cW [lo] 1 Y0 Z0 1 Y0 Z0 rfl ha)) (jb (eV [hi,lo] 1 Y0 Z0 1 Y0 Z1 1 (.a Z1 Y1) Z0 rfl ha h))) (Jf [↑(((lo+hi)/2).toNat),↑((lo.toNat+hi.toNat)/2),lo.toNat,hi.toNat,lo,hi,(lo+hi)/2] 2 Z0 Z1 1 (.a Z2 Z3) (.a (.m 2 Z1) Y1) 1 Z4 Z2 1 Z5 Z3 1 (.m 2 Z6) (.a Z4 Z5) 2 Z0 Z6 rfl Si tq tq PC (jb (ia [(lo+hi)/2,lo,hi] 2 Y0 Z0 2 Y0 Z1 1 (.a Z1 Y1) Z2 1 (.a Z1 Z2) (.a (.m 2 Z0) Y1) rfl ha h ON)))
  have e2:((lo+hi).fdiv 2).toNat+1=(((lo+hi).fdiv 2)+1).toNat:=by have:=(qK B h).2.2.1;exact vm (eV [↑(((lo+hi).fdiv 2).toNat),↑(((lo+hi).fdiv 2+1).toNat),(lo+hi).fdiv 2] 1 (.a Z0 Y1) Z1 1 (.a Z2 Y1) Z1 1 Z0 Z2 rfl tq (jb (cW [(lo+hi).fdiv 2] 1 Y0 Z0 1 Y0 Z0 rfl this))) (eV [↑(((lo+hi).fdiv 2+1).toNat),↑(((lo+hi).fdiv 2).toNat),(lo+hi).fdiv 2] 1 Z0 (.a Z1 Y1) 1 Z2 Z1 1 Z0 (.a Z2 Y1) rfl tq (jb (cW [(lo+hi).fdiv 2] 1 Y0 (.a Z0 Y1) 1 Y0 Z0 rfl this)))
  rw[e1,e2] at e;exact e
theorem FK(B:BJ f xs r lo hi)(h:lo<hi)(hf:f (xs.getD ((lo+hi).fdiv 2).toNat 0)=true):BJ f xs r ((lo+hi).fdiv 2+1) hi:=by
 have m:=qK B h;refine fN (Bn B h) λk hk e=>?_;rw[if_pos hf] at e;exact⟨by exact iX (Qr m.right.right.left),by exact Sa m.right.left,B.c,k,by exact ia [hi,(lo+hi).fdiv 2,k,lo] 2 (.s Z0 (.a Z1 Y1)) Z2 1 (.s Z0 Z3) (.a Z2 Y1) 1 (.a Z3 Z0) (.a (.m 2 Z1) Y1) 1 Y0 Z2 rfl hk Sj j7,e⟩
theorem Jp(B:BJ f xs r lo hi)(h:lo<hi)(hf:f (xs.getD ((lo+hi).fdiv 2).toNat 0)=false):BJ f xs r lo ((lo+hi).fdiv 2):=by
 have m:=qK B h;refine fN (Bn B h) λk hk e=>?_;rw[if_neg (by rw[hf];decide)] at e;exact⟨B.a,by exact m.left,by exact iX m.right.right.right,k,by exact eV [(lo+hi).fdiv 2,lo,k,hi] 1 (.s Z0 Z1) Z2 1 (.s Z3 Z1) (.a Z2 Y1) 1 (.a Z0 Y1) Z3 rfl hk m.2.1,e⟩
theorem FM(B:BJ f xs r lo hi)(h:lo<hi):(hi-((lo+hi).fdiv 2+1)).toNat<(hi-lo).toNat:=by have:=qK B h;exact ltN (ia [↑((hi-((lo+hi).fdiv 2+1)).toNat),↑((hi-lo).toNat),lo,(lo+hi).fdiv 2,hi] 1 (.a Z0 Y1) Z1 1 Z2 Z3 1 (.s Z4 Z2) Z1 1 Z0 (.s Z4 (.a Z3 Y1)) rfl this.1 tq (jb (cW [hi,(lo+hi).fdiv 2] 1 Y0 (.s Z0 (.a Z1 Y1)) 1 (.a Z1 Y1) Z0 rfl this.2.1)))
theorem FL(B:BJ f xs r lo hi)(h:lo<hi):((lo+hi).fdiv 2-lo).toNat<(hi-lo).toNat:=by have:=qK B h;exact Rc this.left this.right.left
theorem we{i:Int}(h0:0≤i)(h1:i<xs.length):xs.getD i.toNat 0∈xs:=by
 have h:i.toNat<xs.length:=R3 h0 h1;rw[ay,am h];exact bH h
theorem FO(B:BJ f xs r lo hi)(h:¬lo<hi):lo=(r:Int):=by
 refine fN B.d λk hk e=>?_;have ha:=B.a;have hb:=B.b
 have:fS f xs k lo.toNat hi.toNat=lo.toNat:=by
  cases k with
  | zero=>rfl
  | succ k=>
   unfold fS;rw[if_neg (by rw[jC];exact λhh=>(qz (yW [lo.toNat,hi.toNat,hi,lo] 1 Y0 (.k (-1)) 1 (.a Z0 Y1) Z1 1 Z2 Z3 1 Z3 Z0 1 Z1 Z2 rfl (ef hh) (Ps h) tq (jb (eV [hi,lo] 1 Y0 Z0 1 Z1 Z0 1 Y0 Z1 rfl hb ha)))))]
 rw[this] at e;exact ny (eV [lo,r,lo.toNat] 1 Z0 Z1 1 Z2 Z1 1 Z0 Z2 rfl (vX e) tq) (eV [r,lo,lo.toNat] 1 Z0 Z1 1 Z0 Z2 1 Z2 Z1 rfl (l9 e) (jb (cW [lo] 1 Y0 Z0 1 Y0 Z0 rfl ha)))
end
section
open W PyProof.Rows
variable {f:Int→Bool}{xs:List Int}
theorem rC:∀(k lo hi:Nat),lo≤hi→fS f xs k lo hi≤hi
 | 0,lo,hi,h=>h
 | k+1,lo,hi,h=>by
  unfold fS
  by_cases e:pZ lo hi=true
  .rw[if_pos e]
   have e2:=jC.mp e
   split
   .exact rC k _ _ (fy (NM e2))
   .exact aw (rC k _ _ (NO e2)) (aN (NM e2))
  .rw[if_neg e];exact h
theorem wb(h:au va xs):∀k,au (va.take k) (xs.take k):=by
 induction h with
 | nil=>intro k;simp;exact .nil
 | cons x t _ e=>intro k;cases k with
  | zero=>exact .nil
  | succ k=>exact .cons x t (e k)
theorem wc(h:au va xs):∀k,au (va.drop k) (xs.drop k):=by
 induction h with
 | nil=>intro k;simp;exact .nil
 | cons x t h e=>intro k;cases k with
  | zero=>exact .cons x t h
  | succ k=>exact e k
theorem x7(h:au va xs):va.length=xs.length:=by
 induction h with
 | nil=>rfl
 | cons x t h e=>simp [e]
theorem EM(h:au va xs)(hb:b≤xs.length):au (kl_ins va (b:Int) (.int x tx)) (uF xs b x):=by
 unfold kl_ins uF;rw[if_neg (by exact λhh=>(qz (eV [b] 1 Y0 (.k (-1)) 1 (.a Z0 Y1) Y0 1 Y0 Z0 rfl hh j7))),bM,x7 h,qq hb];exact(wb h b).append (.cons x tx (wc h b))
theorem EW{b:Nat}(h:b≤4):Builtin.List.listFitsIndex (b:Int)=true:=by
 have:b=0∨b=1∨b=2∨b=3∨b=4:=by lia
 rcases this with rfl|rfl|rfl|rfl|rfl<;>rfl
end
section
open W PyProof Rows Spec PySem.Calls
section
variable {cs:Scope}{c:Fm W0 cs}{sc:Scope}{k:Cx c sc}{m:Lo}{n:Ns}
theorem pH(hc:k.env.cells.lookup x=some a)(hm:(a,o)∈n)(hd:o.data=.cell (some v))(hk:autoParam (k.env.scope.kind=.function) zAa)(e:autoParam (k.env.kindOf x=some .free) zAa)(hb:autoParam ((x==("__debug__" : Str))=false) zAd)(hn:autoParam ((x==("__classdict__" : Str))=false) zAd):Ev k m n (.Name x pos) (.val v):=
 ⟨λ_ _ hi hq=>CD (wpAny_loadName_free hk e hc (db o (hi.get hm) hd) (hq _ _ rfl hi) hn) hb⟩
theorem uM{e z:PE}{pos}{l:Addr}{va:List Value}{ep:Nat}{j:Int}{x:Value}(hv:Ev k m n e (.val (.ref l)))(hk:Ev k m n z (.int j))(hm:(l,listOf va.toArray ep)∈n)(O:va[j.toNat]?=some x)(h0:0≤j)(hf:j<2 ^ 63)
  (hs:autoParam (∀u,j8 z false (.ref l) (.int j u)=tQ [.ref l,.int j u] (pP (.ref l) (.int j u))) zAg) (U:autoParam (∀r,eX e (.ref l) r=ck ()) zAe):
  Ev k m n (.Subscript e z pos) (.val x):=
 ⟨λ_ s Y hq=>oa (hv.run _ s Y λv s1 H J=>hk.run _ s1 J λv2 s2 G h2=>by
  cases H;refine cp G λu B=>?_
  try clear G
  subst B
  exact item_list (c9 _ (h2.get hm) rfl ⟨ep,rfl⟩) h0 hf (by simpa using O) (hq _ _ rfl h2) (hs u) U)⟩
theorem uN{e z:PE}{pos}{l:Addr}{va:List Value}{ep:Nat}{j:Int}{x:UInt64}(hv:Ev k m n e (.val (.ref l)))(hk:Ev k m n z (.int j))(hm:(l,listOf va.toArray ep)∈n)(B:∃t,va[j.toNat]?=some (.float x t))(h0:0≤j)(hf:j<2 ^ 63)
  (hs:autoParam (∀u,j8 z false (.ref l) (.int j u)=tQ [.ref l,.int j u] (pP (.ref l) (.int j u))) zAg) (J:autoParam (∀r,eX e (.ref l) r=ck ()) zAe):
  Ev k m n (.Subscript e z pos) (.flt x):=by
 obtain ⟨t,B⟩:=B;exact⟨λQ s hi hq=>(uM (pos:=pos) hv hk hm B h0 hf hs J).run Q s hi λv s' G H=>hq v s' ⟨t,G⟩ H⟩
theorem km{pos}(hl:Ev k m n l (.int a))(hr:Ev k m n r (.int b))(hm:IntMulOk a b):Ev k m n (.BinOp l .Mult r pos) (.int (a*b)):=
 ⟨λ_ s hi hq=>d9 (hl.run _ s hi λv s1 hv h1=>hr.run _ s1 h1 λv2 s2 B h2=>by
  refine cp hv λt z=>?_
  try clear hv
  subst z;refine cp B λu e=>?_
  try clear B
  subst e
  exact mul_int (hq _ _ ⟨_,rfl⟩ h2.toks) hm)⟩
theorem yf{pos}(hl:Ev k m n l (.int a))(hr:Ev k m n r (.flt x))(hm:a.natAbs<2 ^ 1023):Ev k m n (.BinOp l .Mult r pos) (.flt (fY (bF a) x)):=
 ⟨λ_ s hi hq=>d9 (hl.run _ s hi λv s1 hv h1=>hr.run _ s1 h1 λv2 s2 B h2=>by
  refine cp hv λt z=>?_
  try clear hv
  subst z;refine cp B λu e=>?_
  try clear B
  subst e
  exact mul_if_fits hm (hq _ _ ⟨_,rfl⟩ h2.toks))⟩
theorem fO(h:a.natAbs<2 ^ 20):IntMulOk a b:=by mul_fits
end
noncomputable def jt(qual:Str)(oc:Obj):Prop:=∃vs t,oc.data=.fields vs∧vs[1]?=some (.str qual t)
theorem EV{cs:Scope}(m:Lo){n:Ns}{gp:Program}{gl:List Str}{mean:ExcName→Option Value}{mg mb:Lo}{dp un:Nat}{gd:Option (List sU)}{cn:Str}{L a:Addr}{ccd:Value}{cl:List (Str×Addr)}{outer:List Env}{A₀:Around}{base h₀:Heap}{s:Shared}{E:VP}{e:PE}{KV:Value→Prop}{Q:VP}
  (B:qU A₀ base outer h₀) (F:Fr h₀ L s.heap m) (X:(hd.heap_1 W0.params).In h₀) (N:ba h₀ L s.heap n) (T:Top gp gl mean mg mb h₀) (hk:cs.kind=.function)
  (h:∀c:Fm W0 cs,c.cl=cl→∃al,Ev c.cx m n e al∧∀v,al.den v→KV v) (hq:∀(al:Bq) v h' tk,KV v→Fr h₀ L h' m→ba h₀ L h' n→Q v {s with heap:=h',toks:=tk}):
  aA (aq P0 W0) (ij dp un gd cn cs L a ccd cl outer) (eval e (yR cn cs L a ccd cl)) Q E s:=by
 refine wpAny_noRaise ?_;refine fN (h ⟨gp,gl,mean,mg,mb,dp,un,gd,cn,L,a,ccd,cl,outer,A₀,base,h₀,s,_,λ_=>True,B,X,T,hk,.never,λ_ _=>trivial⟩ rfl) λal he hd=>?_;refine he.run Q s ⟨s.heap,s.toks,rfl,F,N⟩ λv s' d i=>?_;obtain ⟨h',tk,rfl,z,u⟩:=i;exact hq al v h' tk (hd v d) z u
theorem nu{kl c':Addr}{oc:Obj}{qual:Str}{params:ke}{body:PE}{scope:Scope}{clos:List (Str×Addr)}{pm G:Value}{newsK:Ns}{KV:Int→Value→Prop}
  (m1:(kl,nE "<lambda>" qual params body scope clos pm c' G)∈newsK) (m2:(c',oc)∈newsK) (hc:jt qual oc)
  (h:∀(c:Fm W0 scope) (m:Lo) (n:Ns) (t:Int) (tok:Tok),c.cl=clos→m (ae "k")=some (.int t tok)→(∀p∈newsK,p∈n)→0≤t→t<4→∃al,Ev c.cx m n body al∧∀v,al.den v→KV t v)
  (hb:autoParam (∀t tok,bindArgs (kla_fn "<lambda>" qual params body scope clos pm (.ref c') G) ⟨[.int t tok],[]⟩=ck [(ae "k",.int t tok)]) zAh)
  (u:autoParam (scope.names.lookup (ae "k")=some .local) zAa) (O:autoParam (scope.isCoroutine=false) zAa) (z:autoParam (scope.isGenerator=false) zAa) (hk:autoParam (scope.kind=.function) zAa) (e:autoParam (∀x∈scope.names,x.2≠.cell) zAd):f8 W0 kl newsK KV:=by
 intro gp gl mean mg mb dp un gd cn cs a ccd cl outer A₀ base h₀ L m news s Q E t tok B F X N T H J hu hm h0 Y hret;refine pU hc λvs tq hc1 hc2=>?_
 try clear hc
 refine eG ?_;refine kla_code B F X N T rfl rfl H (hm _ m1) (codeRec_news N (hm _ m2) hc1 hc2) ?_ (hb t tok) ?_ ?_ O z hk e
 .refine(?_:dp<aH)
  exact C3 J
 .intro y hy
  rw[az.mp hy];exact u
 intro g' L' h' aa F' N' B' X' T';refine EV (λy=>([(ae "k",eY t tok)]:List (Str×Value)).reverse.lookup y) B' F' X' N' T' hk (λc U=>h c _ news t tok U (by rfl) hm h0 Y) ?_;intro al v h2 tk2 hv F2 N2;exact tS F2 N2 λF3 N3=>hret _ _ _ hv F3 N3
section
variable {cs:Scope}{c:Fm W0 cs}{m:Lo}{n:Ns}{R:Re}
noncomputable abbrev ri(c:Fm W0 cs):Str:=c.env.qual++"<lambda>"
theorem uP{params:ke}{body:PE}{scope:Scope}{pos:Pos}{clos:List (Str×Addr)}{cd P:Addr}{ps:Array Value}{g:Obj→Ns}(z:fC scope c.env=ck clos)(B:c.ccd=.ref cd)(C:IV c.h₀ cd P)(U:xf P (bS ps) n g)(ht:ee ps.toList)(u:nL pos ps.toList=none)(hd:autoParam (CE params c.env=([],[])) zAa):
  Er c.cx m n (.Lambda params body scope pos) (λv n'=>∃f c' oc G e,v=.ref f∧n'=(f,nE "<lambda>" (ri c) params body scope clos G c' e)::(c',oc)::g (bS (ps++#[n4 pos.line,n4 pos.col,.ref c']))∧jt (ri c) oc∧(∀q∈n,q.1<c')∧c'<f):=
 ⟨λQ s hi hq=>by
  obtain ⟨h,tk,rfl,F,N⟩:=hi
  exact kla_eval hd (kla_nest F N c.T C B U ht u z λf c' oc vs t e h' tk Y O J d2 H l2=>hq _ _ _ (EP f c' oc _ e rfl rfl ⟨vs,t,J,d2⟩ H l2) ⟨_,_,rfl,Y,O⟩)⟩
theorem Ad{params:ke}{body:PE}{scope:Scope}{pos:Pos}{clos:List (Str×Addr)}{cd P c':Addr}{ps:Array Value}(u:fC scope c.env=ck clos)(z:c.ccd=.ref cd)(C:IV c.h₀ cd P)(hm:(P,bS ps)∈n)(ht:ee ps.toList)(hf:nL pos ps.toList=some (.ref c'))(hd:autoParam (CE params c.env=([],[])) zAa):
  Er c.cx m n (.Lambda params body scope pos) (λv n'=>∃f B e,v=.ref f∧n'=(f,nE "<lambda>" (ri c) params body scope clos B c' e)::n∧(∀q∈n,q.1<f)):=
 ⟨λQ s hi hq=>by
  obtain ⟨h,tk,rfl,F,N⟩:=hi
  exact kla_eval hd (kla_hit F N c.T C z hm ht hf u λf e h' tk J H G=>hq _ _ _ (nV f _ e rfl rfl G) ⟨_,_,rfl,J,H⟩)⟩
theorem uJ(he:IM c.cx m n iter a b)(hk:(b-a).toNat=k)(G:dT a b 1=true)(J:Addr→Nat→Lo→Ns→Prop)(hJ:∀I,(∀p∈n,p.1<I)→J I 0 m n)
  (turn:∀i t B e I o,i<k→(∀p∈n,p.1<I)→J I i B e→cN c (cj B x (.int (a+(i:Int)) t)) ((I,o)::e) body (FR (md c rest R) I o (J I) (i+1)))
  (done:∀I B e,(∀p∈n,p.1<I)→J I k B e→cN c B e rest R) (hx:autoParam (c.env.kindOf x=some .local) zAa) (hs:autoParam (∀z,bX iter c.env z=ck z) zAb):
  cN c m n (.For (.Name x px) iter body [] pos::rest) R:=
 bL ⟨λQ s hi hq=>by
  refine qS (env:=c.env) hi.at.1 (he.run _ s hi λr t u v s' h' hr=>?_) hs c.hE;subst hk;obtain ⟨h1,U,rfl,F1,N1⟩:=h';refine kj (env:=c.env) rfl hr G (pX a b) F1 N1 λI O=>?_;refine qv (env:=c.env) (J I) (hJ I O) (λi t B e o h tk H j _ F N=>?_) (λB e h tk j F N=>hq .next _ _ _ (done I B e O j) ⟨h,tk,rfl,F,N⟩);refine assign_Name (du (c:=c) ⟨h,tk,rfl,F,N⟩ (λs2 h2=>?_) hx)
  exact(turn i t B e I o H O j).run _ s2 h2 λf m' n' s' r Y=>zU Y (rp h tk rfl) hq r⟩
theorem qD(hc:c.cl.lookup x=some ca)(he:IM c.cx m n iter a b)(hk:(b-a).toNat=k)(G:dT a b 1=true)(J:Addr→Nat→Lo→Ns→Prop)(hJ:∀I,(∀p∈n,p.1<I)→J I 0 m n)
  (turn:∀i t B e I o,i<k→(∀p∈n,p.1<I)→J I i B e→∃oc g v0,xf ca oc ((I,o)::e) g∧oc.data=.cell v0∧∀o':Obj,o'.data=.cell (some (.int (a+(i:Int)) t))→cN c B (g o') body (FR (md c rest R) I o (J I) (i+1)))
  (done:∀I B e,(∀p∈n,p.1<I)→J I k B e→cN c B e rest R) (hx:autoParam (c.env.kindOf x=some .cell) zAa) (hs:autoParam (∀z,bX iter c.env z=ck z) zAb):
  cN c m n (.For (.Name x px) iter body [] pos::rest) R:=
 bL ⟨λQ s hi hq=>by
  refine qS (env:=c.env) hi.at.1 (he.run _ s hi λr t u v s' h' hr=>?_) hs c.hE;subst hk;obtain ⟨h1,aa,rfl,F1,N1⟩:=h';refine kj (env:=c.env) rfl hr G (pX a b) F1 N1 λI Y=>?_;refine qv (env:=c.env) (J I) (hJ I Y) (λi t B e o h tk H j _ F N=>?_) (λB e h tk j F N=>hq .next _ _ _ (done I B e Y j) ⟨h,tk,rfl,F,N⟩);refine zB (turn i t B e I o H Y j) λoc g v0 U hd hn=>?_;refine assign_Name (storeX_C F N hc U hd (λh' o' F' N' O=>?_) c.hk hx)
  exact(hn o' O).run _ _ ⟨h',tk,rfl,F',N'⟩ λf m' n' s' r i'=>zU i' (rp h tk rfl) hq r⟩
end
section
variable {cs:Scope}{c:Fm W0 cs}{sc:Scope}{k:Cx c sc}{m:Lo}{n:Ns}{R:Re}
theorem oU{f e:PE}{id:String}{pos:Pos}{P P':Value→Ns→Prop}(hf:Ev k m n f (.val (.builtin id)))(he:Er k m n e P)
  (hc:∀v n',P v n'→∀(Q:VP) s,k.Is m n' s→(∀v2 n2 s2,P' v2 n2→k.Is m n2 s2→Q v2 s2)→aA (aq P0 W0) c.A (call (.builtin id) [v]) Q k.E s)
  (h1:autoParam (CC k.env f [e] pos) zAa) (h2:autoParam (SE k.env e []) zAa):Er k m n (.Call f [e] [] pos) P':=
 ⟨λQ s hi hQ=>gu (hf.run _ s hi λv s1 z i1=>by
  cases z
  exact callWith_builtin1 (aI (he.run _ s1 i1 λv2 n' s2 u i2=>bK (hc v2 n' u Q s2 i2 hQ)) h2) h2) h1⟩
theorem yA(hm:(l,listOf vs.toArray ep)∈n)(u:au vs xs)(hi:k.Is m n s)(hq:∀t s2,k.Is m n s2→Q (.int xs.sum t) s2):aA (aq P0 W0) c.A (call (.builtin "sum") [.ref l]) Q k.E s:=by
 have z:=hi.get hm;refine hZ (k.opn hi) λm0 ex H F N cl=>?_;exact LSm.sum_ints F N rfl (c9 _ z rfl ⟨ep,rfl⟩) u λh' tk e G B=>hq e _ (cl h' tk n G B)
theorem Lq(hf:Ev k m n f (.val (.builtin "sum")))(he:Ev k m n e (.val (.ref l)))(hm:(l,listOf vs.toArray ep)∈n)(z:au vs xs)
  (h1:autoParam (CC k.env f [e] pos) zAa) (h2:autoParam (SE k.env e []) zAa):Ev k m n (.Call f [e] [] pos) (.int xs.sum):=
 ⟨λQ s hi hQ=>gu (hf.run _ s hi λv s1 B i1=>by
  cases B
  exact callWith_builtin1 (aI (he.run _ s1 i1 λv2 s2 u i2=>bK (by cases u;exact yA hm z i2 λt G i3=>hQ _ _ ⟨t,rfl⟩ i3)) h2) h2) h1⟩
theorem qF{f e:PE}{pos:Pos}{l:Addr}{vs:List Value}{ep:Nat}(hf:Ev k m n f (.val (.builtin "len")))(he:Ev k m n e (.val (.ref l)))(hm:(l,listOf vs.toArray ep)∈n)(z:vs.length≤1000)
  (h1:autoParam (CC k.env f [e] pos) zAa) (h2:autoParam (SE k.env e []) zAa):Ev k m n (.Call f [e] [] pos) (.int (vs.length:Nat)):=
 ⟨λQ s hi hQ=>gu (hf.run _ s hi λv s1 B i1=>by
  cases B
  exact callWith_builtin1 (aI (he.run _ s1 i1 λv2 s2 u i2=>bK (by
   cases u;refine call_len_list (c9 _ (i2.get hm) rfl ⟨ep,rfl⟩) (by rw[aL];exact cW [vs.length] 1 (.a Z0 Y1) (.k (2 ^ 63)) 1 Z0 (.k 1000) rfl (ef z)) ?_;rw[aL]
   exact hQ _ _ ⟨_,rfl⟩ i2.toks)) h2) h2) h1⟩
theorem Fc{f e:PE}{pos:Pos}{P P':Value→Ns→Prop}(hf:Ev k m n f (.val (.builtin "sum")))(he:Er k m n e P)(hP:∀v n',P v n'→∃(l:Addr) (vs:List Value) (xs:List Int) (ep:Nat),v=.ref l∧(l,listOf vs.toArray ep)∈n'∧au vs xs∧∀t,P' (.int xs.sum t) n')
  (h1:autoParam (CC k.env f [e] pos) zAa) (h2:autoParam (SE k.env e []) zAa):Er k m n (.Call f [e] [] pos) P':=
 oU hf he (λv n' p Q s hi hq=>by
  refine Ho (hP v n' p) λl vs xs ep u hm z hp=>?_;subst u
  exact yA hm z hi λt s2 i2=>hq _ _ _ (hp t) i2) h1 h2
theorem uO(h1:Ev k m n e1 a1)(h2:Ev k m n e2 a2)
  (u:∀r,SE k.env e1 r) (e:∀r,SE k.env e2 r)
  (hi:k.Is m n s) (hq:∀v1 v2 s',a1.den v1→a2.den v2→k.Is m n s'→Q [v1,v2] s'):aA (aq P0 W0) c.A (spliced (fj pos (bW [e1,e2] k.env))) Q k.E s:=
 aI (h1.run _ s hi λv1 s1 z i1=>aI (h2.run _ s1 i1 λv2 s2 d2 i2=>bK (hq v1 v2 s2 z d2 i2)) (e _)) (u _)
theorem sk{e1 e2:PE}{k kk:Nat}{z:List PE}{u e pos:Pos}{rest:List Stmt}{i1 i2:Int}{O J:Str}(h1:Ev c.cx m n e1 (.int i1))(h2:Ev c.cx m n e2 (.int i2))
  (h:∀t1 t2,cN c (cj (cj m J (.int i2 t2)) O (.int i1 t1)) n rest R)
  (hs:autoParam (lV [.Tuple z k u] (.Tuple [e1,e2] kk e) pos.line c.env=ck false) zAa)
  (hw:autoParam (fW [.Tuple z k u] (.Tuple [e1,e2] kk e) c.env=ck (some [O,J])) zAa)
  (q1:autoParam (∀r,SE c.env e1 r) zAb) (q2:autoParam (∀r,SE c.env e2 r) zAb)
  (k1:autoParam (c.env.kindOf O=some .local) zAa) (k2:autoParam (c.env.kindOf J=some .local) zAa):
  cN c m n (.Assign [.Tuple z k u] (.Tuple [e1,e2] kk e) pos::rest) R:=
 bL ⟨λQ s hi hq=>sY (names:=[O,J]) (vM (uO (k:=c.cx) h1 h2 q1 q2 hi λv1 v2 s1 d1 d2 B=>by
  refine cp d1 λt1 H=>?_
  try clear d1
  subst H;refine cp d2 λt2 G=>?_
  try clear d2
  subst G;refine iF B.at.1 B.at.2 (λD h' F' N' hl=>?_) (by decide:(2:Nat)≤ec);have Y:=B.to (tk:=s1.toks) F' N';refine Gj F' N' (is_tup Y (zH)) rfl rfl λh2 F2 N2=>?_;have U:=B.to (tk:=s1.toks) F2 (cm N2 λp hp=>zT hp);refine be (qT (du U (λs4 i4=>?_) k2));refine be (qT (du i4 (λs5 i5=>?_) k1))
  exact fE (hq .next _ _ _ (h t1 t2) i5))) hs hw⟩
theorem zV{B X T hk hE hP}(i:Fm.Fin (cs:=cs) ⟨gp,gl,mean,mg,mb,dp,un,gd,cn,L,a,ccd,cl,outer,A₀,base,h₀,s,E,λs'=>s'.gens=s.gens∧s'.drawn=s.drawn,B,X,T,hk,hE,hP⟩ f m' n' s'):∃h tk,s' = {s with heap:=h,toks:=tk}∧Fr h₀ L h m'∧ba h₀ L h n':=by
 cases f with
 | ret v=>
  refine xR i λe1 u F N=>?_
  try clear i
  refine b8 u λe2 e3=>?_
  try clear u
  cases s';dsimp only at e1 e2 e3;subst e1 e2 e3;exact(iw _ _ rfl F N)
 | next=>obtain ⟨h,tk,e,F,N⟩:=i;exact(iw h tk e F N)
 | brk=>obtain ⟨h,tk,e,F,N⟩:=i;exact(iw h tk e F N)
 | cont=>obtain ⟨h,tk,e,F,N⟩:=i;exact(iw h tk e F N)
theorem wj
  (B:qU A₀ base outer h₀) (F:Fr h₀ L s.heap m) (X:(hd.heap_1 W0.params).In h₀) (N:ba h₀ L s.heap n) (T:Top gp gl mean mg mb h₀) (hk:cs.kind=.function)
  (hE:lG (aq P0 W0) (ij dp un gd cn cs L a ccd cl outer) (yR cn cs L a ccd cl) E) (R:Re)
  (h:∀c:Fm W0 cs,c.dp=dp→c.un=un→c.cl=cl→c.L=L→c.ccd=ccd→c.h₀=h₀→cN c m n body R)
  (hq:∀f m' n' h' tk,R f m' n'→Fr h₀ L h' m'→ba h₀ L h' n'→Q f {s with heap:=h',toks:=tk}):
  aA (aq P0 W0) (ij dp un gd cn cs L a ccd cl outer) (kG body (yR cn cs L a ccd cl)) Q E s:=
 wO (c:=⟨gp,gl,mean,mg,mb,dp,un,gd,cn,L,a,ccd,cl,outer,A₀,base,h₀,s,E,λs'=>s'.gens=s.gens∧s'.drawn=s.drawn,B,X,T,hk,hE,λ_ _=>⟨rfl,rfl⟩⟩) (h _ rfl rfl rfl rfl rfl rfl) ⟨s.heap,s.toks,rfl,F,N⟩ λf m' n' s' r i=>by
  refine gL (zV i) λh' tk e F N=>?_;subst e;exact hq f m' n' h' tk r F N
theorem B5
  (B:qU A₀ base outer h₀) (F:Fr h₀ L s.heap m) (X:(hd.heap_1 W0.params).In h₀) (N:ba h₀ L s.heap n) (T:Top gp gl mean mg mb h₀) (hk:cs.kind=.function)
  (hE:lG (aq P0 W0) (ij dp un gd cn cs L a ccd cl outer) (yR cn cs L a ccd cl) E) (P:Shared→Prop) (hP:∀h tk,P {s with heap:=h,toks:=tk}) (R:Re)
  (h:∀c:Fm W0 cs,c.dp=dp→c.un=un→c.cl=cl→c.L=L→c.ccd=ccd→c.h₀=h₀→c.P=P→cN c m n body R)
  (hq:∀v m' n' s',R (.ret v) m' n'→s'.os=s.os→P s'→Fr h₀ L s'.heap m'→ba h₀ L s'.heap n'→Q (.ret v) s') (hr:∀f m' n',R f m' n'→∃v,f=.ret v):
  aA (aq P0 W0) (ij dp un gd cn cs L a ccd cl outer) (kG body (yR cn cs L a ccd cl)) Q E s:=
 wO (c:=⟨gp,gl,mean,mg,mb,dp,un,gd,cn,L,a,ccd,cl,outer,A₀,base,h₀,s,E,P,B,X,T,hk,hE,hP⟩) (h _ rfl rfl rfl rfl rfl rfl rfl) ⟨s.heap,s.toks,rfl,F,N⟩ λf m' n' s' r i=>by
  refine cp (hr _ _ _ r) λv e=>?_;subst e;refine xR i λe1 hp F N=>?_
  try clear i
  exact hq v m' n' s' r e1 hp F N
noncomputable def Fm.on(c:Fm W0 cs)(s2:Shared)(hP:∀h tk,c.P {s2 with heap:=h,toks:=tk}):Fm W0 cs:={c with s:=s2,hP:=hP}
theorem zY(ho:s2.os=c.s.os)(hr:∀f m' n',R f m' n'→∃v,f=.ret v)(h:cN (c.on s2 hP) m n sts R)(F:Fr c.h₀ c.L s2.heap m)(N:ba c.h₀ c.L s2.heap n)(hq:∀f m' n' s',R f m' n'→c.Fin f m' n' s'→Q f s'):aA (aq P0 W0) c.A (kG sts c.env) Q c.E s2:=
 h.run Q s2 ⟨_,_,rfl,F,N⟩ λf m' n' s' r i=>by
  refine cp (hr _ _ _ r) λv e=>?_;subst e;refine xR i λe1 hp F N=>?_
  try clear i
  exact hq _ _ _ _ r (nA (e1.trans ho) hp F N)
end
end
section
open W PyProof Rows Spec PySem.Calls Rows.LCg
theorem sf(h:au va xs)(b:Nat):au (jI va.toArray.toList (some (b:Int)) none) (xs.drop b):=by
 unfold jI kms_lo kms_hi;dsimp only;rw[if_neg (λhh=>MJ hh j7),bM,pT (by rw[dn];exact aS _)]
 by_cases hb:b≤va.length
 .rw[qq hb]
  exact wc h b
 .have e:Min.min b va.length=va.length:=vN (aN (cK hb))
  rw[e,ou,List.drop_eq_nil_of_le (by rw[← h.length];exact aN (cK hb))];exact .nil
theorem B1(h:au va xs)(b:Nat):au (jI va.toArray.toList none (some (b:Int))) (xs.take b):=by
 unfold jI kms_lo kms_hi;dsimp only;rw[if_neg (λhh=>MJ hh j7),bM,MY,Nat.sub_zero]
 by_cases hb:b≤va.length
 .rw[qq hb]
  exact wb h b
 .have e:Min.min b va.length=va.length:=vN (aN (cK hb))
  rw[e,cT,pT (by rw[← h.length];exact aN (cK hb))];exact h
section
variable {cs:Scope}{c:Fm W0 cs}{sc:Scope}{k:Cx c sc}{m:Lo}{n:Ns}{R:Re}
structure An(k:Cx c sc)(m:Lo)(n:Ns)(e:PE)(wh:Sem Value)(P:Bool→Ns→Prop):Prop where
 run:∀(Q:Bool→Shared→Prop) s,k.Is m n s→(∀b n' s',P b n'→k.Is m n' s'→Q b s')→aA (aq P0 W0) c.A (isTrue e k.env wh) Q k.E s
theorem tC{test:PE}{body e rest:List Stmt}{pos:Pos}{P:Bool→Ns→Prop}(ht:An c.cx m n test (eval test c.env) P)(h1:∀n',P true n'→cN c m n' body (md c rest R))(h2:∀n',P false n'→cN c m n' e (md c rest R)):cN c m n (.If test body e pos::rest) R:=
 bL ⟨λQ s hi hq=>Mh (ht.run _ s hi λb n' s' hp h'=>by
  cases b with
  | true=>exact(h1 n' hp).run Q s' h' hq
  | false=>exact(h2 n' hp).run Q s' h' hq)⟩
theorem qw(k:Cx c sc)(hi:k.Is m n s):∃m0 ex,Fr c.h₀ c.L s.heap m0∧ba c.h₀ c.L s.heap (ex++n)∧∀h' tk D o,Fr c.h₀ c.L h' m0→ba c.h₀ c.L h' ((D,o)::(ex++n))→k.Is m ((D,o)::n) {s with heap:=h',toks:=tk}:=by
 refine hZ (k.opn hi) λm0 ex _ F N cl=>?_;refine(iw m0 ex F N (λh' tk D o u e=>cl h' tk _ u (cm e λp hp=>?_)));revert p;k_extra "zsu"
theorem oR{u:PE}{lo z:Option PE}{pos p:Pos}{l:Addr}{vs B:List Value}{ep:Nat}{lv uv:Option Int}(hv:Ev k m n u (.val (.ref l)))(hm:(l,listOf vs.toArray ep)∈n)(hz:vs.length≤1000)
  (hl:∀(Q:VP) s,k.Is m n s→(∀v s',IsPart v lv→k.Is m n s'→Q v s')→aA (aq P0 W0) c.A (Mk lo k.env) Q k.E s)
  (hu:∀(Q:VP) s,k.Is m n s→(∀v s',IsPart v uv→k.Is m n s'→Q v s')→aA (aq P0 W0) c.A (Mk z k.env) Q k.E s)
  (e:jI vs.toArray.toList lv uv=B)
  (hs:autoParam (∀(d:Addr),j8 (.Slice lo z none p) false (.ref l) (.ref d)=tQ [.ref d,.ref l] (pP (.ref l) (.ref d))) zAe) (ht:autoParam (∀r,eX u (.ref l) r=ck ()) zAe):
  Er k m n (.Subscript u (.Slice lo z none p) pos) (λv n'=>∃D,v=.ref D∧n'=(D,listOf B.toArray 0)::n∧∀q∈n,@aR Nat _ q.1 D):=
 ⟨λQ s hi hq=>oa (hv.run _ s hi λo s1 ho i1=>by
  cases ho;refine yY (hl _ s1 i1 λv1 s2 J i2=>hu _ s2 i2 λv2 G H i3=>?_);refine ai ?_;have U:=i3.get hm;refine gL (qw k i3) λm0 ex F N cl=>?_
  exact Gh F N (c9 _ U rfl ⟨ep,rfl⟩) J H e (λD h' F' Y O=>hq _ _ _ (c9 D rfl rfl (λq hq=>O q (zR hq))) (cl h' G.toks D _ F' Y)) (hs _) ht (by rw[aL];exact aw hz (by decide)))⟩
theorem mK(Q:VP)(s:Shared)(hi:k.Is m n s)(hq:∀v s',IsPart v none→k.Is m n s'→Q v s'):aA (aq P0 W0) c.A (Mk none k.env) Q k.E s:=ai (hq _ _ .none hi)
theorem oG(h:Ev k m n e (.int i))(Q:VP)(s:Shared)(hi:k.Is m n s)(hq:∀v s',IsPart v (some i)→k.Is m n s'→Q v s'):aA (aq P0 W0) c.A (Mk (some e) k.env) Q k.E s:=h.run Q s hi λv s' hv z=>by refine cp hv λt u=>?_;try clear hv;subst u;exact hq _ _ (.int i t) z
theorem wT{l r:PE}{pos:Pos}{P P2 P':Value→Ns→Prop}(hl:Er k m n l P)(hr:∀v n1,P v n1→Er k m n1 r (λv2 n2=>P2 v2 n2∧∀p∈n1,p∈n2))
  (h:∀v n1 v2 n2,P v n1→P2 v2 n2→(∀p∈n1,p∈n2)→∃(a b:Addr) (vs ws:List Value) (ea eb:Nat),v=.ref a∧v2=.ref b∧(a,listOf vs.toArray ea)∈n1∧(b,listOf ws.toArray eb)∈n2∧vs.length+ws.length≤1000∧∀D,(∀q∈n2,@aR Nat _ q.1 D)→P' (.ref D) ((D,listOf (vs++ws).toArray 0)::n2)):Er k m n (.BinOp l .Add r pos) P':=
 ⟨λQ s hi hq=>d9 (hl.run _ s hi λv n1 s1 B i1=>(hr v n1 B).run _ s1 i1 λv2 n2 s2 z i2=>by
  refine P9 (h v n1 v2 n2 B z.1 z.2) λa b vs ws ea eb u e ha hb hz hp=>?_;subst u;subst e;have ga:=i2.get (z.2 _ ha);have G:=i2.get hb;refine gL (qw k i2) λm0 ex F N cl=>?_;have lt:=i2.lt.1
  exact add_lists F N (c9 _ ga rfl ⟨ea,rfl⟩) (c9 _ G rfl ⟨eb,rfl⟩) (λh' J H=>hq _ _ _ (hp _ lt) (cl h' s2.toks _ _ J H)) (aw hz (by decide)))⟩
theorem Fd:Er k m n (.List [] pos) (λv n'=>∃D,v=.ref D∧n'=(D,listOf (([]:List Value)).toArray 0)::n∧∀q∈n,@aR Nat _ q.1 D):=
 ⟨λQ s hi hq=>List_ (bK (by
  refine gL (qw k hi) λm0 ex F N cl=>?_
  exact yQ F N (λD h' z u e=>hq _ _ _ (c9 D rfl rfl (λq hq=>e q (zR hq))) (cl h' s.toks D _ z u)) (by decide)))⟩
theorem GR{l r:PE}{pos:Pos}{wh:Sem Value}{P P2:Value→Ns→Prop}{P':Bool→Ns→Prop}(hu:c.un+200<cX)(hl:Er k m n l P)(hr:∀v n1,P v n1→Er k m n1 r (λv2 n2=>P2 v2 n2∧∀p∈n1,p∈n2))
  (h:∀v n1 v2 n2,P v n1→P2 v2 n2→(∀p∈n1,p∈n2)→∃(a b:Addr) (vs ws:List Value) (xs ys:List Int) (ea eb:Nat),v=.ref a∧v2=.ref b∧(a,listOf vs.toArray ea)∈n1∧(b,listOf ws.toArray eb)∈n2∧au vs xs∧au ws ys∧P' (decide (xs=ys)) n2) (hm:autoParam (eR .Eq r=false) zAc):An k m n (.Compare l [.Eq] [r] pos) wh P':=
 ⟨λQ s hi hq=>bY (hl.run _ s hi λv n1 s1 B i1=>(hr v n1 B).run _ s1 i1 λv2 n2 s2 z i2=>by
  refine P6 (h v n1 v2 n2 B z.1 z.2) λa b vs ws xs ys ea eb u e ha hb H G hp=>?_;subst u;subst e
  exact eq_intsK (c9 _ (i2.get (z.2 _ ha)) rfl ⟨ea,rfl⟩) H (c9 _ (i2.get hb) rfl ⟨eb,rfl⟩) G (by refine(?_:c.un+64<cX);exact zE hu (bR true)) (aY (hq _ _ _ hp i2))) hm⟩
structure tM(k:Cx c sc)(m:Lo)(n1:Ns)(v:Value)(s1:Shared)(xs:List Int)(nn:Nat)(It:Nat→Value→Prop)(kp:Ns):Prop where
 p:II k v s1 nn It kp
 l:xs.length=nn
 z:nn≤1000
 it:∀j v,j<nn→It j v→∃t,v=.int (xs.getD j 0) t
 kp:∀p∈kp,p∈n1
theorem wN{x:Str}{px:Pos}{test:PE}{scope:Scope}{cl:List (Str×Addr)}(hkind:scope.kind=.function){n1:Ns}{v:Value}{s1:Shared}{xs:List Int}{nn:Nat}{It:Nat→Value→Prop}{kp:Ns}{g:Int→Bool}{P:Value→Ns→Prop}(S:tM k m n1 v s1 xs nn It kp)
  (ht:∀C E' mC n2 y t,y∈xs→mC x=some (.int y t)→(∀p∈n1,p∈n2)→Tw (k.comp m scope cl C E' hkind) mC n2 test (eval test (fq scope cl C k.env)) (g y))
  (hP:∀D zs,au zs (xs.filter g)→(∀p∈n1,@aR Nat _ p.1 D)→P (.ref D) ((D,bB zs)::n1))
  (hx:autoParam ((rJ scope k.env).names.lookup x=some .local) zAa) (hd:autoParam ((x==("__debug__" : Str))=false) zAd):
  ww k m n1 (.Name x px) x [test] scope cl hkind nn It kp (λi out n3=>n3=n1∧au out ((xs.take i).filter g)) P where
 hJ:=⟨rfl,.nil⟩
 hkp:=λi out n3 h=>by
  obtain ⟨e,h⟩:=h;subst e;exact⟨S.kp,by rw[h.length];exact aw (bU ..) (by rw[eO];exact jy ..)⟩
 turn:=λi v out n3 C I D oI E' mC hi hv hJ O J aj ap ah ar hex=>by
  refine b8 hJ λe Y=>?_
  try clear hJ
  subst e;refine cp (S.it i v hi hv) λt B=>?_;subst B
  have G:i<xs.length:=by rw[S.l];exact hi
  have hg:xs.getD i 0=xs[i]:=by rw[ay,am G];rfl
  have H:xs.take (i+1)=xs.take i++[xs.getD i 0]:=by rw[qW,am G,hg];rfl
  have U:xs.getD i 0∈xs:=by rw[hg];exact bH G
  refine(c9 (g (xs.getD i 0)) (wE (ht C E' mC _ _ t U O λp hp=>zT (zT hp))) (λaa=>fB (iM (ag O hx hd)) λv5 n5 h5=>?_) (λab=>⟨rfl,?_⟩))
  .refine b8 h5 λu e5=>?_
   try clear h5
   refine cp u λt5 h5=>?_
   try clear u
   subst e5;subst h5;refine⟨n3,λp hp=>hp,J,rfl,?_⟩;rw[H,cJ];refine Y.append ?_;rw[fH,if_pos aa];exact .cons _ _ .nil
  .rw[H,cJ]
   rw[fH,if_neg (by rw[ab];decide)];exact(iq out)▸Y.append .nil
 done:=λout n3 D hJ h1 h2=>by
  refine b8 hJ λe Y=>?_
  try clear hJ
  subst e;rw[← S.l,cT] at Y;exact hP D out Y h1
 hsz:=aw S.z (by decide)
theorem pC(hi:k.Is m n s1)(hl:(l,listOf vs.toArray ep)∈n)(u:au vs xs)(hz:xs.length≤1000):tM k m n (.ref l) s1 xs vs.length (λi v=>vs[i]?=some v) [(l,listOf vs.toArray ep)] where
 p:=ui hi hl
 l:=u.length.symm
 z:=by rw[u.length];exact hz
 it:=λj v hj hv=>by
  have e:j<xs.length:=by rw[← u.length];exact hj
  refine cp (u.get j xs[j] (am e)) λtb hb=>?_;rw[hb] at hv;cases hv;exact⟨tb,by rw[ay,am e];rfl⟩
 kp:=λp hp=>by rw[az.mp hp];exact hl
theorem qC{r:Addr}{nn:Nat}{t u v:Tok}{s1:Shared}(hr:PySem.IsRange s1.heap r 0 (nn:Int) 1 t u v)(B:dT 0 (nn:Int) 1=true)(hz:nn≤1000):tM k m n (.ref r) s1 ((aV nn).map λi:Nat=>(i:Int)) nn (λi v=>∃t,v=.int (i:Int) t) [] where
 p:=jD hr B
 l:=by rw[aE,de]
 z:=hz
 it:=λj v hj hv=>by
  refine cp hv λt e=>?_
  try clear hv
  subst e;exact⟨t,by rw[ay,eS,lO hj];rfl⟩
 kp:=λ_ h=>nomatch h
end
end
section
open W PyProof Rows
noncomputable abbrev nX(W0:World)(o:Obj)(kvs:List (Int×Value)):Prop:=o.IsDictOf (gT P0 W0) kvs
section
variable {cs:Scope}{c:Fm W0 cs}{sc:Scope}{k:Cx c sc}{m:Lo}{n:Ns}{R:Re}{d q:Addr}{o:Obj}{kvs:List (Int×Value)}
theorem oS:Er k m n (.Dict [] [] pos) (λv n'=>∃d o,v=.ref d∧n'=(d,o)::n∧nX W0 o []∧(d==cP)=false∧∀q∈n,@aR Nat _ q.1 d):=
 ⟨λQ s hi hq=>by
  refine gL (qw k hi) λm0 ex F N cl=>?_
  exact newDict_K F N c.T.nolimit λd h' o u e l lo _ _ hd _=>hq _ _ _ (QA d o rfl rfl hd lo (λq hq=>l q (zR hq))) (cl h' s.toks d o u e)⟩
theorem Il(he:Ev k m n e (.val (.ref d)))(hm:(d,o)∈n)(hd:nX W0 o kvs)
  (ha:autoParam (eval (.Attribute e "get" pos) k.env=(do
   let o ← eval e k.env
   gc pos.atName
   let r ← gr [o] (jO o "get" true)
   eX e o r
   ck r)) zAc):Er k m n (.Attribute e "get" pos) (λv n'=>∃q,v=.ref q∧n'=(q,cg "dict.get" (.ref d))::n∧∀p∈n,@aR Nat _ p.1 q):=
 ⟨λQ s hi hq=>og (he.run _ s hi λv s1 u i1=>by
  cases u;refine gL (qw k i1) λm0 ex F N cl=>?_
  exact O4 F N (zR hm) hd λq h' B z l=>hq _ _ _ (c9 q rfl rfl (λp hp=>l p (zR hp))) (cl h' (s1.toks+1) q _ B z)) ha⟩
theorem Ib(hf:Ev k m n f (.val (.ref q)))(h1:Ev k m n e1 (.int j))(h2:Ev k m n e2 a2)(hq:(q,cg "dict.get" (.ref d))∈n)(hm:(d,o)∈n)(hd:nX W0 o kvs)(lo:(d==cP)=false)(u:c7 kvs j=x)(ha:∀v,a2.den v→a.den (x.getD v))
  (c1:autoParam (CC k.env f [e1,e2] pos) zAa) (c2:autoParam (SE k.env e1 [e2]) zAa) (c3:autoParam (SE k.env e2 []) zAa):Ev k m n (.Call f [e1,e2] [] pos) a:=
 ⟨λQ s hi hQ=>gu (hf.run _ s hi λv s1 G i1=>by
  cases G;refine hZ (k.opn i1) λm0 ex _ Y N0 _=>?_;refine pK N0 (zR hq) ?_ c2 (hplain:=by rw[show _=_ from c3];rfl);refine aI (h1.run _ s1 i1 λv1 s2 d2 i2=>aI (h2.run _ s2 i2 λv2 J B i3=>bK ?_) c3) c2;refine cp d2 λt e=>?_
  try clear d2
  subst e;refine⟨i3.get hq,?_⟩;refine hZ (k.opn i3) λO z _ U H _=>?_
  exact Jr H (zR hq) (zR hm) hd lo u (hQ _ _ (ha _ B) i3.toks)) c1⟩
theorem wQ(he:Ev k m n e (.val (.ref d)))(h1:Ev k m n e1 (.int j))(h2:Ev k m n e2 a2)(hm:(d,o)∈n)(hd:nX W0 o kvs)(lo:(d==cP)=false)(G:c7 kvs j=x)(ha:∀v,a2.den v→a.den (x.getD v))
  (c1:autoParam (eval (.Call (.Attribute e "get" u) [e1,e2] [] pos) k.env=(do
   let B ← eval e k.env
   gc u.atName
   let (f,first) ← gr [B] (gN B "get" pl)
   iI pos f first (fj pos (bW [e1,e2] k.env)) [])) zAa) (c2:autoParam (SE k.env e1 [e2]) zAa) (c3:autoParam (SE k.env e2 []) zAa):Ev k m n (.Call (.Attribute e "get" u) [e1,e2] [] pos) a:=
 ⟨λQ s hi hQ=>iz (he.run _ s hi λv s1 O i1=>by
  cases O;refine hZ (k.opn i1) λm0 ex _ F0 N0 _=>?_;refine NP N0 (zR hm) hd ?_;refine lK ?_ c2 (hplain:=by rw[show _=_ from c3];rfl);refine aI (h1.run _ s1 i1 λv1 s2 d2 i2=>aI (h2.run _ s2 i2 λv2 Y J i3=>bK ?_) c3) c2;refine cp d2 λt z=>?_
  try clear d2
  subst z;refine hZ (k.opn i3) λm2 H _ F2 U _=>?_
  exact Jl U (zR hm) hd lo G (hQ _ _ (ha _ J) i3.toks)) c1⟩
end
section
variable {cs:Scope}{c:Fm W0 cs}{m:Lo}{n:Ns}{R:Re}
noncomputable def Ph(R:Re)(I:Addr)(o:Obj)(kp:Addr×Obj)(J:Nat→Lo→Ns→Prop)(i:Nat)(f:vd)(m:Lo)(n:Ns):Prop:=match f with
 | .ret v=>R (.ret v) m n
 | .brk=>R .next m n
 | _=>(I,o)∈n∧∃n',(∀p∈n',p∈n∧p.1≠I)∧kp∈n'∧J i m n'
theorem A6(hi:c.Fin f m n s)(z:∃h tk,s₁ = {c.s with heap:=h,toks:=tk})(hq:∀f m' n' s',R f m' n'→c.Fin f m' n' s'→Q f s')(h:Ph R I o kp J i f m n):
  mj c.h₀ c.L s₁ [(I,o)] (λm' n'=>IU [kp] n'∧J i m' n') Q f s:=by
 refine uq z λH G B=>?_
 try clear z
 subst B
 have go:c.Is m n s→((I,o)∈n∧∃n',(∀p∈n',p∈n∧p.1≠I)∧kp∈n'∧J i m n')→IT c.h₀ c.L {c.s with heap:=H,toks:=G} [(I,o)] (λm' n'=>IU [kp] n'∧J i m' n') s:=by
  intro hi u;refine b8 u λO e=>?_;clear u;refine fM e λn' hs hk j=>?_
  try clear e
  obtain ⟨h',tk,rfl,F,N⟩:=hi;exact xD F N ⟨⟨hk,trivial⟩,j⟩ O (λp hp=>(hs p hp).1) (λp hp=>(hs p hp).2)
 cases f with
 | ret v=>exact hq _ _ _ _ h hi
 | brk=>exact hq .next _ _ _ h hi
 | next=>exact go hi h
 | cont=>exact go hi h
theorem uK(he:Ev c.cx m n iter (.val (.ref l)))(hl:(l,listOf vs.toArray ep)∈n)(hi:au vs xs)(J:Nat→Lo→Ns→Prop)(hJ:J 0 m n)
  (turn:∀i G t u e I o,xs[i]?=some G→(∀p∈n,@aR Nat _ p.1 I)→J i u e→cN c (cj u x (.int G t)) ((I,o)::e) body (Ph (md c rest R) I o (l,listOf vs.toArray ep) J (i+1)))
  (done:∀u e,J xs.length u e→cN c u e rest R) (Y:autoParam (c.env.kindOf x=some .local) zAa) (hs:autoParam (∀z,bX iter c.env z=ck z) zAb):
  cN c m n (.For (.Name x px) iter body [] pos::rest) R:=
 bL ⟨λQ s B hq=>by
  refine qS (env:=c.env) B.at.1 (he.run _ s B λv s' hv h'=>?_) hs c.hE;cases hv;obtain ⟨h1,O,rfl,F1,N1⟩:=h';refine CJ (env:=c.env) rfl F1 N1 hl rfl rfl λI hI=>?_;refine B2 (env:=c.env) hi J hJ (λi G t u e o h tk H j _ F N=>?_) (λu e h tk j F N=>hq .next _ _ _ (done u e j) ⟨h,tk,rfl,F,N⟩);refine assign_Name (du (c:=c) ⟨h,tk,rfl,F,N⟩ (λs2 h2=>?_) Y)
  exact(turn i G t u e I o H hI j).run _ s2 h2 λf m' n' s' r U=>A6 U (rp h tk rfl) hq r⟩
theorem EZ(he:Ev c.cx m n e (.int i))(hx:∀t,Ev c.cx (cj m x (.int i t)) n ed (.val (.ref d)))(hk:∀t,Ev c.cx (cj m x (.int i t)) n H (.int j))(U:xf d o n g)(hd:nX W0 o kvs)(hsz:kvs.length≤ec)
  (h:∀t o',nX W0 o' (yK kvs j (.int i t))→cN c (cj m x (.int i t)) (g o') rest R)
  (hw:autoParam (fW [.Name x z,.Subscript ed H u] e c.env=ck none) zAa) (h2:autoParam ((dc [.Name x z,.Subscript ed H u] c.env).map (·.2)=[dh (.Name x z) c.env,dh (.Subscript ed H u) c.env]) zAa) (hl:autoParam (c.env.kindOf x=some .local) zAa):
  cN c m n (.Assign [.Name x z,.Subscript ed H u] e pos::rest) R:=
 bL ⟨λQ s hi hq=>qO (he.run _ s hi λv s1 hv i1=>by
  refine cp hv λt G=>?_
  try clear hv
  subst G;refine assign_Name (du (c:=c) i1 (λs2 i2=>?_) hl);refine kas_sub ((hx t).run _ s2 i2 λv3 s3 d3 i3=>(hk t).run _ s3 i3 λv4 s4 Y J=>?_);cases d3;refine cp Y λt4 B=>?_
  try clear Y
  subst B
  exact kda_set (knd:=gT _ _) J.at.1 J.at.2 U hd (j0 _ _ _ _) hsz λh' o' F' N' O=>hq .next _ _ _ (h t o' O) (J.to F' N')) h2 hw⟩
end
theorem QE(hf:Ev k m n f (.val (.type "range")))(h1:Ev k m n e1 (.int a))(h2:Ev k m n e2 (.int b))
  (c1:autoParam (CC k.env f [e1,e2] pos) zAa) (c2:autoParam (SE k.env e1 [e2]) zAa) (c3:autoParam (SE k.env e2 []) zAa):IM k m n (.Call f [e1,e2] [] pos) a b:=
 ⟨λQ s hi hQ=>gu (hf.run _ s hi λv s1 G i1=>by
  cases G;refine sx ?_ c2 (hplain:=by rw[show _=_ from c3];rfl);refine aI (h1.run _ s1 i1 λv1 s2 d2 i2=>aI (h2.run _ s2 i2 λv2 U B i3=>bK ?_) c3) c2;refine cp d2 λt1 z=>?_
  try clear d2
  subst z;refine cp B λt2 e=>?_
  try clear B
  subst e;refine hZ (k.opn i3) λm0 ex _ F N cl=>?_
  exact range2_rows F N λh' tk t u v H O J _=>hQ _ _ _ _ _ (cl h' tk _ O J) H) c1⟩
noncomputable def OS:List Stmt:=vg P0.main.body 7
noncomputable def mB(k:Nat):List Stmt:=vg OS k
noncomputable def mS(k:Nat):Scope:=tw OS k
noncomputable def oL(k i:Nat):Stmt:=((mB k)[i]?).getD C0
structure IL(m:Lo)(la lb lj q nl:Addr)(alo ahi blo bhi:Int)(u1 u2 u3 u4:Tok):Prop where
 a:m "a"=some (.ref la)
 b:m "b"=some (.ref lb)
 j:m "b2j"=some (.ref lj)
 q:m "isbjunk"=some (.ref q)
 n:m "nothing"=some (.ref nl)
 al:m "alo"=some (.int alo u1)
 ah:m "ahi"=some (.int ahi u2)
 bl:m "blo"=some (.int blo u3)
 bh:m "bhi"=some (.int bhi u4)
structure Mc(m:Lo)(bi bj bs:Int)(t1 t2 t3:Tok):Prop where
 i:m "besti"=some (.int bi t1)
 j:m "bestj"=some (.int bj t2)
 s:m "bestsize"=some (.int bs t3)
section
variable {c:Fm W0 (mS 6)}{m:Lo}{n:Ns}{R:Re}{xs ys:List Int}{va:List Value}{ep1:Nat}{la lb lj q nl:Addr}{oj:Obj}{kvj:List (Int×Value)}{alo ahi blo bhi:Int}{u1 u2 u3 u4:Tok}{rest:List Stmt}{N0:Ns}
inductive Pg(c:Fm W0 (mS 6))(xs ys:List Int)(la lb lj q nl:Addr)(alo ahi blo bhi:Int)(u1 u2 u3 u4:Tok)(N0:Ns)(i:Nat)(m:Lo)(n:Ns):Prop
 | mk (bi bj bs:Int) (t1 t2 t3:Tok) (dj:Addr) (oJ:Obj) (kvJ:List (Int×Value)) (z0:IL m la lb lj q nl alo ahi blo bhi u1 u2 u3 u4) (z1:Mc m bi bj bs t1 t2 t3) (z2:m "j2len"=some (.ref dj)) (z3:n=(dj,oJ)::N0) (z4:nX W0 oJ kvJ) (z5:(dj==cP)=false) (z6:BI xs ys alo blo bhi i bi bj bs) (z7:JL xs ys alo blo bhi i kvJ)
theorem IL.up(h:IL m la lb lj q nl alo ahi blo bhi u1 u2 u3 u4)(e:x∉[("a" : Str),"b","b2j","isbjunk","nothing","alo","ahi","blo","bhi"]):IL (cj m x v) la lb lj q nl alo ahi blo bhi u1 u2 u3 u4:=by
 simp only[ak,bT,or_false,not_or] at e;refine Qh e λh1 h2 h3 h4 h5 h6 h7 h8 h9=>?_
 try clear e
 exact⟨(if_neg (Ne.symm h1)).trans h.a,(if_neg (Ne.symm h2)).trans h.b,(if_neg (Ne.symm h3)).trans h.j,(if_neg (Ne.symm h4)).trans h.q,(if_neg (Ne.symm h5)).trans h.n,(if_neg (Ne.symm h6)).trans h.al,(if_neg (Ne.symm h7)).trans h.ah,(if_neg (Ne.symm h8)).trans h.bl,(if_neg (Ne.symm h9)).trans h.bh⟩
theorem Mc.up{t2:Tok}{t3:Tok}(h:Mc m bi bj bs t1 t2 t3)(e:x∉[("besti" : Str),"bestj","bestsize"]):Mc (cj m x v) bi bj bs t1 t2 t3:=by
 simp only[ak,bT,or_false,not_or] at e;refine ku e λh1 h2 h3=>?_
 try clear e
 exact⟨(if_neg (Ne.symm h1)).trans h.i,(if_neg (Ne.symm h2)).trans h.j,(if_neg (Ne.symm h3)).trans h.s⟩
theorem bc(h:m y=r)(e:autoParam (y≠x) zAd):cj m x v y=r:=(if_neg e).trans h
theorem cZ:cj m x v x=some v:=if_pos rfl
inductive PJ(c:Fm W0 (mS 6))(xs ys:List Int)(la lb lj q nl:Addr)(alo ahi blo bhi:Int)(u1 u2 u3 u4:Tok)(N0:Ns)(I nd:Addr)(o:Obj)(i:Nat)(m:Lo)(n:Ns):Prop
 | mk (bi bj bs:Int) (t1 t2 t3:Tok) (on:Obj) (kvn:List (Int×Value)) (z0:IL m la lb lj q nl alo ahi blo bhi u1 u2 u3 u4) (z1:Mc m bi bj bs t1 t2 t3) (z2:m "newj2len"=some (.ref nd)) (z3:(nd,on)∈n) (z4:(I,o)∈n) (z5:(∀p∈N0,p∈n)) (z6:nX W0 on kvn) (z7:BI xs ys alo blo bhi (i+1) bi bj bs) (z8:JL xs ys alo blo bhi (i+1) kvn)
theorem HW(hE:∀m n,IL m la lb lj q nl alo ahi blo bhi u1 u2 u3 u4→IM c.cx m n (sE (oL 6 7)) alo ahi)(hJ:Pg c xs ys la lb lj q nl alo ahi blo bhi u1 u2 u3 u4 N0 0 m n)
  (d3:(la,listOf va.toArray ep1)∈N0) (ei:au va xs) (d2:(lj,oj)∈N0) (d8:nX W0 oj kvj) (d1:(lj==cP)=false) (d0:(nl,listOf ([]:List Value).toArray 0)∈N0) (dQ:yI ys kvj N0) (c4:ys.Nodup) (c1:xs.length≤32) (q1:0≤alo) (q2:alo≤ahi) (q3:ahi≤xs.length) (q4:0≤blo)
  (br:∀m n,Pg c xs ys la lb lj q nl alo ahi blo bhi u1 u2 u3 u4 N0 (ahi-alo).toNat m n→cN c m n rest R):cN c m n (oL 6 7::rest) R:=by
 have ed:IL m la lb lj q nl alo ahi blo bhi u1 u2 u3 u4:=by obtain ⟨_,_,_,_,_,_,_,_,_,h,_⟩:=hJ;exact h
 refine B7 (a:=alo) (b:=ahi) (k:=(ahi-alo).toNat) (hE m n ed) rfl (Hh q1 q2 (eV [ahi,xs.length] 1 Z0 (.k 32) 1 Z0 Z1 1 Z1 (.k 32) rfl q3 (ef c1))) (Pg c xs ys la lb lj q nl alo ahi blo bhi u1 u2 u3 u4 N0) hJ ?_ br;rintro i t m1 n1 I oI hi hI ⟨bi,bj,bs,t1,t2,t3,dj,oJ,kvJ,hK,hB,as,rfl,dM,dd,G,aD⟩;have cd:=hK.up (x:="i") (v:=.int (alo+(i:Int)) t) (by decide);have cy:=hB.up (x:="i") (v:=.int (alo+(i:Int)) t) (by decide);have U:=bc (x:="i") (v:=.int (alo+(i:Int)) t) as (by decide);have ca:cj m1 "i" (.int (alo+(i:Int)) t) "i"=some (.int (alo+(i:Int)) t):=cZ;generalize cj m1 "i" (.int (alo+(i:Int)) t)=m2 at cd cy U ca ⊢;clear hK hB as;refine dL (Il (ao U) (zT (zH)) dM) ?_;intro v n2 a7;refine fM a7 λH c0 cU lq=>?_;clear a7;subst c0;subst cU;refine dL oS ?_;intro v n2 a6;refine NC a6 λnd on cQ cM aQ c6 ln=>?_;clear a6;subst cQ;subst cM
 obtain ⟨v,c3⟩:∃v,v=xs.getD (alo+i).toNat 0:=⟨_,rfl⟩
 have hv:xs[(alo+i).toNat]?=some v:=by rw[c3];exact lf (ltN (yW [↑((alo+(i:Int)).toNat),xs.length,i,↑((ahi-alo).toNat),ahi,alo] 1 (.a Z0 Y1) Z1 1 (.a Z2 Y1) Z3 1 Z4 Z1 1 Z0 (.a Z5 Z2) 1 Z3 (.s Z4 Z5) rfl (ef hi) q3 (jb (eV [alo,i] 1 Y0 (.a Z0 Z1) 1 Y0 Z0 1 Y0 Z1 rfl q1 j7)) (jb (cW [ahi,alo] 1 Y0 (.s Z0 Z1) 1 Z1 Z0 rfl q2))))
 obtain ⟨l,vs,js,ep,bb,b5,c2,ax⟩:∃(l:Addr) (vs:List Value) (js:List Int) (ep:Nat),(l,listOf vs.toArray ep)∈N0∧au vs js∧(∀v',v'=bG nl→(c7 kvj v).getD v'=.ref l)∧((js=[]∧v∉ys)∨∃u:Nat,js=[(u:Int)]∧ys[u]?=some v):=by
  by_cases hy:v∈ys
  .refine cp (List.getElem?_of_mem hy) λu dq=>?_
   refine Ny (dQ.2 u _ dq) λaj tj ek e1 e2=>?_;exact(EQ aj [.int u tj] [u] ek e2 (.cons _ _ .nil) (λv' _=>by rw[e1];rfl) (.inr (db u rfl dq)))
  .exact(EQ nl [] [] 0 d0 (.nil) (λv' e=>by rw[dQ.1 _ hy];exact e) (.inl ⟨rfl,hy⟩))
 have hN:∀p∈N0,@aR Nat _ p.1 I:=by
  obtain ⟨_,_,_,_,_,_,_,_,_,_,_,_,rfl,_⟩:=hJ;exact λp hp=>hI p (zT hp)
 have aa:=(cd.up (x:="j2lenget") (v:=.ref H) (by decide)).up (x:="newj2len") (v:=.ref nd) (by decide);have cw:=(cy.up (x:="j2lenget") (v:=.ref H) (by decide)).up (x:="newj2len") (v:=.ref nd) (by decide);have ds:=bc (x:="newj2len") (v:=.ref nd) (bc (x:="j2lenget") (v:=.ref H) U (by decide)) (by decide);have b6:=bc (x:="newj2len") (v:=.ref nd) (bc (x:="j2lenget") (v:=.ref H) ca (by decide)) (by decide);have dD:cj (cj m2 "j2lenget" (.ref H)) "newj2len" (.ref nd) "j2lenget"=some (.ref H):=bc cZ;have b0:cj (cj m2 "j2lenget" (.ref H)) "newj2len" (.ref nd) "newj2len"=some (.ref nd):=cZ;generalize cj (cj m2 "j2lenget" (.ref H)) "newj2len" (.ref nd)=m3 at aa cw ds b6 dD b0 ⊢;clear cd cy U ca;have c5:nd≠I:=λe=>da I (e▸ln (I,oI) (zT (zH)));have mN:∀p∈N0,p∈(nd,on)::(H,cg "dict.get" (.ref dj))::(I,oI)::(dj,oJ)::N0:=λp hp=>zT (zT (zT (zT hp)))
 have ab:∀(p1 p2 p3:Pos) m n,PJ c xs ys la lb lj q nl alo ahi blo bhi u1 u2 u3 u4 N0 I nd oI i m n→cN c m n [.Assign [.Name "j2len" p1] (.Name "newj2len" p2) p3] (FR (md c rest R) I oI (Pg c xs ys la lb lj q nl alo ahi blo bhi u1 u2 u3 u4 N0) (i+1)):=by
  rintro p1 p2 p3 m n ⟨bi,bj,bs,t1,t2,t3,on,kvn,hK,hB,hn,e1,e2,e3,hd,G,aD⟩;refine tB (ao hn) (cb ⟨e2,(nd,on)::N0,λp hp=>?_,bi,bj,bs,t1,t2,t3,nd,on,kvn,hK.up (by decide),hB.up (by decide),cZ,rfl,hd,c6,G,aD⟩)
  rcases ak.mp hp with rfl|hp
  .exact⟨e1,c5⟩
  .exact⟨e3 p hp,λe=>da I (e▸hN p hp)⟩
 have dg:=mN _ d3;refine uK (l:=l) (vs:=vs) (xs:=js) (ep:=ep) (wQ (ao aa.j) (ft (ao aa.a) (ag b6) dg ei (Ri q1 j7) (ia [alo,i,xs.length,↑((ahi-alo).toNat),ahi] 1 (.a (.a Z0 Z1) Y1) Z2 1 (.a Z1 Y1) Z3 1 Z4 Z2 1 Z3 (.s Z4 Z0) rfl (ef hi) q3 (jb (cW [ahi,alo] 1 Y0 (.s Z0 Z1) 1 Z1 Z0 rfl q2))) (yW [alo,i,↑((ahi-alo).toNat),ahi,xs.length] 1 (.a (.a Z0 Z1) Y1) (.k (2 ^ 63)) 1 (.a Z1 Y1) Z2 1 Z3 Z4 1 Z4 (.k 32) 1 Z2 (.s Z3 Z0) rfl (ef hi) q3 (ef c1) (jb (cW [ahi,alo] 1 Y0 (.s Z0 Z1) 1 Z1 Z0 rfl q2)))) (ao aa.n) (mN _ d2) d8 d1 rfl λv' e=>?hgv) (mN _ bb) b5 (λB m n=>(B=0→m=m3∧n=(nd,on)::(H,cg "dict.get" (.ref dj))::(I,oI)::(dj,oJ)::N0)∧(1≤B→PJ c xs ys la lb lj q nl alo ahi blo bhi u1 u2 u3 u4 N0 I nd oI i m n)) ⟨λ_=>⟨rfl,rfl⟩,λh=>absurd h (by decide)⟩ ?turn ?done
 case hgv=>
  rw[← c3];exact c2 v' e
 case done=>
  intro m n a5;refine b8 a5 λz0 z1=>?_;clear a5;refine ab _ _ _ m n ?_
  rcases ax with ⟨rfl,hy⟩|⟨u,rfl,hy⟩
  .refine b8 (z0 rfl) λcD cC=>?_
   subst cD;subst cC;exact⟨bi,bj,bs,t1,t2,t3,on,[],aa,cw,b0,zH,zT (zT (zH)),mN,aQ,wZ G (BK hv hy),wK⟩
  .exact z1 (aS _)
 case turn=>
  intro B x1 tj m n I2 o2 bo dV a4;refine b8 a4 λz0 _=>?_;clear a4
  rcases ax with ⟨rfl,hy⟩|⟨u,rfl,hy⟩
  .cases bo
  obtain ⟨rfl,rfl⟩:B=0∧x1=(u:Int):=by
   cases B with
   | zero=>exact⟨rfl,(cS bo).symm⟩
   | succ _=>cases bo
  refine b8 (z0 rfl) λcB cA=>?_;subst cB;subst cA;have Y:=aa.up (x:="j") (v:=.int u tj) (by decide);have a0:=cw.up (x:="j") (v:=.int u tj) (by decide);have d7:=bc (x:="j") (v:=.int u tj) ds (by decide);have dx:=bc (x:="j") (v:=.int u tj) b6 (by decide);have dy:=bc (x:="j") (v:=.int u tj) dD (by decide);have ah:=bc (x:="j") (v:=.int u tj) b0 (by decide);have O:cj m "j" (.int u tj) "j"=some (.int u tj):=cZ;generalize cj m "j" (.int u tj)=m4 at Y a0 d7 dx dy ah O ⊢
  have fin:∀(p1 p2 p3:Pos) (m5:Lo) (J:Obj) (kvn:List (Int×Value)) (f:vd) (bi bj bs:Int) (t1 t2 t3:Tok),(f=.next∨f=.cont)→IL m5 la lb lj q nl alo ahi blo bhi u1 u2 u3 u4→Mc m5 bi bj bs t1 t2 t3→m5 "newj2len"=some (.ref nd)→nX W0 J kvn→BI xs ys alo blo bhi (i+1) bi bj bs→JL xs ys alo blo bhi (i+1) kvn→
    Ph (md c [.Assign [.Name "j2len" p1] (.Name "newj2len" p2) p3] (FR (md c rest R) I oI (Pg c xs ys la lb lj q nl alo ahi blo bhi u1 u2 u3 u4 N0) (i+1))) I2 o2 (l,listOf vs.toArray ep) (λB m6 n=>(B=0→m6=m∧n=(nd,on)::(H,cg "dict.get" (.ref dj))::(I,oI)::(dj,oJ)::N0)∧(1≤B→PJ c xs ys la lb lj q nl alo ahi blo bhi u1 u2 u3 u4 N0 I nd oI i m6 n)) (0+1) f m5 ((I2,o2)::(nd,J)::(H,cg "dict.get" (.ref dj))::(I,oI)::(dj,oJ)::N0):=by
   rintro p1 p2 p3 m5 J kvn f bi bj bs t1 t2 t3 hf hK hB hn hd G aD
   have go:(I2,o2)∈(I2,o2)::(nd,J)::(H,cg "dict.get" (.ref dj))::(I,oI)::(dj,oJ)::N0∧∃n',(∀p∈n',p∈(I2,o2)::(nd,J)::(H,cg "dict.get" (.ref dj))::(I,oI)::(dj,oJ)::N0∧p.1≠I2)∧(l,listOf vs.toArray ep)∈n'∧(0+1=0→m5=m∧n'=(nd,on)::(H,cg "dict.get" (.ref dj))::(I,oI)::(dj,oJ)::N0)∧(1≤0+1→PJ c xs ys la lb lj q nl alo ahi blo bhi u1 u2 u3 u4 N0 I nd oI i m5 n'):=by
    refine⟨zH,(nd,J)::(I,oI)::N0,λp hp=>?_,zT (zT bb),λh=>absurd h (by decide),λ_=>⟨bi,bj,bs,t1,t2,t3,J,kvn,hK,hB,hn,zH,zT (zH),λp hp=>zT (zT hp),hd,G,aD⟩⟩;have lt:∀a o,(a,o)∈(nd,on)::(H,cg "dict.get" (.ref dj))::(I,oI)::(dj,oJ)::N0→a≠I2:=λa o h e=>da I2 (e▸dV (a,o) h)
    rcases ak.mp hp with rfl|hp
    .exact⟨zT (zH),lt nd on (zH)⟩
    rcases ak.mp hp with rfl|hp
    .exact⟨zT (zT (zT (zH))),lt I oI (zT (zT (zH)))⟩
    .exact⟨zT (zT (zT (zT (zT hp)))),lt p.1 p.2 (mN _ hp)⟩
   rcases hf with rfl|rfl
   .exact go
   .exact go
  refine dE (eJ lh (ag O) (ag Y.bl)) (λhb=>?_) (λhb=>cb ?_)
  .exact E5 (fin ⟨0,0,0,0⟩ ⟨0,0,0,0⟩ ⟨0,0,0,0⟩ m4 on [] .cont bi bj bs t1 t2 t3 (.inr rfl) Y a0 ah aQ (wZ G (xI c4 q4 hv hy (.inl (of_decide_eq_true hb)))) wK)
  have U:¬(u:Int)<blo:=of_decide_eq_false hb;refine dE (eJ Fw (ag O) (ag Y.bh)) (λhb=>?_) (λhb=>cb ?_)
  .refine HZ (ab _ _ _ m4 _ ⟨bi,bj,bs,t1,t2,t3,on,[],Y,a0,ah,?_,?_,?_,aQ,wZ G (xI c4 q4 hv hy (.inr (of_decide_eq_true hb))),wK⟩)
   .exact zT (zH)
   .exact zT (zT (zT (zH)))
   .exact λp hp=>zT (mN p hp)
  have as:¬bhi≤(u:Int):=of_decide_eq_false hb
  obtain ⟨z,b4,d4,ar,dp,dK⟩:∃z:Int,0≤z∧(∀v',Bq.den (.int 0) v'→Bq.den (.int z) ((c7 kvJ ((u:Int)-1)).getD v'))∧z+1≤i+1∧blo≤(u:Int)-(z+1)+1∧qM xs ys (alo+i+1-(z+1)) ((u:Int)-(z+1)+1) (z+1):=by
   cases aM:c7 kvJ ((u:Int)-1) with
   | none=>exact(Oy 0 (b7 0) (λv' h=>h) (cW [i] 1 (.a Y0 Y1) (.a Z0 Y1) 1 Y0 Z0 rfl j7) (cW [blo,u] 1 Z0 (.a (.s Z1 (.a Y0 Y1)) Y1) 1 Z0 Z1 rfl (Ps U)) (new_one hv hy))
   | some x=>
    refine NB (aD _ _ aM) λz tk0 cz ar hk2 d6 em d5=>?_;subst cz;exact(Oy z (cW [z] 1 Y0 Z0 1 Y1 Z0 rfl ar) (λv' h=>⟨tk0,rfl⟩) (lr hk2 1) (cW [blo,u,z] 1 Z0 (.a (.s Z1 (.a Z2 Y1)) Y1) 1 Z0 (.a (.s (.s Z1 Y1) Z2) Y1) rfl d6) (El hv hy ar d5))
  have dS:I2≠nd:=λe=>da I2 (by have:=dV (nd,on) (zH);rw[e] at this ⊢;exact this);refine EZ (o:=on) (kvs:=[]) (eg (Ib (ao dy) (jo (ag O) bf) bf (zT (zT (zH))) (zT (zT (zT (zT (zH))))) dM dd rfl d4) bf) (λt=>ao (bc ah)) (λt=>ag (bc O)) (.tail dS (.head λp hp=>?off)) aQ (cr _) λt o' dN=>?_
  case off=>exact λe=>da nd (e▸ln p hp)
  have cc:=Y.up (x:="k") (v:=.int (z+1) t) (by decide);have cn:=a0.up (x:="k") (v:=.int (z+1) t) (by decide);have dv:=bc (x:="k") (v:=.int (z+1) t) dx (by decide);have bm:=bc (x:="k") (v:=.int (z+1) t) O (by decide);have bv:=bc (x:="k") (v:=.int (z+1) t) ah (by decide);have ap:cj m4 "k" (.int (z+1) t) "k"=some (.int (z+1) t):=cZ;generalize cj m4 "k" (.int (z+1) t)=m5 at cc cn dv bm bv ap ⊢;have aM:=KZ (bhi:=bhi) (t:=t) (EO (gi z 1) (Py b4)) ar dp (ME as) dK;refine dE (eJ qk (ag ap) (ag cn.s)) (λhb=>?_) (λhb=>cb ?_)
  .refine pE (eg (jo (ag dv) (ag ap)) bf) (eg (jo (ag bm) (ag ap)) bf) (ag ap) λt4 t5 t6=>?_
   refine cb (cb (fin _ _ _ _ o' _ .next _ _ _ t4 t5 t6 (.inl rfl) (((cc.up (by decide)).up (by decide)).up (by decide)) ⟨cZ,bc cZ,bc (bc cZ)⟩ (bc (bc (bc bv))) dN (LS (EO (gi z 1) (Py b4)) ar dp (ME as) dK) aM))
  .exact cb (fin _ _ _ m5 o' _ .next bi bj bs t1 t2 t3 (.inl rfl) cc cn bv dN (ID G (EO (gi z 1) (Py b4)) (of_decide_eq_false hb)) aM)
end
section
variable {cs:Scope}{c:Fm W0 cs}{sc:Scope}{k:Cx c sc}{m:Lo}{n:Ns}{R:Re}
theorem wS(h1:Ev k m n e1 (.int i1))(h2:Ev k m n e2 (.int i2))(h3:Ev k m n e3 (.int i3))
  (U:autoParam (∀r,SE k.env e1 r) zAb) (O:autoParam (∀r,SE k.env e2 r) zAb) (J:autoParam (∀r,SE k.env e3 r) zAb):
  Er k m n (.Tuple [e1,e2,e3] kk pos) (λv n'=>∃t t1 t2 t3,v=.ref t∧n'=(t,dU #[.int i1 t1,.int i2 t2,.int i3 t3])::n∧∀p∈n,@aR Nat _ p.1 t):=
 ⟨λQ s hi hq=>vM (yk h1 h2 h3 U O J hi λv1 v2 v3 s1 H d2 G B=>by
  refine cp H λt1 z=>?_
  try clear H
  subst z;refine cp d2 λt2 u=>?_
  try clear d2
  subst u;refine cp G λt3 e=>?_
  try clear G
  subst e;refine gL (qw k B) λm0 ex F N cl=>?_
  exact iF F N (λD h' F' Y hl=>hq _ _ _ (Qw D t1 t2 t3 rfl rfl (λp hp=>hl p (zR hp))) (cl h' s1.toks D _ F' Y)) (by decide:(3:Nat)≤ec))⟩
theorem tF(h1:Ev k m n e1 (.int i1))(h2:Ev k m n e2 (.int i2))(h3:Ev k m n e3 (.int i3))(h4:Ev k m n e4 (.int G))
  (q1:autoParam (∀r,SE k.env e1 r) zAb) (q2:autoParam (∀r,SE k.env e2 r) zAb) (q3:autoParam (∀r,SE k.env e3 r) zAb) (q4:autoParam (∀r,SE k.env e4 r) zAb):
  Er k m n (.Tuple [e1,e2,e3,e4] kk pos) (λv n'=>∃t t1 t2 t3 t4,v=.ref t∧n'=(t,dU #[.int i1 t1,.int i2 t2,.int i3 t3,.int G t4])::n∧∀p∈n,@aR Nat _ p.1 t):=
 ⟨λQ s hi hq=>vM (aI (h1.run _ s hi λv1 s1 O i1=>aI (h2.run _ s1 i1 λv2 s2 d2 i2=>aI (h3.run _ s2 i2 λv3 Y J i3=>aI (h4.run _ Y i3 λv4 U H G=>bK (by
  refine cp O λt1 B=>?_
  try clear O
  subst B;refine cp d2 λt2 z=>?_
  try clear d2
  subst z;refine cp J λt3 u=>?_
  try clear J
  subst u;refine cp H λt4 e=>?_
  try clear H
  subst e;refine gL (qw k G) λm0 ex F N cl=>?_
  exact iF F N (λD h' F' N' hl=>hq _ _ _ (Qu D t1 t2 t3 t4 rfl rfl (λp hp=>hl p (zR hp))) (cl h' U.toks D _ F' N')) (by decide:(4:Nat)≤ec))) (q4 _)) (q3 _)) (q2 _)) (q1 _))⟩
end
section
variable {cs:Scope}{c:Fm W0 cs}{m:Lo}{n:Ns}{R:Re}{l:Addr}{vs:List Value}{ep:Nat}
theorem gO{x e:PE}{z u pos:Pos}{H:Sem Bool}{rest:List Stmt}{P:Value→Ns→Prop}(J:Ev c.cx m n x (.val (.ref l)))(hm:(l,listOf vs.toArray ep)∈n)(he:Er c.cx m n e P)(hz:vs.length≤ec)
  (h:∀v n',P v n'→∃n2,Upd l (listOf vs.toArray ep) (listOf (vs++[v]).toArray (ep+1)) n' n2∧cN c m n2 rest R)
  (c1:autoParam (eval (.Call (.Attribute x "append" z) [e] [] u) c.env=(do
   let G ← eval x c.env
   gc z.atName
   let (f,first) ← gr [G] (gN G "append" H)
   iI u f first (fj u (bW [e] c.env)) [])) zAa) (c2:autoParam (SE c.env e []) zAa)
  (hi:autoParam (yZ c.env=false) zAa) (hs:autoParam (f9 (.Call (.Attribute x "append" z) [e] [] u) none pos.line c.env=ck false) zAa):
  cN c m n (.Expr (.Call (.Attribute x "append" z) [e] [] u) pos::rest) R:=
 bL ⟨λQ s B hq=>ii (iz (J.run _ s B λv s1 hv i1=>by
  cases hv;have O:=i1.at.2 _ hm;refine PySem.Calls.getMethod_list_append O.1 rfl rfl (lK (aI (he.run _ s1 i1 λv n' s2 hp i2=>bK ?_) c2) c2);refine fN (h v n' hp) λn2 U hn=>?_
  have Y:listOf (vs++[v]).toArray (ep+1)=listOf (vs.toArray.push v) (ep+1):=by simp
  rw[Y] at U
  exact append_K i2.at.1 i2.at.2 U (λh' F' N'=>hq .next _ _ _ hn (i2.to (tk:=s2.toks) F' N')) (by rw[aL];exact hz)) c1) hi hs⟩
theorem E1{t2:Tok}{t3:Tok}(hx:Ev c.cx m n x (.val (.ref l)))
  (U:Upd l (listOf (vs++[bG q]).toArray ep) (listOf vs.toArray (ep+1)) n n') (ht:(q,dU #[.int a1 t1,.int a2 t2,.int a3 t3,.int a4 t4])∈n') (hz:(vs++[bG q]).length≤ec)
  (h:cN c (cj (cj (cj (cj m x1 (.int a1 t1)) x2 (.int a2 t2)) x3 (.int a3 t3)) Y (.int a4 t4)) n' rest R)
  (c1:autoParam (eval (.Call (.Attribute x "pop" z) [] [] u) c.env=(do
   let ov ← eval x c.env
   gc z.atName
   let (f,first) ← gr [ov] (gN ov "pop" pl)
   iI u f first (fj u (bW [] c.env)) [])) zAa)
  (he:autoParam ((dc e c.env).map (·.2)=[dh (.Name x1 p1) c.env,dh (.Name x2 p2) c.env,dh (.Name x3 p3) c.env,dh (.Name Y p4) c.env]) zAa) (hn:autoParam ((dc e c.env).length=4) zAa) (H:autoParam ((dc e c.env).findIdx? (·.1)=none) zAa)
  (hs:autoParam (lV [.Tuple e kk B] (.Call (.Attribute x "pop" z) [] [] u) pos.line c.env=ck false) zAa)
  (hw:autoParam (fW [.Tuple e kk B] (.Call (.Attribute x "pop" z) [] [] u) c.env=ck none) zAa)
  (k1:autoParam (c.env.kindOf x1=some .local) zAa) (k2:autoParam (c.env.kindOf x2=some .local) zAa) (k3:autoParam (c.env.kindOf x3=some .local) zAa) (k4:autoParam (c.env.kindOf Y=some .local) zAa):
  cN c m n (.Assign [.Tuple e kk B] (.Call (.Attribute x "pop" z) [] [] u) pos::rest) R:=
 bL ⟨λQ s O hq=>I3 (iz (hx.run _ s O λv s1 hv i1=>by
  cases hv;obtain ⟨pre,post,J,-,-,-⟩:=U.split;refine kl_method i1.at.2 (D:=l) (J▸zR (zH)) PySem.F.slot_list_pop PySem.F.type_list_pop (callWith_method0 (kl_pop i1.at.1 i1.at.2 (kpa_last _ _) U hz λh' F' N'=>?_));have i2:=i1.to (tk:=s1.toks) F' N';refine vL rfl (is_tup (vs:=[.int a1 t1,.int a2 t2,.int a3 t3,.int a4 t4]) i2 ht) hn H λh2 G=>?_;have i3:c.Is m n' {s1 with heap:=h2}:=i1.to (tk:=s1.toks) (F'.extBut G (aS _)) (N'.extBut G (aS _));rw[he];refine be (assign_Name (du i3 (λs4 i4=>?_) k1));refine be (assign_Name (du i4 (λs5 i5=>?_) k2));refine be (assign_Name (du i5 (λs6 i6=>?_) k3));refine be (assign_Name (du i6 (λs7 i7=>?_) k4))
  exact fE (hq .next _ _ _ h i7)) c1) hs hw⟩
theorem AD(u:Ev c.cx m n (.Name x px) (.val (.ref l)))(hm:(l,listOf vs.toArray ep)∈n)(hz:vs.length≤ec):Tw c.cx m n (.Name x px) (eval (.Name x px) c.env) (!vs.isEmpty):=
 ⟨λQ s hi hq=>xm (u.run _ s hi λv s1 hv i1=>by
  cases hv
  rcases CT vs with rfl|⟨us,v,e⟩
  .exact BC i1.at.2 hm (hq _ i1.toks)
  .rw[CU] at e
   subst e;refine zf i1.at.2 hm hz ?_
   have e2:(!(us++[v]).isEmpty)=true:=by cases us<;>rfl
   exact e2▸hq _ i1.toks) rfl⟩
theorem yc(hf:fK (hd.heap_1 W0.params) (.ref 171) "__iter__"=some (some (.builtin "tuple.__iter__")))(aj:ls (hd.heap_1 W0.params) 171 (.type "tuple")=some true)
  (he:Ev c.cx m n iter (.val (.ref l))) (hl:(l,listOf (refsOf ms).toArray ep)∈n) (J:Nat→Lo→Ns→Prop) (hJ:J 0 m n) (ap:∀i m n,J i m n→∀q∈ms,sM n q)
  (turn:∀i q a b t1 t2 t3 B u I o,ms[i]?=some q→(∀p∈u,@Ne Nat p.1 I)→J i B u→cN c (cj (cj (cj B x1 (.int a t1)) x2 (.int b t2)) x3 (.int q.2 t3)) ((I,o)::u) body (Ph (md c rest R) I o (l,listOf (refsOf ms).toArray ep) J (i+1)))
  (done:∀B u,J ms.length B u→cN c B u rest R)
  (ar:autoParam ((dc O c.env).map (·.2)=[dh (.Name x1 p1) c.env,dh (.Name x2 p2) c.env,dh (.Name x3 p3) c.env]) zAa) (hn:autoParam ((dc O c.env).length=3) zAa) (ah:autoParam ((dc O c.env).findIdx? (·.1)=none) zAa)
  (k1:autoParam (c.env.kindOf x1=some .local) zAa) (k2:autoParam (c.env.kindOf x2=some .local) zAa) (k3:autoParam (c.env.kindOf x3=some .local) zAa) (hs:autoParam (∀z,bX iter c.env z=ck z) zAb):
  cN c m n (.For (.Tuple O kk as) iter body [] pos::rest) R:=
 bL ⟨λQ s ab hq=>by
  refine qS (env:=c.env) ab.at.1 (he.run _ s ab λv s' hv h'=>?_) hs c.hE;cases hv;obtain ⟨h1,ax,rfl,F1,N1⟩:=h';refine CJ (env:=c.env) rfl F1 N1 hl rfl rfl λI hI=>?_;refine Bz (env:=c.env) (λi m n=>J i m n∧∀p∈n,@Ne Nat p.1 I) ⟨hJ,λp hp=>aB (hI p hp)⟩ (λi v B u o h tk hv j _ F N=>?_) (λB u h tk j F N=>hq .next _ _ _ (done B u (by have:=j.1;simpa [refsOf] using this)) ⟨h,tk,rfl,F,N⟩);obtain ⟨j,Y⟩:=j;obtain ⟨q,U,rfl⟩:=mJ hv;obtain ⟨dx,a,b,t1,t2,t3,aa⟩:=ap _ _ _ j q (cq U);refine um (K:=hd.heap_1 W0.params) (C:=171) rfl F N c.X (zT aa) rfl rfl hf aj hn ah λh' F' N'=>?_;rw[ar];refine be (assign_Name (du (c:=c) (n:=(I,o)::u) ⟨h',tk,rfl,F',N'⟩ (λs4 i4=>?_) k1));refine be (assign_Name (du i4 (λs5 i5=>?_) k2));refine be (assign_Name (du i5 (λs6 i6=>fE ?_) k3));refine(turn i q a b t1 t2 t3 B u I o U Y j).run _ s6 i6 λf m' n' s' r i'=>A6 (R:=md c rest R) (I:=I) (o:=o) (kp:=(l,listOf (refsOf ms).toArray ep)) (J:=λi m n=>J i m n∧∀p∈n,@Ne Nat p.1 I) (i:=i+1) i' ⟨h,tk,rfl⟩ hq ?_
  cases f with
  | ret v=>exact r
  | brk=>exact r
  | next=>refine b8 r λa H=>?_;try clear r;refine fM H λn' b d e=>?_;try clear H;exact⟨a,n',b,d,e,λp hp=>(b p hp).2⟩
  | cont=>refine b8 r λa G=>?_;try clear r;refine fM G λn' b d e=>?_;try clear G;exact⟨a,n',b,d,e,λp hp=>(b p hp).2⟩⟩
theorem B9{u:List PE}{kk:Nat}{z pos px:Pos}{e:PE}{rest:List Stmt}{O J H x:Str}{p1 p2 p3:Pos}{P:Int→Int→Int→Tok→Tok→Tok→Addr→Addr→Ns→Prop}(hf:fK (hd.heap_1 W0.params) (.ref 171) "__iter__"=some (some (.builtin "tuple.__iter__")))(Y:ls (hd.heap_1 W0.params) 171 (.type "tuple")=some true)
  (he:Er c.cx m n e (λv n'=>∃a b d t1 t2 t3 r dx,v=.ref r∧(r,dW dx a b d t1 t2 t3)∈n'∧P a b d t1 t2 t3 r dx n'))
  (h:∀a b d t1 t2 t3 r dx n',P a b d t1 t2 t3 r dx n'→cN c (cj (cj (cj (cj m O (.int a t1)) J (.int b t2)) H (.int d t3)) x (.ref r)) n' rest R)
  (hw:autoParam (fW [.Tuple u kk z,.Name x px] e c.env=ck none) zAa) (h2:autoParam ((dc [.Tuple u kk z,.Name x px] c.env).map (·.2)=[dh (.Tuple u kk z) c.env,dh (.Name x px) c.env]) zAa)
  (aa:autoParam ((dc u c.env).map (·.2)=[dh (.Name O p1) c.env,dh (.Name J p2) c.env,dh (.Name H p3) c.env]) zAa) (hn:autoParam ((dc u c.env).length=3) zAa) (U:autoParam ((dc u c.env).findIdx? (·.1)=none) zAa)
  (k1:autoParam (c.env.kindOf O=some .local) zAa) (k2:autoParam (c.env.kindOf J=some .local) zAa) (k3:autoParam (c.env.kindOf H=some .local) zAa) (k4:autoParam (c.env.kindOf x=some .local) zAa):
  cN c m n (.Assign [.Tuple u kk z,.Name x px] e pos::rest) R:=
 bL ⟨λQ s hi hq=>qO (he.run _ s hi λv n' s1 hv i1=>by
  refine P7 hv λa b d t1 t2 t3 r dx B G hP=>?_
  try clear hv
  subst B;refine um (K:=hd.heap_1 W0.params) (C:=171) rfl i1.at.1 i1.at.2 c.X G rfl rfl hf Y hn U λh' F' N'=>?_;rw[aa];refine be (assign_Name (du (i1.to (tk:=s1.toks) F' N') (λs4 i4=>?_) k1));refine be (assign_Name (du i4 (λs5 i5=>?_) k2));refine be (assign_Name (du i5 (λs6 i6=>fE ?_) k3))
  exact assign_Name (du i6 (λs7 i7=>hq .next _ _ _ (h _ _ _ _ _ _ _ _ _ hP) i7) k4)) h2 hw⟩
theorem mZ:Er k m n (.List [] pos) (λv n'=>∃d,v=.ref d∧n'=(d,listOf ([]:List Value).toArray 0)::n∧∀q∈n,@aR Nat _ q.1 d):=
 ⟨λQ s hi hq=>List_ (bK (by
  refine gL (qw k hi) λm0 ex F N cl=>?_
  exact yQ F N (λd h' u e l=>hq _ _ _ (c9 d rfl rfl (λq hq=>l q (zR hq))) (cl h' s.toks d _ u e)) (by decide)))⟩
theorem EY(he:Ev c.cx m n e (.int i))(h:∀t,cN c (cj (cj (cj m G (.int i t)) B (.int i t)) z (.int i t)) n rest R)
  (hw:autoParam (fW [.Name G O,.Name B J,.Name z H] e c.env=ck none) zAa) (h2:autoParam ((dc [.Name G O,.Name B J,.Name z H] c.env).map (·.2)=[dh (.Name G O) c.env,dh (.Name B J) c.env,dh (.Name z H) c.env]) zAa)
  (k1:autoParam (c.env.kindOf G=some .local) zAa) (k2:autoParam (c.env.kindOf B=some .local) zAa) (k3:autoParam (c.env.kindOf z=some .local) zAa):
  cN c m n (.Assign [.Name G O,.Name B J,.Name z H] e pos::rest) R:=
 bL ⟨λQ s hi hq=>wpAny_Assign_three (he.run _ s hi λv s1 hv i1=>by
  refine cp hv λt u=>?_
  try clear hv
  subst u;refine assign_Name (du (c:=c) i1 (λs2 i2=>?_) k1);refine assign_Name (du (c:=c) i2 (λs3 i3=>?_) k2)
  exact assign_Name (du (c:=c) i3 (λY U=>hq .next _ _ _ (h t) U) k3)) h2 hw⟩
theorem B8(hu:c.A.units+1<cX)(hf:fK (hd.heap_1 W0.params) (.ref 171) "__lt__"=some (some (.builtin "tuple.__lt__")))(O:ls (hd.heap_1 W0.params) 171 (.type "tuple")=some true)
  (hx:Ev c.cx m n x (.val (.ref l))) (U:xf l (listOf (refsOf ms).toArray ep) n g) (hM:∀q∈ms,sM T q) (hT:∀o,∀p∈T,p∈g o) (aa:ms.length<64)
  (h:∀z c',z.Perm ms→cN c m (g (listOf (refsOf z).toArray c')) rest R)
  (c1:autoParam (eval (.Call (.Attribute x "sort" u) [] [] e) c.env=(do
   let ov ← eval x c.env
   gc u.atName
   let (f,first) ← gr [ov] (gN ov "sort" pl)
   iI e f first (fj e (bW [] c.env)) [])) zAa)
  (hi:autoParam (yZ c.env=false) zAa) (hs:autoParam (f9 (.Call (.Attribute x "sort" u) [] [] e) none pos.line c.env=ck false) zAa):
  cN c m n (.Expr (.Call (.Attribute x "sort" u) [] [] e) pos::rest) R:=
 bL ⟨λQ s Y hq=>ii (iz (hx.run _ s Y λv s1 hv i1=>by
  cases hv;refine hZ U.split λpre post J H G B=>?_;clear H;clear G;clear B;refine kl_method i1.at.2 (D:=l) (J▸zR (zH)) PySem.F.slot_list_sort PySem.F.type_list_sort (callWith_method0 ?_)
  exact zG hu c.X hf O i1.at.1 i1.at.2 U hM hT aa λz h' tk' c' hp F' N'=>hq .next _ _ _ (h z c' hp) (i1.to F' N')) c1) hi hs⟩
end
noncomputable abbrev K1(W0:World):Frag:=hd.heap_1 W0.params
noncomputable def x9:vd→Value
 | .ret v=>v
 | _=>.none
structure fk(W0:World)(f:Addr)(args:List Value)(n:Ns)(dp un:Nat)(P:Value→Ns→Prop):Prop where
 run:∀{gp:Program}{gl:List Str}{mean:ExcName→Option Value}{mg mb:Lo}{dp0 un0:Nat}{gd:Option (List sU)}{cn:Str}{cs:Scope}{a:Addr}{ccd:Value}{cl:List (Str×Addr)}{outer:List Env}{A₀:Around}{base h₀:Heap}{L:Addr}{m:Lo}{s:Shared}{Q E:VP},
  qU A₀ base outer h₀→Fr h₀ L s.heap m→(K1 W0).In h₀→ba h₀ L s.heap n→Top gp gl mean mg mb h₀→cs.kind=.function→dp0+dp<aH→un0+un<cX→
  (∀v n' h' tk',P v n'→Fr h₀ L h' m→ba h₀ L h' n'→Q v {s with heap:=h',toks:=tk'})→aA (aq P0 W0) (ij dp0 un0 gd cn cs L a ccd cl outer) (call (.ref f) args) Q E s
theorem li{f:Addr}{args:List Value}{n:Ns}{dp un:Nat}{P:Value→Ns→Prop}{name qual:Str}{params:ke}{body:List Stmt}{scope:Scope}{dV kV doc pm z ct oc:Value}{an od:Option Addr}{O:Array (Option Value)}{binds:List (Str×Value)}
  (ho:(K1 W0).lookup f=some ⟨oc,od,.func (Ms name qual params body scope dV kV doc pm an z ct),O⟩) (ah:codeIn (K1 W0) z qual=true)
  (u:∀s:Shared,(K1 W0).In s.heap→IY s (Ms name qual params body scope dV kV doc pm an z ct) ⟨args,[]⟩ binds) (G:∀y∈binds,scope.names.lookup y.1=some .local) (ab:scope.isCoroutine=false) (H:scope.isGenerator=false) (hk:scope.kind=.function) (e:∀x∈scope.names,x.2≠.cell)
  (h:∀c:Fm W0 scope,c.dp+dp<aH→c.un+un<cX→cN c (λy=>binds.reverse.lookup y) n body (λJ _ n'=>P (x9 J) n')):fk W0 f args n (dp+1) (un+3) P:=
 ⟨λB F X N T Y hd hu hq=>eG (xe B F X N T rfl rfl Y ho ah (by show _<aH;simp only;exact C3 hd) (u _ (X.keeps F.keep)) G (λg L' aj FG F' N' B' X' T'=>by
  refine uG (cs:=scope) B' F' X' N' T' hk (by passes_own) (λJ _ n'=>P (x9 J) n') (λc aa U=>h c (by rw[aa];simp only;lia) (by rw[U];simp only;lia)) ?_;intro J m' n' h' tk hP F2 N2
  exact tS F2 N2 λkF kN=>hq _ _ _ _ hP kF kN) ab H hk e)⟩
section
variable {cs:Scope}{c:Fm W0 cs}{sc:Scope}{k:Cx c sc}{m:Lo}{n:Ns}{R:Re}{rest:List Stmt}{x C D:Addr}{es:List DictEntry}{en:Nat}{name:Str}
theorem Ic(he:Ev k m n e (.val (.ref x)))(h1:(x,c8 C D)∈n)(h2:(D,lE es en)∈n)(z:xd (K1 W0) C name=true)(hh:hasDictIn (K1 W0) C=true)(ha:fK (K1 W0) (.ref C) name=some u)(hn:noGet (K1 W0) u=true)(hl:At name es=some (some v))(hv:qQ v=true)
  (hq:autoParam (eval (.Attribute e name pos) k.env=(do
   let o ← eval e k.env
   gc pos.atName
   let r ← gr [o] (jO o name true)
   eX e o r
   ck r)) zAc):Ev k m n (.Attribute e name pos) (.val v):=
 ⟨λQ s hi hQ=>og (he.run _ s hi λv s1 B i1=>by
  cases B;refine hZ (k.opn i1) λm0 ex _ F N _=>?_
  exact get_own F c.X (gj N (zR h1) (zR h2)) z hh ha hn hl hv (hQ _ _ rfl i1.toks)) hq⟩
theorem yb{e val:PE}{u pos:Pos}{v:Value}{es':Tok→List DictEntry}{n':Tok→Ns}{z:Nat}(hv:Ev c.cx m n val (.val v))(he:Ev c.cx m n e (.val (.ref x)))(h1:(x,c8 C D)∈n)(h2:(D,lE es en)∈n)
  (hs:fK (K1 W0) (.ref C) "__setattr__"=some (some (.builtin "object.__setattr__"))) (hp:plainOver (K1 W0) C=true) (ht:takerIn (K1 W0) C name=some none) (hh:hasDictIn (K1 W0) C=true) (hl:(At name es).isSome=true)
  (hE:∀t,(putL name (gk W0.params name) (.str name t) v es,putN name es en)=(es' t,z)) (U:∀t,Upd D (lE es en) (lE (es' t) z) n (n' t)) (hz:∀t,(es' t).length≤1000)
  (h:∀t,cN c m (n' t) rest R) (hq:autoParam (f9 val (some (.Attribute e name u)) pos.line c.env=ck false) zAa):cN c m n (.Assign [.Attribute e name u] val pos::rest) R:=
 bL ⟨λQ s hi hQ=>xr (hv.run _ s hi λv1 s1 B i1=>he.run _ s1 i1 λv2 s2 d2 i2=>by
  cases B;cases d2
  exact CI i2.at.1 c.X i2.at.2 (gj i2.at.2 h1 h2) rfl hs hp ht hh hl (hE _) (U _) (hz _) λh' H G=>hQ .next _ _ _ (h _) (i2.to H G)) hq⟩
inductive uZ(k:Cx c sc)(m:Lo)(n:Ns):List PE→List Value→Prop
 | nil:uZ k m n [] []
 | cons {e:PE}{es:List PE}{v:Value}{vs:List Value} (he:Ev k m n e (.val v)) (ha:uZ k m n es vs) (q:autoParam (∀r,SE k.env e r) zAb):uZ k m n (e::es) (v::vs)
theorem IG{pos:Pos}{es:List PE}{vs:List Value}{Q:List Value→Shared→Prop}{s:Shared}(h:uZ k m n es vs)(hi:k.Is m n s)(hq:∀s',k.Is m n s'→Q vs s'):aA (aq P0 W0) c.A (spliced (fj pos (bW es k.env))) Q k.E s:=by
 induction h generalizing Q s with
 | nil=>exact bK (hq _ hi)
 | cons he ha q e=>
  refine aI (he.run _ s hi λv1 s1 u i1=>?_) (q _);cases u;exact e i1 hq
theorem pI{e a:PE}{z:List PE}{u pos:Pos}{H:Sem Bool}{f:Addr}{vs:List Value}{dp un:Nat}{P:Value→Ns→Prop}(hC:fk W0 f (.ref x::vs) n dp un P)(he:Ev c.cx m n e (.val (.ref x)))(O:uZ c.cx m n (a::z) vs)(h1:(x,c8 C D)∈n)(h2:(D,lE es en)∈n)
  (hl:At name es=some none) (hd:c.dp+dp<aH) (hu:c.un+un<cX) (hk:cs.kind=.function)
  (J:autoParam (xd (K1 W0) C name=true) zAc) (hf:autoParam (fK (K1 W0) (.ref C) name=some (some (.ref f))) zAc) (ht:autoParam (isFn (K1 W0) (.ref f)=true) zAc) (hkp:autoParam (lB (K1 W0) (.ref f)=true) zAc) (c1:autoParam (eval (.Call (.Attribute e name u) (a::z) [] pos) c.env=(do
   let G ← eval e c.env
   gc u.atName
   let (f,first) ← gr [G] (gN G name H)
   iI pos f first (fj pos (bW (a::z) c.env)) [])) zAa) (c2:autoParam (bW (a::z) c.env=(false,eval a c.env)::bW z c.env) zAa) (c3:autoParam ((fj pos (bW z c.env)).any (·.1)=false) zAa):
  Er c.cx m n (.Call (.Attribute e name u) (a::z) [] pos) P:=
 ⟨λQ s hi hQ=>iz (he.run _ s hi λv s1 U i1=>by
  cases U;refine Mq i1.at.1 c.X (gj i1.at.2 h1 h2) J hf ht hl ?_;refine lF c.X hkp ?_ c2 (hplain:=c3)
  refine IG O i1 λs2 i2=>⟨c.X.keeps i2.at.1.keep,?_⟩
  exact hC.run c.B i2.at.1 c.X i2.at.2 c.T hk hd hu λv n' h' tk' hp F' Y=>hQ _ _ _ hp (i2.to F' Y)) c1⟩
theorem rA{e:PE}{u pos:Pos}{G:Sem Bool}{f:Addr}{dp un:Nat}{P:Value→Ns→Prop}(hC:fk W0 f [.ref x] n dp un P)(he:Ev c.cx m n e (.val (.ref x)))(h1:(x,c8 C D)∈n)(h2:(D,lE es en)∈n)
  (hl:At name es=some none) (hd:c.dp+dp<aH) (hu:c.un+un<cX) (hk:cs.kind=.function)
  (H:autoParam (xd (K1 W0) C name=true) zAc) (hf:autoParam (fK (K1 W0) (.ref C) name=some (some (.ref f))) zAc) (ht:autoParam (isFn (K1 W0) (.ref f)=true) zAc) (hkp:autoParam (lB (K1 W0) (.ref f)=true) zAc) (c1:autoParam (eval (.Call (.Attribute e name u) [] [] pos) c.env=(do
   let z ← eval e c.env
   gc u.atName
   let (f,first) ← gr [z] (gN z name G)
   iI pos f first (fj pos (bW [] c.env)) [])) zAa):
  Er c.cx m n (.Call (.Attribute e name u) [] [] pos) P:=
 ⟨λQ s hi hQ=>iz (he.run _ s hi λv s1 J i1=>by
  cases J;refine Mq i1.at.1 c.X (gj i1.at.2 h1 h2) H hf ht hl ?_;refine Mu (c.X.keeps i1.at.1.keep) hkp ?_
  exact hC.run c.B i1.at.1 c.X i1.at.2 c.T hk hd hu λv n' h' tk' hp U O=>hQ _ _ _ hp (i1.to U O)) c1⟩
theorem oP{e:PE}{pos:Pos}{P:Value→Ns→Prop}(he:Er c.cx m n e P)(h:∀v n',P v n'→cN c m n' rest R)(hi:autoParam (yZ c.env=false) zAa)(hs:autoParam (f9 e none pos.line c.env=ck false) zAa):cN c m n (.Expr e pos::rest) R:=
 bL ⟨λQ s i hq=>ii (he.run _ s i λv n' s' hp u=>hq .next _ _ _ (h v n' hp) u) hi hs⟩
end
structure Rz(W0:World)(name:Str):Prop where
 g:xd (hd.heap_1 W0.params) 278 name=true
 f:fK (hd.heap_1 W0.params) (.ref 278) name=some none
 t:takerIn (hd.heap_1 W0.params) 278 name=some none
structure Sv(W0:World)(name:Str)(fa:Addr):Prop where
 g:xd (hd.heap_1 W0.params) 278 name=true
 f:fK (hd.heap_1 W0.params) (.ref 278) name=some (some (.ref fa))
 t:isFn (hd.heap_1 W0.params) (.ref fa)=true
 k:lB (hd.heap_1 W0.params) (.ref fa)=true
structure Ry(W0:World):Prop where
 h:hasDictIn (hd.heap_1 W0.params) 278=true
 s:fK (hd.heap_1 W0.params) (.ref 278) "__setattr__"=some (some (.builtin "object.__setattr__"))
 p:plainOver (hd.heap_1 W0.params) 278=true
inductive Jv(n:Ns)(a b:Value):Bool→Prop
 | other (hp:plainIs a b=true) (hne:a≠b):Jv n a b false
 | self {l:Addr} (ha:a=.ref l) (hb:b=.ref l):Jv n a b true
 | refs {l l2:Addr}{o o2:Obj} (ha:a=.ref l) (hb:b=.ref l2) (hl:l≠l2) (h1:(l,o)∈n) (h2:(l2,o2)∈n) (hc:o.cls≠.type "tuple"):Jv n a b false
section
variable {cs:Scope}{c:Fm W0 cs}{sc:Scope}{k:Cx c sc}{m:Lo}{n:Ns}{R:Re}{rest:List Stmt}{x D:Addr}{es:List DictEntry}{en:Nat}
theorem oz{pos wh}(hl:Ev k m n l (.val a))(hr:Ev k m n r (.val b))(hc:Jv n a b t)(hm:autoParam (eR .Is r=false) zAc):Tw k m n (.Compare l [.Is] [r] pos) wh t:=
 ⟨λ_ s hi hq=>bY (hl.run _ s hi λv s1 hv h1=>hr.run _ s1 h1 λv2 s2 e h2=>by
  cases hv;cases e
  cases hc with
  | other hp hne=>exact wpAny_is_other hp hne (aY (hq _ h2))
  | self ha hb=>subst ha;subst hb;exact wpAny_is_ref_self (aY (hq _ h2))
  | refs ha hb hne m1 u hc=>subst ha;subst hb;exact wpAny_is_ref_other hne (h2.get m1) (h2.get u) hc (aY (hq _ h2))) hm⟩
theorem g9(h:cN c m n rest R)(hi:autoParam (yZ c.env=false) zAa)(hs:autoParam (f9 (.Constant (.str d) kk p) none pos.line c.env=ck false) zAa):cN c m n (.Expr (.Constant (.str d) kk p) pos::rest) R:=
 bL ⟨λQ s i hq=>ii (wpAny_Constant_str (hq .next _ _ _ h i.toks)) hi hs⟩
theorem E0(h:R (.ret .none) m n):cN c m n (.Return none pos::rest) R:=bL ⟨λQ s i hq=>wpAny_Return_none (hq (.ret .none) _ _ _ h i.lib)⟩
theorem gP:Ev k m n (.Constant .none kk pos) (.val .none):=⟨λ_ _ hi hq=>MS (hq _ _ rfl hi)⟩
theorem Ln(S:Ry W0)(A:Rz W0 name)(B:@Ne Nat x D)(z:∀p∈N,p.1≠D)(hv:Ev c.cx m ((x,c8 278 D)::(D,lE es en)::N) val (.val v))(he:Ev c.cx m ((x,c8 278 D)::(D,lE es en)::N) e (.val (.ref x)))
  (h:∀t,cN c m ((x,c8 278 D)::(D,lE (putL name (gk W0.params name) (.str name t) v es) (putN name es en))::N) rest R) (hl:autoParam ((At name es).isSome=true) zAa) (hz:autoParam (∀t,(putL name (gk W0.params name) (.str name t) v es).length≤1000) zAi) (hq:autoParam (f9 val (some (.Attribute e name u)) pos.line c.env=ck false) zAa):
  cN c m ((x,c8 278 D)::(D,lE es en)::N) (.Assign [.Attribute e name u] val pos::rest) R:=
 yb (es':=λt=>putL name (gk W0.params name) (.str name t) v es) hv he (zH) (zT (zH)) S.s S.p A.t S.h hl (λ_=>rfl) (λ_=>.tail B (.head z)) hz h hq
end
noncomputable def nm:Nat→Str
 | 0=>"isjunk" | 1=>"a" | 2=>"b" | 3=>"autojunk" | 4=>"matching_blocks" | 5=>"opcodes" | 6=>"fullbcount" | 7=>"b2j" | 8=>"bjunk" | _=>"bpopular"
theorem DU(hi:i<10)(hj:j<10)(h:i≠j):(nm i==nm j)=false:=by
 have:∀a:Fin 10,∀b:Fin 10,a≠b→(nm a==nm b)=false:=by decide
 exact this ⟨i,hi⟩ ⟨j,hj⟩ λe=>h (Fin.mk.inj e)
theorem nJ(h:∀i:Fin 10,(nm i==name)=false)(hi:i<10):(nm i==name)=false:=h ⟨i,hi⟩
noncomputable def dr(d:Nat→Value)(i:Nat)(v:Value):Nat→Value:=λj=>if j=i then v else d j
noncomputable def lz(W0:World)(τ:Nat→Tok)(d:Nat→Value):Nat→Nat→List DictEntry
 | _,0=>[]
 | s,n+1=>⟨gk W0.params (nm s),.str (nm s) (τ s),d s⟩::lz W0 τ d (s+1) n
noncomputable def SO(W0:World)(τ:Nat→Tok)(d:Nat→Value)(n:Nat):Obj:=lE (lz W0 τ d 0 n) n
variable {τ:Nat→Tok}{d:Nat→Value}
theorem Bd:∀{n s:Nat},i<s→(∀j,j≠i→t j = τ j)→lz W0 t (dr d i v) s n=lz W0 τ d s n
 | 0,_,_,_=>rfl
 | n+1,s,h,ht=>by
  show _::_=_::_;rw[Bd (aW h) ht,ht s (aF h)];exact congrArg (λz=>DictEntry.mk _ _ z::_) (if_neg (aF h))
theorem yp:∀{n s:Nat},(lz W0 τ d s n).length=n
 | 0,_=>rfl
 | n+1,s=>congrArg (· + 1) (yp (n:=n))
theorem ly{k a n:Nat}(h:a≤n)(hk:autoParam (k≤a) zAd):k≤n:=aw hk h
theorem lx{k n b:Nat}(h:k≤n):k≤max n b:=aw h (xp ..)
theorem dl{a b k l:Nat}(h:a+b<l)(hk:autoParam (k≤b) zAd):a+k<l:=aK (bu hk a) h
theorem mx(h:n≤10)(hb:autoParam (b≤10) zAd):max n b≤10:=Nat.max_le.mpr ⟨h,hb⟩
theorem EL:(Value.str (nm s) t).isStr (nm s)=true:=beq_self_eq_true _
theorem yo:∀{n k s:Nat},k≤n→s+n≤10→s+k<10→∃B,putL (nm (s+k)) (gk W0.params (nm (s+k))) (.str (nm (s+k)) t) v (lz W0 τ d s n)=lz W0 B (dr d (s+k) v) s (max n (k+1))∧((∀j,j≠s+k→B j = τ j)∧(k<n→B = τ))∧∀z,putN (nm (s+k)) (lz W0 τ d s n) z=if k<n then z else z+1
 | 0,0,s,_,_,_=>by
  refine(c9 (λj=>if j=s then t else τ j) ?_ ⟨λj hj=>if_neg hj,λh=>absurd h (da _)⟩ (λz=>rfl));refine(?_:[DictEntry.mk _ (.str (nm s) t) v]=[DictEntry.mk _ (.str (nm s) (if s=s then t else τ s)) (if s=s then v else d s)]);rw[if_pos rfl,if_pos rfl];rfl
 | n+1,0,s,_,h3,_=>by
  refine(c9 τ ?_ ⟨λ_ _=>rfl,λ_=>rfl⟩ (λz=>?_))
  .rw[xo (g6 (cr n))]
   refine(?_:(if (Value.str (nm s) (τ s)).isStr (nm s)=true then DictEntry.mk _ _ v::lz W0 τ d (s+1) n else _)=DictEntry.mk _ _ (if s=s then v else d s)::lz W0 τ (dr d s v) (s+1) n);rw[if_pos EL,if_pos rfl,Bd (aJ _) (λ_ _=>rfl)]
  .exact if_pos (gB _ _▸Or.inl EL)
 | n+1,k+1,s,h1,h3,h4=>by
  have h0:s<s+(k+1):=eH (il k);have hb:(Value.str (nm s) (τ s)).isStr (nm (s+(k+1)))=false:=DU (aP h0 h4) h4 (aB h0);have e:s+1+k=s+(k+1):=jw s k;have H:=yo (v:=v) (t:=t) (n:=n) (k:=k) (s:=s+1) (CO h1) (jw s n▸h3) (e▸h4);rw[e] at H;refine fM H λB x G z=>?_
  try clear H
  refine b8 G λy J=>?_
  try clear G
  refine(c9 B ?_ ⟨y,λh=>J (CN h)⟩ (λu=>?_))
  .rw[show max (n+1) (k+1+1)=max n (k+1)+1 from Nat.succ_max_succ ..]
   refine(?_:(if (Value.str (nm s) (τ s)).isStr (nm (s+(k+1)))=true then _ else DictEntry.mk _ (.str (nm s) (τ s)) (d s)::putL _ _ _ _ _)=DictEntry.mk _ (.str (nm s) (B s)) (if s=s+(k+1) then v else d s)::_);rw[if_neg (by rw[hb];exact bI),x,y s (aB h0),if_neg (aB h0)]
  .refine Eq.trans ?_ ((z u).trans (ite_congr (propext (Nat.succ_lt_succ_iff.symm)) (λ_=>rfl) λ_=>rfl))
   refine(?_:(if ((Value.str (nm s) (τ s)).isStr (nm (s+(k+1)))||_)=true then _ else _)=_);rw[hb];rfl
theorem mf(hi:i<10)(h:i≤n)(hn:n≤10):∃B,lE (putL (nm i) (gk W0.params (nm i)) (.str (nm i) t) v (lz W0 τ d 0 n)) (putN (nm i) (lz W0 τ d 0 n) n)=SO W0 B (dr d i v) (max n (i+1))∧(i<n→B = τ)∧(putL (nm i) (gk W0.params (nm i)) (.str (nm i) t) v (lz W0 τ d 0 n)).length≤1000:=by
 have q:=yo (τ:=τ) (d:=d) (v:=v) (t:=t) (n:=n) (k:=i) (s:=0) h ((ik n).symm▸hn) ((ik i).symm▸hi);rw[ik] at q;refine fM q λB x u z=>?_
 try clear q
 refine b8 u λ_ y=>?_
 try clear u
 refine(c9 B ?_ y ?_)
 .rw[x,z]
  refine congrArg (lE _) ?_
  by_cases e:i<n
  .rw[if_pos e,xo e]
  .rw[if_neg e,iy h (cL e),MA (Nat.le_succ _)]
 .rw[x,yp]
  exact aw (mx hn hi) (by decide)
theorem Be:∀{n s:Nat},(∀i,i<n→(nm (s+i)==name)=false)→(lz W0 τ d s n).find? (·.key.isStr name)=none∧(lz W0 τ d s n).any (·.refKey)=false
 | 0,_,_=>⟨rfl,rfl⟩
 | n+1,s,h=>by
  have hb:(Value.str (nm s) (τ s)).isStr name=false:=h 0 (il _);refine b8 (Be (n:=n) (s:=s+1) λi h2=>jw s i▸h (i+1) (Nat.succ_lt_succ h2)) λx y=>?_;exact⟨(Bw (by rw[hb];exact bI)).trans x,y⟩
theorem iC(h:∀i,i<n→(nm i==name)=false):At name (lz W0 τ d 0 n)=some none:=by
 refine b8 (Be (τ:=τ) (d:=d) (n:=n) (s:=0) (name:=name) λi hi=>(ik i).symm▸h i hi) λx y=>?_;unfold At;rw[x,y];rfl
theorem yq:∀{n k s:Nat},k<n→s+k<10→At (nm (s+k)) (lz W0 τ d s n)=some (some (d (s+k)))
 | 0,_,_,h,_=>absurd h (MX _)
 | n+1,0,s,_,_=>by
  refine(?_:At (nm s) _=some (some (d s)));unfold At;rw[show (lz W0 τ d s (n+1)).find? (·.key.isStr (nm s))=some ⟨gk W0.params (nm s),.str (nm s) (τ s),d s⟩ from List.find?_cons_of_pos EL]
 | n+1,k+1,s,h,h4=>by
  have h0:s<s+(k+1):=eH (il k);have hb:(Value.str (nm s) (τ s)).isStr (nm (s+(k+1)))=false:=DU (aP h0 h4) h4 (aB h0);have e:s+1+k=s+(k+1):=jw s k;have u:=yq (n:=n) (k:=k) (s:=s+1) (CN h) (e▸h4);rw[e] at u;refine Eq.trans ?_ u;unfold At;rw[show (lz W0 τ d s (n+1)).find? (·.key.isStr (nm (s+(k+1))))=(lz W0 τ d (s+1) n).find? (·.key.isStr (nm (s+(k+1)))) from Bw (by rw[hb];exact bI)];rfl
theorem Ga(hi:i<n)(h:i<10):At (nm i) (lz W0 τ d 0 n)=some (some (d i)):=by
 have q:=yq (τ:=τ) (d:=d) (n:=n) (k:=i) (s:=0) hi ((ik i).symm▸h)
 rwa [ik] at q
theorem rE(h9:i<10)(hi:i≤n)(h10:n≤10):(At (nm i) (lz W0 τ d 0 n)).isSome=true:=by
 by_cases e:i<n
 .rw[Ga e h9];rfl
 .rw[iC λj hj=>DU (aO hj h10) h9 λq=>e (q▸hj)];rfl
structure MM(W0:World):Prop where
 c:Ry W0
 atr:∀i,i<10→Rz W0 (nm i)
section
variable {cs:Scope}{c:Fm W0 cs}{sc:Scope}{k:Cx c sc}{m:Lo}{N:Ns}{R:Re}{rest:List Stmt}{S D:Addr}{n:Nat}
theorem gM(K:MM W0)(i:Nat)(he:Ev k m M e (.val (.ref S)))(h1:(S,c8 278 D)∈M)(h2:(D,SO W0 τ d n)∈M)(hv:autoParam (d i=v) zAa)(hh:autoParam (qQ v=true) zAa)(hi:autoParam (i<n) zAd)(h10:autoParam (i<10) zAd)(hn:autoParam (name=nm i) zAa)
  (hq:autoParam (eval (.Attribute e name pos) k.env=(do
   let o ← eval e k.env
   gc pos.atName
   let r ← gr [o] (jO o name true)
   eX e o r
   ck r)) zAc):Ev k m M (.Attribute e name pos) (.val v):=by
 subst hn hv;exact Ic he h1 h2 (K.atr i h10).g K.c.h (K.atr i h10).f rfl (Ga hi h10) hh hq
theorem uL(K:MM W0)(i:Nat)(G:@Ne Nat S D)(B:∀p∈N,p.1≠D)(hv:Ev c.cx m ((S,c8 278 D)::(D,SO W0 τ d n)::N) val (.val v))(he:Ev c.cx m ((S,c8 278 D)::(D,SO W0 τ d n)::N) e (.val (.ref S)))
  (h:∀u,(i<n→u = τ)→cN c m ((S,c8 278 D)::(D,SO W0 u (dr d i v) (max n (i+1)))::N) rest R) (hi:autoParam (i≤n) zAd) (h9:autoParam (i<10) zAd) (h10:autoParam (n≤10) zAd) (hn:autoParam (name=nm i) zAa) (hq:autoParam (f9 val (some (.Attribute e name z)) pos.line c.env=ck false) zAa):
  cN c m ((S,c8 278 D)::(D,SO W0 τ d n)::N) (.Assign [.Attribute e name z] val pos::rest) R:=by
 subst hn;refine Ln K.c (K.atr i h9) G B hv he (λt=>?_) (rE h9 hi h10) (λt=>?_) hq
 .refine fM (mf (τ:=τ) (d:=d) (v:=v) (t:=t) h9 hi h10) λu x y _=>?_
  rw[x];exact h u y
 .exact(mf (τ:=τ) (d:=d) (v:=v) (t:=t) h9 hi h10).elim λ_ x=>x.2.2
theorem wP(K:MM W0)(i j:Nat)(d1:@Ne Nat S D)(Y:∀p∈N,p.1≠D)(hv:Ev c.cx m ((S,c8 278 D)::(D,SO W0 τ d n)::N) val (.val v))(he:∀n,Ev c.cx m n e (.val (.ref S)))(O:∀n,Ev c.cx m n e2 (.val (.ref S)))
  (h:∀G,(i<n→j<n→G = τ)→cN c m ((S,c8 278 D)::(D,SO W0 G (dr (dr d i v) j v) (max (max n (i+1)) (j+1)))::N) rest R) (hi:autoParam (i≤n) zAd) (hj:autoParam (j≤max n (i+1)) zAd) (h9:autoParam (i<10) zAd) (H:autoParam (j<10) zAd) (h10:autoParam (n≤10) zAd) (hn:autoParam (name=nm i) zAa) (J:autoParam (u=nm j) zAa)
  (hw:autoParam (fW [.Attribute e name B,.Attribute e2 u z] val c.env=ck none) zAa) (hq:autoParam ((dc [.Attribute e name B,.Attribute e2 u z] c.env).map (·.2)=[dh (.Attribute e name B) c.env,dh (.Attribute e2 u z) c.env]) zAa):
  cN c m ((S,c8 278 D)::(D,SO W0 τ d n)::N) (.Assign [.Attribute e name B,.Attribute e2 u z] val pos::rest) R:=by
 subst hn J;have hm:max n (i+1)≤10:=mx h10 h9
 refine bL ⟨λQ s hI hQ=>qO (hv.run _ s hI λv1 s1 U i1=>kas_attr ((he _).run _ s1 i1 λv2 s2 d2 i2=>by
  cases U;cases d2;refine CI i2.at.1 c.X i2.at.2 (gj i2.at.2 (zH) (zT (zH))) rfl K.c.s K.c.p (K.atr i h9).t K.c.h (rE h9 hi h10) rfl (.tail d1 (.head Y)) ((mf h9 hi h10).elim λ_ x=>x.2.2) λh' F' N'=>?_;refine fM (mf (τ:=τ) (d:=d) (v:=v) (t:=s2.toks+1) h9 hi h10) λG x y1 _=>?_;rw[x] at N';refine kas_attr ((O _).run _ _ (i2.to F' N') λv3 s3 d3 i3=>?_);cases d3;refine CI i3.at.1 c.X i3.at.2 (gj i3.at.2 (zH) (zT (zH))) rfl K.c.s K.c.p (K.atr j H).t K.c.h (rE H hj hm) rfl (.tail d1 (.head Y)) ((mf H hj hm).elim λ_ x=>x.2.2) λh2 F2 N2=>?_;refine fM (mf (τ:=G) (d:=dr d i v) (v:=v) (t:=s3.toks+1) H hj hm) λaa y y2 _=>?_;rw[y] at N2
  exact hQ .next _ _ _ (h _ λa b=>(y2 (aO b (xp ..))).trans (y1 a)) (i3.to F2 N2))) hq hw⟩
end
end
section
open W PyProof Rows
section
variable {cs:Scope}{c:Fm W0 cs}{sc:Scope}{k:Cx c sc}{m:Lo}{n:Ns}{R:Re}{rest:List Stmt}
theorem cR(e:autoParam (nsIn (K1 W0) gS x=some none) zAc)(hv:autoParam (bootBuiltins x=some v) zAc)(hn:autoParam (x≠"__name__") zAd)(u:autoParam (c.env.kindOf x=some .globalImplicit) zAa)(hd:autoParam ((x==("__debug__" : Str))=false) zAd):Ev c.cx m n (.Name x pos) (.val v):=
 ⟨λQ s hi hQ=>nameX_B hi.at.1 c.X (CH c.T) e hv hn (hQ _ _ rfl hi) c.hk u hd⟩
theorem fV(e:autoParam (nsIn (K1 W0) gS x=some (some v)) zAc)(u:autoParam (c.env.kindOf x=some .globalImplicit) zAa)(hd:autoParam ((x==("__debug__" : Str))=false) zAd):Ev c.cx m n (.Name x pos) (.val v):=
 ⟨λQ s hi hQ=>nameX_K hi.at.1 c.X (CH c.T) e (hQ _ _ rfl hi) c.hk u hd⟩
theorem GV(h:Ev k m n e (.val .none))(he:autoParam (isTrue e k.env (eval e k.env)=(do let v ← eval e k.env;gc e.pos;gr [v] (truthy v))) zAa):Tw k m n e (eval e k.env) false:=
 ⟨λ_ s hi hq=>xm (h.run _ s hi λv s1 hv h1=>by cases hv;exact truthy_none (hq _ h1)) he⟩
theorem Ba(hf:Ev c.cx m n f (.val (.type "set")))(h1:autoParam (CC c.env f [] pos) zAa):
  Er c.cx m n (.Call f [] [] pos) (λv n'=>∃d led,v=.ref d∧n'=(d,dA led)::n∧∀q∈n,@aR Nat _ q.1 d):=
 ⟨λQ s hi hQ=>gu (hf.run _ s hi λv s1 e i1=>by
  cases e
  exact Bt (kse_new i1.at.1 i1.at.2 λD h' led z u l _ _=>hQ _ _ _ (iw D led rfl rfl l) (i1.to (tk:=s1.toks) z u))) h1⟩
theorem Cf(he:Ev c.cx m ((d,o)::N) e (.val (.ref d)))(h1:Ev c.cx m ((d,o)::N) e1 (.int i))(hN:∀p∈N,p.1≠d)(hd:nX W0 o kvs)(lo:(d==cP)=false)(hv:c7 kvs i=none)(hz:kvs.length≤ec)
  (c1:autoParam (eval (.Call (.Attribute e "setdefault" u) [e1,.List [] H] [] pos) c.env=(do
   let U ← eval e c.env
   gc u.atName
   let (f,first) ← gr [U] (gN U "setdefault" pl)
   iI pos f first (fj pos (bW [e1,.List [] H] c.env)) [])) zAa) (c2:autoParam (bW [e1,.List [] H] c.env=(false,eval e1 c.env)::bW [.List [] H] c.env) zAa) (c3:autoParam (bW [.List [] H] c.env=(false,eval (.List [] H) c.env)::bW [] c.env) zAa):
  Er c.cx m ((d,o)::N) (.Call (.Attribute e "setdefault" u) [e1,.List [] H] [] pos) (λv n'=>∃a o',v=.ref a∧n'=(a,listOf ([]:List Value).toArray 0)::(d,o')::N∧nX W0 o' (yK kvs i (.ref a))∧∀q∈(d,o)::N,@aR Nat _ q.1 a):=
 ⟨λQ s hi hQ=>iz (he.run _ s hi λv s1 Y i1=>by
  cases Y;refine NU i1.at.2 (zH) hd ?_;refine lK (aI (h1.run _ s1 i1 λv2 s2 d2 i2=>aI ((mZ (k:=c.cx)).run _ s2 i2 λv3 n3 s3 O i3=>bK ?_) c3) c2) c2 (hplain:=by refine(?_:(fj pos (bW [.List [] H] c.env)).any (·.1)=false);rw[show _=_ from c3];rfl);refine cp d2 λt G=>?_
  try clear d2
  subst G;refine fM O λa B z l=>?_
  try clear O
  subst B;subst z
  exact kob_setdef_new (knd:=gT _ _) i3.at.1 i3.at.2 (.tail (aF (l _ (zH))) (.head hN)) hd lo (j0 _ _ _ _) (PySem.F.args_dict_setdefault_3 _ _ _) hv hz λh' o' F' N' J=>hQ _ _ _ (sh a o' rfl rfl J l) (i3.to F' N')) c1⟩
noncomputable def Ss(R:Re)(I:Addr)(o1 o2:Obj)(kp:Addr×Obj)(J:Nat→Lo→Ns→Prop)(i:Nat)(f:vd)(m:Lo)(n:Ns):Prop:=match f with
 | .ret v=>R (.ret v) m n
 | .brk=>R .next m n
 | _=>(I+1,o1)∈n∧(I,o2)∈n∧∃n',(∀p∈n',p∈n∧p.1≠I+1∧p.1≠I)∧kp∈n'∧J i m n'
theorem E4(hf:Ev c.cx m n f (.val (.type "enumerate")))(he:Ev c.cx m n e (.val (.ref l)))(hl:(l,listOf vs.toArray ep)∈n)(hi:au vs xs)(J:Nat→Lo→Ns→Prop)(I0:∀I,(∀p∈n,@aR Nat _ p.1 I)→J 0 m n)
  (turn:∀i x t t2 B u I o1 o2,xs[i]?=some x→(∀p∈n,@aR Nat _ p.1 I)→J i B u→(∀p∈u,@Ne Nat p.1 I∧@Ne Nat p.1 (I+1))→cN c (cj (cj B x1 (.int (i:Int) t)) x2 (.int x t2)) ((I+1,o1)::(I,o2)::u) body (Ss (md c rest R) I o1 o2 (l,listOf vs.toArray ep) J (i+1)))
  (done:∀B u,J xs.length B u→cN c B u rest R)
  (c1:autoParam (CC c.env f [e] U) zAa) (c2:autoParam (SE c.env e []) zAa)
  (aj:autoParam ((dc O c.env).map (·.2)=[dh (.Name x1 p1) c.env,dh (.Name x2 p2) c.env]) zAa) (hn:autoParam ((dc O c.env).length=2) zAa) (ah:autoParam ((dc O c.env).findIdx? (·.1)=none) zAa)
  (k1:autoParam (c.env.kindOf x1=some .local) zAa) (k2:autoParam (c.env.kindOf x2=some .local) zAa) (hs:autoParam (∀z,bX (.Call f [e] [] U) c.env z=ck z) zAb):
  cN c m n (.For (.Tuple O kk ap) (.Call f [e] [] U) body [] pos::rest) R:=
 bL ⟨λQ s aa hq=>by
  refine qS (env:=c.env) aa.at.1 (gu (hf.run _ s aa λv s1 d1 i1=>?_) c1) hs c.hE;cases d1;refine callWith_type1 (aI (he.run _ s1 i1 λv2 s2 d2 i2=>bK ?_) c2) c2;cases d2;obtain ⟨h1,ar,rfl,F1,N1⟩:=i2;refine ktu_enum (env:=c.env) rfl F1 N1 hl rfl rfl rfl λI hI=>?_;refine Ck (env:=c.env) hi (λi m n=>J i m n∧∀p∈n,@Ne Nat p.1 I∧@Ne Nat p.1 (I+1)) ⟨I0 I hI,λp hp=>⟨aB (hI p hp),aB (aW (hI p hp))⟩⟩ (λi x t t2 T B u o1 o2 h tk hx j _ _ ht F N=>?_) (λB u h tk j F N=>hq .next _ _ _ (done B u j.1) ⟨h,tk,rfl,F,N⟩);obtain ⟨j,Y⟩:=j;refine vL rfl ht hn ah λh' ab=>?_;rw[aj];refine be (assign_Name (du (c:=c) (n:=(I+1,o1)::(I,o2)::u) ⟨h',tk,rfl,F.extBut ab (aS _),N.extBut ab (aS _)⟩ (λs4 i4=>?_) k1));refine be (assign_Name (du i4 (λs5 i5=>fE ?_) k2));refine(turn i x t t2 B u I o1 o2 hx hI j Y).run _ s5 i5 λf m' n' s' r i'=>?_
  have go:c.Is m' n' s'→((I+1,o1)∈n'∧(I,o2)∈n'∧∃n2,(∀p∈n2,p∈n'∧p.1≠I+1∧p.1≠I)∧(l,listOf vs.toArray ep)∈n2∧J (i+1) m' n2)→IT c.h₀ c.L {c.s with heap:=h,toks:=tk} [(I+1,o1),(I,o2)] (λm' n'=>IU [(l,listOf vs.toArray ep)] n'∧J (i+1) m' n'∧∀p∈n',@Ne Nat p.1 I∧@Ne Nat p.1 (I+1)) s':=by
   intro hi H;refine ku H λa b G=>?_;clear H;refine fM G λn2 d e j=>?_
   try clear G
   obtain ⟨h2,tk2,rfl,F2,N2⟩:=hi;exact Dh F2 N2 (eP ⟨e,trivial⟩ j (λp hp=>⟨(d p hp).2.2,(d p hp).2.1⟩)) a b (λp hp=>(d p hp).1) (λp hp=>(d p hp).2.1) (λp hp=>(d p hp).2.2)
  cases f with
  | ret v=>exact hq _ _ _ _ r i'
  | brk=>exact hq .next _ _ _ r i'
  | next=>exact go i' r
  | cont=>exact go i' r⟩
end
theorem OR{C fI:Addr}{args:List Value}{n:Ns}{dp un:Nat}{P:Value→Ns→Prop}{name qual:Str}{params:ke}{body:List Stmt}{scope:Scope}{dV kV doc pm z ct oc:Value}{an od:Option Addr}{O:Array (Option Value)}{binds:Addr→List (Str×Value)}
  (hm:makesIn (K1 W0) C=true) (hi:fK (K1 W0) (.ref C) "__init__"=some (some (.ref fI))) (hf:isFn (K1 W0) (.ref fI)=true) (ho:(K1 W0).lookup fI=some ⟨oc,od,.func (Ms name qual params body scope dV kV doc pm an z ct),O⟩) (ah:codeIn (K1 W0) z qual=true)
  (u:∀(x:Addr) (s:Shared),(K1 W0).In s.heap→IY s (Ms name qual params body scope dV kV doc pm an z ct) ⟨.ref x::args,[]⟩ (binds x)) (G:∀x,∀y∈binds x,scope.names.lookup y.1=some .local) (ab:scope.isCoroutine=false) (H:scope.isGenerator=false) (hk:scope.kind=.function) (e:∀x∈scope.names,x.2≠.cell)
  (h:∀(x d:Addr),@aR Nat _ d x→(∀p∈n,@aR Nat _ p.1 d)→∀c:Fm W0 scope,c.dp+dp<aH→c.un+un<cX→cN c (λy=>(binds x).reverse.lookup y) ((x,c8 C d)::(d,lE [] 0)::n) body (λJ _ n'=>x9 J=.none∧P (.ref x) n')):fk W0 C args n (dp+2) (un+6) P:=
 have e1:(pR "type.__call__" ⟨.ref C::args,[]⟩).weight=1:=rfl;have e2:(pR "type.__call__" ⟨.ref C::args,[]⟩).cUnits=1:=rfl
 ⟨λB F X N T Y hd hu hq=>call_cls F X N hm hi hf λx d h' F1 N1 l1 l2=>xe B F1 X N1 T rfl rfl Y ho ah (by show _+_<aH;rw[e1];(try simp only);lia) (u x _ (X.keeps F1.keep)) (G x) (λg L' aj FG F' N' B' X' T'=>by
  refine uG (cs:=scope) B' F' X' N' T' hk (by passes_own) (λJ _ n'=>x9 J=.none∧P (.ref x) n') (λc aa U=>h x d l2 l1 c (by rw[aa];show _+_+1+_<_;rw[e1];(try simp only);lia) (by rw[U];show _+_+_+_<_;rw[e2];(try simp only);lia)) ?_;intro J m' n' h' tk hP F2 N2
  exact tS F2 N2 λkF kN=>⟨hP.1,hq _ _ _ _ hP.2 kF kN⟩) ab H hk e⟩
section
variable {τ:Nat→Tok}{d:Nat→Value}{cs:Scope}{c:Fm W0 cs}{m:Lo}{N:Ns}{R:Re}{rest:List Stmt}{S D:Addr}{n:Nat}
theorem tE(K:MM W0)(i:Nat){e val:PE}{name x:Str}{z u pos:Pos}{P:Value→Ns→Prop}(d1:@Ne Nat S D)(hv:Er c.cx m ((S,c8 278 D)::(D,SO W0 τ d n)::N) val P)(he:∀n,Ev c.cx m n e (.val (.ref S)))
  (hP:∀v n1,P v n1→∃H,(∀p∈(S,c8 278 D)::(D,SO W0 τ d n)::H,p∈n1)∧(∀p∈H,p.1≠D)∧∀B,(i<n→B = τ)→cN c (cj m x v) ((S,c8 278 D)::(D,SO W0 B (dr d i v) (max n (i+1)))::H) rest R)
  (hi:autoParam (i≤n) zAd) (h9:autoParam (i<10) zAd) (h10:autoParam (n≤10) zAd) (hn:autoParam (name=nm i) zAa) (U:autoParam (c.env.kindOf x=some .local) zAa)
  (hw:autoParam (fW [.Attribute e name z,.Name x u] val c.env=ck none) zAa) (hq:autoParam ((dc [.Attribute e name z,.Name x u] c.env).map (·.2)=[dh (.Attribute e name z) c.env,dh (.Name x u) c.env]) zAa):
  cN c m ((S,c8 278 D)::(D,SO W0 τ d n)::N) (.Assign [.Attribute e name z,.Name x u] val pos::rest) R:=by
 subst hn
 refine bL ⟨λQ s Y hQ=>qO (hv.run _ s Y λv1 n1 s1 J i1=>kas_attr ((he _).run _ s1 i1 λv2 s2 d2 i2=>by
  cases d2;refine fM (hP _ _ J) λH sub dN hr=>?_;have i3:=i2.sub sub;refine CI i3.at.1 c.X i3.at.2 (gj i3.at.2 (zH) (zT (zH))) rfl K.c.s K.c.p (K.atr i h9).t K.c.h (rE h9 hi h10) rfl (.tail d1 (.head dN)) ((mf h9 hi h10).elim λ_ x=>x.2.2) λh' F' G=>?_;refine fM (mf (τ:=τ) (d:=d) (v:=v1) (t:=s2.toks+1) h9 hi h10) λB x y _=>?_;rw[x] at G
  exact assign_Name (du (i3.to F' G) (λs4 O=>hQ .next _ _ _ (hr B y) O) U))) hq hw⟩
theorem Cb(hf:Ev c.cx m M f (.val (.type "enumerate")))(he:Ev c.cx m M e (.val (.str "" t)))(h:cN c m M rest R)
  (c1:autoParam (CC c.env f [e] u) zAa) (c2:autoParam (SE c.env e []) zAa)
  (k1:autoParam (c.env.kindOf H=some .local) zAa) (k2:autoParam (c.env.kindOf G=some .local) zAa) (hs:autoParam (∀z,bX (.Call f [e] [] u) c.env z=ck z) zAb) (hp:autoParam ((c.env.scope.kind == .class||(c.env.scope.kind == .module&&c.env.locals != c.env.globals))=false) zAa):
  cN c m M (.For (.Tuple [.Name H p1,.Name G p2] kk B) (.Call f [e] [] u) body [] pos::rest) R:=
 bL ⟨λQ s hi hq=>by
  refine For_pair3 c.h₀ rfl k1 k2 hp (gu (hf.run _ s hi λv s1 O i1=>?_) c1) hs c.hE;cases O;refine callWith_type1 (aI (he.run _ s1 i1 λv2 s2 d2 i2=>bK ?_) c2) c2;cases d2;obtain ⟨h1,J,rfl,F1,Y⟩:=i2
  exact call_enum_str rfl F1 Y λh' e F' N' S=>yr S rfl rfl λh2 tk F2 U=>hq .next _ _ _ h ⟨h2,tk,rfl,F2,U⟩⟩
theorem H5(hf:Ev c.cx m M f (.val (.builtin "len")))(he:Ev c.cx m M e (.val (.str "" t)))
  (h1:autoParam (CC c.env f [e] pos) zAa) (h2:autoParam (SE c.env e []) zAa):Ev c.cx m M (.Call f [e] [] pos) (.int 0):=
 ⟨λQ s hi hQ=>gu (hf.run _ s hi λv s1 u i1=>by
  cases u;refine callWith_builtin1 (aI (he.run _ s1 i1 λv2 s2 d2 i2=>bK ?_) h2) h2;cases d2
  exact len_str (by decide) (hQ _ _ ⟨_,rfl⟩ (i2.toks (tk:=s2.toks+1+1)))) h1⟩
theorem kz{f e:PE}{pos:Pos}{l:Addr}{vs:List Value}{ep:Nat}{M:Ns}(hf:Ev c.cx m M f (.val (.builtin "len")))(he:Ev c.cx m M e (.val (.ref l)))(hm:(l,listOf vs.toArray ep)∈M)(hs:vs.length≤1000)
  (h1:autoParam (CC c.env f [e] pos) zAa) (h2:autoParam (SE c.env e []) zAa):Ev c.cx m M (.Call f [e] [] pos) (.int (vs.length:Nat)):=
 ⟨λQ s hi hQ=>(Fg (P':=λv n'=>n'=M∧∃t,v=.int (vs.length:Nat) t) hf (iM he) (λv n' hv=>(HP l vs ep hv.1 (hv.2▸hm) hs (λt=>⟨hv.2,t,rfl⟩))) h1 h2).run Q s hi λv n' s' hp G=>by
  refine b8 hp λz u=>?_
  try clear hp
  subst z;refine cp u λt B=>?_
  try clear u
  subst B
  exact hQ _ _ ⟨t,rfl⟩ G⟩
end
section
variable {cs:Scope}{c:Fm W0 cs}{sc:Scope}{k:Cx c sc}{m:Lo}{n:Ns}{R:Re}{rest:List Stmt}
theorem wR:Ev k m n (.Constant (.float x) kk pos) (.flt x):=⟨λ_ _ hi hq=>Mi (hq _ _ ⟨_,rfl⟩ hi.toks)⟩
theorem yg{pos}(hl:Ev k m n l (.flt x))(hr:Ev k m n r (.int a))(hm:a.natAbs<2 ^ 1023):Ev k m n (.BinOp l .Mult r pos) (.flt (fY x (bF a))):=
 ⟨λ_ s hi hq=>d9 (hl.run _ s hi λv s1 hv h1=>hr.run _ s1 h1 λv2 s2 e h2=>by
  obtain ⟨t,rfl⟩:=hv;obtain ⟨u,rfl⟩:=e
  exact mul_fi_fits hm (hq _ _ ⟨_,rfl⟩ h2.toks))⟩
theorem yj{pos}(hl:Ev k m n l (.flt x))(hr:Ev k m n r (.int a))(z:¬m7 (bF a)=true)(hz:¬vG (bF a)=true):Ev k m n (.BinOp l .Div r pos) (.flt (jk x (bF a))):=
 ⟨λ_ s hi hq=>d9 (hl.run _ s hi λv s1 hv h1=>hr.run _ s1 h1 λv2 s2 e h2=>by
  obtain ⟨t,rfl⟩:=hv;obtain ⟨u,rfl⟩:=e
  exact sW z hz (hq _ _ ⟨_,rfl⟩ h2.toks))⟩
theorem E8(hf:Ev k m n f (.val (.builtin "min")))(h1:Ev k m n e1 (.int a))(h2:Ev k m n e2 (.int b))
  (c1:autoParam (CC k.env f [e1,e2] pos) zAa) (c2:autoParam (SE k.env e1 [e2]) zAa) (c3:autoParam (SE k.env e2 []) zAa):Ev k m n (.Call f [e1,e2] [] pos) (.int (if b<a then b else a)):=
 ⟨λQ s hi hQ=>gu (hf.run _ s hi λv s1 z i1=>by
  cases z;refine callWith_builtin1 (aI (h1.run _ s1 i1 λv1 s2 d2 i2=>aI (h2.run _ s2 i2 λv2 H e i3=>bK ?_) c3) c2) c2 (hplain:=by rw[show _=_ from c3];rfl);obtain ⟨t,rfl⟩:=d2;obtain ⟨u,rfl⟩:=e;obtain ⟨m0,ex,_,F,N,cl⟩:=k.opn i3
  exact min_two_N rfl F N λh' tk G B=>hQ _ _ ⟨_,rfl⟩ (cl h' tk n G B)) c1⟩
theorem wk{f e1 e2:PE}{pos:Pos}{fa:Addr}{a b:Int}{dp un:Nat}{P:Value→Ns→Prop}(hC:∀t u,fk W0 fa [.int a t,.int b u] n dp un P)(hf:Ev c.cx m n f (.val (.ref fa)))(h1:Ev c.cx m n e1 (.int a))(h2:Ev c.cx m n e2 (.int b))(hkp:lB (K1 W0) (.ref fa)=true)(hd:c.dp+dp<aH)(hu:c.un+un<cX)(hk:cs.kind=.function)
  (c1:autoParam (CC c.env f [e1,e2] pos) zAa) (c2:autoParam (SE c.env e1 [e2]) zAa) (c3:autoParam (SE c.env e2 []) zAa):Er c.cx m n (.Call f [e1,e2] [] pos) P:=
 ⟨λQ s hi hQ=>gu (hf.run _ s hi λv s1 z i1=>by
  cases z;refine lF c.X hkp ?_ c2 (hplain:=by refine(?_:(fj pos (bW [e2] c.env)).any (·.1)=false);rw[show _=_ from c3];rfl);refine aI (h1.run _ s1 i1 λv1 s2 d2 i2=>aI (h2.run _ s2 i2 λv2 J e i3=>bK ⟨c.X.keeps i3.at.1.keep,?_⟩) c3) c2;obtain ⟨t,rfl⟩:=d2;obtain ⟨u,rfl⟩:=e
  exact(hC t u).run c.B i3.at.1 c.X i3.at.2 c.T hk hd hu λv n' h' tk' hp H G=>hQ _ _ _ hp (i3.to H G)) c1⟩
theorem mX{e:PE}{pos:Pos}{P:Value→Ns→Prop}(he:Er c.cx m n e P)(h:∀v n',P v n'→R (.ret v) m n'):cN c m n (.Return (some e) pos::rest) R:=
 bL ⟨λQ s hi hq=>iP (he.run _ s hi λv n' s' hv h'=>hq (.ret v) _ _ _ (h v n' hv) h'.lib)⟩
end
noncomputable def nK(a b:Int):UInt64:=jk (fY 4611686018427387904 (bF a)) (bF b)
inductive Mb(x:UInt64)(n:Ns):Value→Ns→Prop
 | mk (t:Tok):Mb x n (.float x t) n
section
variable {n:Ns}
theorem Kg(hb:0<b):¬vG (bF b)=true:=PySem.Flt.nz_ofInt (CX hb)
theorem Bj(ha:a.natAbs<2 ^ 20)(hb:0<b)(e:b<2 ^ 20):fk W0 181 [.int a t,.int b u] n 1 3 (Mb (nK a b) n):=
 li (body:=vg P0.main.body 6) (scope:=tw P0.main.body 6) (binds:=[("matches",.int a t),("length",.int b u)]) (by with_unfolding_all rfl) (by with_unfolding_all rfl) (λs X=>dG rfl) (sw rfl) rfl rfl rfl (by decide) λc hd hu=>by
  refine dE (kh (ag rfl)) (λ_=>pG (yj (yg wR (ag rfl) (aP ha (by decide +kernel))) (ag rfl) ?_ ?_) λv h=>?_) (λh=>?_)
  .exact rN (aP (L3 (cW [b] 1 Y0 Z0 1 (.a Y0 Y1) Z0 rfl hb) (cW [b] 1 (.a Z0 Y1) (.k 1048576) 1 (.a Z0 Y1) (.k (2 ^ 20)) rfl e):b.natAbs<2 ^ 20) (by decide +kernel))
  .exact Kg hb
  .obtain ⟨t,rfl⟩:=h;exact⟨t⟩
  .exact absurd h (by rw[bne_iff_ne.mpr (CX hb)];decide)
end
section
variable {cs:Scope}{c:Fm W0 cs}{sc:Scope}{k:Cx c sc}{m:Lo}{n:Ns}{R:Re}{rest:List Stmt}
theorem Bc{f e:PE}{pos:Pos}{fa:Addr}{v0:Value}{P:Value→Ns→Prop}(hf:Ev c.cx m n f (.val (.ref fa)))(he:Ev c.cx m n e (.val v0))(hkp:lB (K1 W0) (.ref fa)=true)
  (hC:∀(s:Shared) (Q E:VP),Fr c.h₀ c.L s.heap m→ba c.h₀ c.L s.heap n→(∀v n' h' tk',P v n'→Fr c.h₀ c.L h' m→ba c.h₀ c.L h' n'→Q v {s with heap:=h',toks:=tk'})→aA (aq P0 W0) (ij c.dp c.un c.gd c.cn cs c.L c.a c.ccd c.cl c.outer) (call (.ref fa) [v0]) Q E s)
  (c1:autoParam (CC c.env f [e] pos) zAa) (c2:autoParam (SE c.env e []) zAa):Er c.cx m n (.Call f [e] [] pos) P:=
 ⟨λQ s hi hQ=>gu (hf.run _ s hi λv s1 u i1=>by
  cases u;refine lF c.X hkp ?_ c2;refine aI (he.run _ s1 i1 λv1 s2 d2 i2=>bK ⟨c.X.keeps i2.at.1.keep,?_⟩) c2;cases d2
  exact hC s2 Q _ i2.at.1 i2.at.2 λv n' h' tk' hp B z=>hQ _ _ _ hp (i2.to B z)) c1⟩
theorem H1{R:Re}{x:Str}{u pos:Pos}{e:PE}{P:Value→Ns→Prop}(he:Er c.cx m n e P)(h:∀v n',P v n'→R .next (cj m x v) n')
  (hs:autoParam (f9 e (some (.Name x u)) pos.line c.env=ck false) zAa) (z:autoParam (c.env.kindOf x=some .local) zAa):Ex c m n (.Assign [.Name x u] e pos) R:=
 ⟨λ_ s hi hq=>gQ (he.run _ s hi λv n' s1 hv h1=>du h1 (λs2 h2=>hq .next _ _ _ (h v n' hv) h2) z) hs⟩
theorem ry(hf:Ev k m n f (.val (.type "range")))(h1:Ev k m n e1 (.int b))
  (c1:autoParam (CC k.env f [e1] pos) zAa) (c2:autoParam (SE k.env e1 []) zAa):IM k m n (.Call f [e1] [] pos) 0 b:=
 ⟨λQ s hi hQ=>gu (hf.run _ s hi λv s1 e i1=>by
  cases e;refine sx (aI (h1.run _ s1 i1 λv1 s2 d2 i2=>bK ?_) c2) c2;obtain ⟨t1,rfl⟩:=d2;obtain ⟨m0,ex,_,F,N,cl⟩:=k.opn i2
  exact range1_rows F N λh' tk t u v z G B _=>hQ _ _ _ _ _ (cl h' tk _ G B) z) c1⟩
theorem Fj{f e:PE}{pos:Pos}{fa:Addr}{v0:Value}{dp un:Nat}{P:Value→Ns→Prop}(hC:fk W0 fa [v0] n dp un P)(hf:Ev c.cx m n f (.val (.ref fa)))(he:Ev c.cx m n e (.val v0))(hkp:lB (K1 W0) (.ref fa)=true)(hd:c.dp+dp<aH)(hu:c.un+un<cX)
  (c1:autoParam (CC c.env f [e] pos) zAa) (c2:autoParam (SE c.env e []) zAa):Er c.cx m n (.Call f [e] [] pos) P:=
 Bc hf he hkp (λs Q E F N hq=>hC.run c.B F c.X N c.T c.hk hd hu hq) c1 c2
end
section
variable {cs:Scope}{c:Fm W0 cs}{sc:Scope}{k:Cx c sc}{m:Lo}{n:Ns}{R:Re}{rest:List Stmt}
theorem Bb{f e1 e2:PE}{pos:Pos}{fa:Addr}{v1 v2:Value}{P:Value→Ns→Prop}(hf:Ev c.cx m n f (.val (.ref fa)))(h1:Ev c.cx m n e1 (.val v1))(h2:Ev c.cx m n e2 (.val v2))(hkp:lB (K1 W0) (.ref fa)=true)
  (hC:∀(s:Shared) (Q E:VP),Fr c.h₀ c.L s.heap m→ba c.h₀ c.L s.heap n→(∀v n' h' tk',P v n'→Fr c.h₀ c.L h' m→ba c.h₀ c.L h' n'→Q v {s with heap:=h',toks:=tk'})→aA (aq P0 W0) (ij c.dp c.un c.gd c.cn cs c.L c.a c.ccd c.cl c.outer) (call (.ref fa) [v1,v2]) Q E s)
  (c1:autoParam (CC c.env f [e1,e2] pos) zAa) (c2:autoParam (SE c.env e1 [e2]) zAa) (c3:autoParam (SE c.env e2 []) zAa):Er c.cx m n (.Call f [e1,e2] [] pos) P:=
 ⟨λQ s hi hQ=>gu (hf.run _ s hi λv s1 z i1=>by
  cases z;refine lF c.X hkp ?_ c2 (hplain:=by refine(?_:(fj pos (bW [e2] c.env)).any (·.1)=false);rw[show _=_ from c3];rfl);refine aI (h1.run _ s1 i1 λa1 s2 d2 i2=>aI (h2.run _ s2 i2 λa2 e u i3=>bK ⟨c.X.keeps i3.at.1.keep,?_⟩) c3) c2;cases d2;cases u
  exact hC e Q _ i3.at.1 i3.at.2 λv n' h' tk' hp G B=>hQ _ _ _ hp (i3.to G B)) c1⟩
theorem Fi{f e1 e2:PE}{pos:Pos}{fa:Addr}{v1 v2:Value}{dp un:Nat}{P:Value→Ns→Prop}(hC:fk W0 fa [v1,v2] n dp un P)(hf:Ev c.cx m n f (.val (.ref fa)))(h1:Ev c.cx m n e1 (.val v1))(h2:Ev c.cx m n e2 (.val v2))(hkp:lB (K1 W0) (.ref fa)=true)(hd:c.dp+dp<aH)(hu:c.un+un<cX)
  (c1:autoParam (CC c.env f [e1,e2] pos) zAa) (c2:autoParam (SE c.env e1 [e2]) zAa) (c3:autoParam (SE c.env e2 []) zAa):Er c.cx m n (.Call f [e1,e2] [] pos) P:=
 Bb hf h1 h2 hkp (λs Q E F N hq=>hC.run c.B F c.X N c.T c.hk hd hu hq) c1 c2 c3
theorem Jh(e:autoParam (nsIn (K1 W0) gS x=some (some v)) zAc)(hk:autoParam (k.env.scope.kind=.function) zAa)(z:autoParam (gS=k.env.globals) zAa)(u:autoParam (k.env.kindOf x=some .globalImplicit) zAa)(hd:autoParam ((x==("__debug__" : Str))=false) zAd):Ev k m n (.Name x pos) (.val v):=
 ⟨λQ s hi hq=>by
  obtain ⟨m0,ex,_,F,N,cl⟩:=k.opn hi;have T:=CH c.T
  exact xl hk u (Calls.loadGlobal_global (env:=k.env) (z▸T.g.keeps F.keep) (mg_of c.X T.g e) (hq _ _ rfl hi)) hd⟩
theorem Fa(e:autoParam (nsIn (K1 W0) gS x=some none) zAc)(hv:autoParam (bootBuiltins x=some v) zAc)(hn:autoParam (x≠"__name__") zAd)(hb:autoParam (builtinsNs=k.env.builtins) zAa)(hk:autoParam (k.env.scope.kind=.function) zAa)(z:autoParam (gS=k.env.globals) zAa)(u:autoParam (k.env.kindOf x=some .globalImplicit) zAa)(hd:autoParam ((x==("__debug__" : Str))=false) zAd):Ev k m n (.Name x pos) (.val v):=
 ⟨λQ s hi hq=>by
  obtain ⟨m0,ex,_,F,N,cl⟩:=k.opn hi;have T:=CH c.T
  exact xl hk u (Calls.loadGlobal_builtin (env:=k.env) (z▸T.g.keeps F.keep) (mg_none_of c.X T.g e) (hb▸T.b.keeps F.keep) ((T.builtins x hn).trans hv) (hq _ _ rfl hi)) hd⟩
theorem rB{e:PE}{pos:Pos}{P P':Value→Ns→Prop}(he:Er k m n e P)(hP:∀v n' D,P v n'→(∀q∈n',@aR Nat _ q.1 D)→P' (.ref D) ((D,listOf [v].toArray 0)::n'))(u:autoParam (∀r,SE k.env e r) zAb):Er k m n (.List [e] pos) P':=
 ⟨λQ s hi hq=>List_ (aI (he.run _ s hi λv n' s1 z i1=>bK (by
  obtain ⟨m0,ex,F,N,cl⟩:=qw k i1
  exact yQ F N (λD h' H G B=>hq _ _ _ (hP v n' D z λq hq=>B q (zR hq)) (cl h' s1.toks D _ H G)) (by decide:(1:Nat)≤ec))) (u _))⟩
theorem OI{f e1:PE}{pos:Pos}{fa:Addr}{dp un:Nat}{P1:Value→Ns→Prop}{U:Obj→Prop}(hf:Ev k m n f (.val (.ref fa)))(h1:Er k m n e1 P1)
  (hC:∀v1 n1 n2,P1 v1 n1→(∀p∈n1,p∈n2)→fk W0 fa [v1] n2 dp un (λv n'=>∃D o,v=.ref D∧U o∧n'=(D,o)::n2∧∀p∈n2,@aR Nat _ p.1 D)) (hkp:lB (K1 W0) (.ref fa)=true) (hd:c.dp+dp<aH) (hu:c.un+un<cX)
  (c1:autoParam (CC k.env f [e1] pos) zAa) (c2:autoParam (SE k.env e1 []) zAa):Er k m n (.Call f [e1] [] pos) (λv n'=>∃v1 n1 D o,P1 v1 n1∧v=.ref D∧U o∧n'=(D,o)::n1∧(∀p∈n1,@aR Nat _ p.1 D)∧∀a∈k.exA,@aR Nat _ a D):=
 ⟨λQ s hi hQ=>gu (hf.run _ s hi λv s1 J i1=>by
  cases J;refine lF c.X hkp ?_ c2;refine aI (h1.run _ s1 i1 λv1 n1 s2 z i2=>bK ?_) c2;obtain ⟨m0,ex,H,F,N,cl⟩:=k.opn i2;refine⟨c.X.keeps F.keep,(hC v1 n1 (ex++n1) z λp=>iA ex).run c.B F c.X N c.T c.hk hd hu λG n' h' tk' r Y O=>?_⟩;obtain ⟨D,o,e,u,rfl,l⟩:=r;refine hQ G _ _ ⟨v1,n1,D,o,z,e,u,rfl,λp hp=>l p (iA ex hp),λa ha=>?_⟩ (cl h' tk' ((D,o)::n1) Y (cm O (FA (λp hp=>zT (zL hp)) (FC (zH) λp hp=>zT (zR hp)))));rw[← H] at ha;obtain ⟨p,hp,rfl⟩:=eA.mp ha
  exact l p (zL hp)) c1⟩
theorem Fb{e:PE}{i:Int}{kk:Nat}{p G pos:Pos}(h:Ev k m n e (.int i))(z:autoParam (∀r,SE k.env e r) zAb):Er k m n (.BinOp (.List [e] p) .Mult (.Constant (.int 5) kk G) pos) (λv n'=>∃A B t o,v=.ref A∧n'=(A,listOf [eY i t,.int i t,.int i t,.int i t,.int i t].toArray 0)::(B,o)::n):=
 ⟨λQ s hi hq=>d9 ((rB (iM h) (P':=λv n'=>∃B t,v=.ref B∧n'=(B,listOf [eY i t].toArray 0)::n) (λv n' D h _=>by
  obtain ⟨⟨t,rfl⟩,rfl⟩:=h
  exact⟨D,t,rfl,rfl⟩) z).run _ s hi λv n1 s1 h i1=>bf.run _ s1 i1 λv2 s2 d2 i2=>by
  obtain ⟨B,t,rfl,rfl⟩:=h;obtain ⟨u,rfl⟩:=d2;obtain ⟨m0,ex,F,N,cl⟩:=qw k i2
  exact mul_list F N (N _ (zR (zH))).1 (by decide) (by decide) (by decide:1*5≤2 ^ 24) λh' J H=>hq _ _ _ ⟨_,B,t,_,rfl,rfl⟩ (cl h' s2.toks _ _ J H))⟩
theorem Ij{e:PE}{P P':Value→Ns→Prop}(h:Er k m n e P)(hp:∀v n',P v n'→∃n2,P' v n2∧∀p∈n2,p∈n'):Er k m n e P':=⟨λQ s hi hq=>h.run Q s hi λv n' s' p z=>by
 obtain ⟨n2,u,sub⟩:=hp v n' p
 exact hq v n2 s' u (z.sub sub)⟩
theorem OH{f e1 e2:PE}{pos:Pos}{fa:Addr}{a2:Bq}{dp un:Nat}{P1:Value→Ns→Prop}{V:Value→Prop}(hf:Ev k m n f (.val (.ref fa)))(h1:Er k m n e1 P1)(h2:∀v1 n1,P1 v1 n1→Ev k m n1 e2 a2)
  (hC:∀v1 n1 v2 n2,P1 v1 n1→a2.den v2→(∀p∈n1,p∈n2)→fk W0 fa [v1,v2] n2 dp un (λv n'=>V v∧∀p∈n2,p∈n')) (hkp:lB (K1 W0) (.ref fa)=true) (hd:c.dp+dp<aH) (hu:c.un+un<cX)
  (c1:autoParam (CC k.env f [e1,e2] pos) zAa) (c2:autoParam (SE k.env e1 [e2]) zAa) (c3:autoParam (SE k.env e2 []) zAa):Er k m n (.Call f [e1,e2] [] pos) (λv n'=>V v∧∃v1,P1 v1 n'):=
 ⟨λQ s hi hQ=>gu (hf.run _ s hi λv s1 z i1=>by
  cases z;refine lF c.X hkp ?_ c2 (hplain:=by refine(?_:(fj pos (bW [e2] k.env)).any (·.1)=false);rw[show _=_ from c3];rfl);refine aI (h1.run _ s1 i1 λv1 n1 s2 e i2=>aI ((h2 v1 n1 e).run _ s2 i2 λv2 J d2 i3=>bK ?_) c3) c2;obtain ⟨m0,ex,_,F,N,cl⟩:=k.opn i3
  exact⟨c.X.keeps F.keep,(hC v1 n1 v2 (ex++n1) e d2 λp=>iA ex).run c.B F c.X N c.T c.hk hd hu λu n' h' tk' r H G=>hQ u n1 _ ⟨r.1,v1,e⟩ (cl h' tk' n1 H (cm G r.2))⟩) c1⟩
end
theorem wM{cs:Scope}{c:Fm W0 cs}{X cl:List (Str×Addr)}{scope:Scope}(e:c.cl=X)(h:fC scope (yR c.cn cs c.L c.a c.ccd X)=ck cl):fC scope c.env=ck cl:=by
 unfold Fm.env;rw[e];exact h
theorem tH{f:Addr}{args:List Value}{n:Ns}{dp un:Nat}{P:Value→Ns→Prop}{name qual:Str}{params:ke}{body:List Stmt}{scope:Scope}{dV kV doc pm u ct oc:Value}{an od:Option Addr}{J:Array (Option Value)}{binds:List (Str×Value)}
  (ho:(K1 W0).lookup f=some ⟨oc,od,.func (Ms name qual params body scope dV kV doc pm an u ct),J⟩) (ap:codeIn (K1 W0) u qual=true)
  (z:∀s:Shared,(K1 W0).In s.heap→IY s (Ms name qual params body scope dV kV doc pm an u ct) ⟨args,[]⟩ binds) (hkind:(binds.all λy=>scope.names.lookup y.1==some .local||scope.names.lookup y.1==some .cell)=true) (U:((fT 0 scope.names []).map (·.1)).Nodup) (ah:scope.isCoroutine=false) (G:scope.isGenerator=false) (hk:scope.kind=.function)
  (h:∀(c:Fm W0 scope) (m:Lo) (e:Ns),c.dp+dp<aH→c.un+un<cX→c.cl=fT (c.L+1) scope.names []→CellsAre (bindC (envOfC qual scope c.L f u).kindOf binds λ_=>none) (fT (c.L+1) scope.names []) e→(∀p∈n,@aR Nat _ p.1 c.L)→m=bindL (envOfC qual scope c.L f u).kindOf binds (λ_=>none)→cN c m (e++n) body (λH _ n'=>∃n2,P (x9 H) n2∧∀p∈n2,p∈n')):fk W0 f args n (dp+1) (un+3) P:=
 ⟨λB F X N T aa hd hu hq=>eG (code_defC B F X N T rfl rfl aa ho ap (C3 hd) (z _ (X.keeps F.keep)) hkind U (λg L' ar tk e FG F' N' Y B' X' T' l1=>by
  refine wj (cs:=scope) (cl:=fT (L'+1) scope.names []) (n:=e++n) B' F' X' N' T' hk (by passes_own) (λH _ n'=>∃n2,P (x9 H) n2∧∀p∈n2,p∈n') (λc ab O aj hL _ _=>?_) ?_
  .subst hL
   exact h c _ e (by rw[ab,kQ,mu 1];exact hd) (by rw[O,kQ,mu 3];exact hu) aj Y l1 rfl
  .intro H m' n' h' tk hP F2 N2
   obtain ⟨n2,hP,sub⟩:=hP
   exact tS F2 (cm N2 sub) λkF kN=>hq _ _ _ _ hP kF kN) ah G hk)⟩
end
section
open W PyProof Rows
open PyProof.Rows.LCg
noncomputable def jH(t:Nat)(b:Int):Bool:=gh (b.fdiv (2 ^ t)) 1 != 0
noncomputable def jX(bs:List Int)(t:Nat):Int:=((bs.filter (jH t)).length:Nat)
theorem kx(hc:LawC c)(h:fC scope (yR c.cn lawS c.L c.a c.ccd (fT (c.L+1) lawS.names []))=ck cl):fC scope c.env=ck cl:=by
 unfold Fm.env;rw[hc.cl];exact h
theorem Dc(hc:LawC c)(d1:o1.data=.cell (some (.ref B)))(m1:(c.L+1,o1)∈N)(hB:(B,listOf va.toArray ep)∈N)(hi:au va bs)(H:bs.length=5):
  Er c.cx m N (sE (bp 3)) (λv n'=>∃V vv,v=.ref V∧n'=(V,bB vv)::N∧au vv ((aV 4).map (jX bs))∧(∀p∈N,@aR Nat _ p.1 V)):=by
 have aj:va.length=5:=by rw[hi.length,H]
 refine ym (cl:=[(ae "ballots",c.L+1)]) rfl (jd (a:=0) (b:=4) ?hr) ?h (kx hc rfl)
 case hr=>exact ry cR bf
 case h=>
  intro v N1 s1 ah i1;refine b8 ah λe ab=>?_;clear ah;refine BQ ab λr t u z aM hr=>?_
  try clear ab
  subst aM;have e':=e.symm;subst e';refine(vq 4 _ _ (λi out n1=>n1=N∧au out ((aV i).map (jX bs))) (jD hr (by decide)) ⟨⟨rfl,.nil⟩,λi out n1 h=>?_,?_,λout n1 D hJ l1 l2=>?_,by decide⟩)
  .exact⟨(λ_ h=>nomatch h),by rw[h.2.length,aE,de];exact aS _⟩
  .intro i v out n1 C K I D oK oI E' mC cn aa Y bi a4 b6 ca b5 b4 bv b0 cd hex
   refine cp aa λt aD=>?_;clear aa;subst aD;refine b8 Y λe hO=>?_;clear Y;subst e;refine(c9 true (λQ s hi hq=>pg (hq s hi)) (λ_=>?_) (λh=>nomatch h));refine Fg (P:=λv n'=>∃Z zs,v=.ref Z∧n'=(Z,bB zs)::(K,oK)::(I,oI)::(D,bB out)::n1∧zs.length=(bs.filter (jH i)).length) ?ln (nB rfl (so (iM (eN (a:=c.L+1) (o:=o1) rfl ?m1 d1))) ?h2) ?hP
   case ln=>exact Fa
   case m1=>exact zT (zT (zT m1))
   case h2=>
    intro v2 n2 s2 U i2;refine b8 U λbh e2=>?_;clear U;cases bh;subst e2;have ar:(B,listOf va.toArray ep)∈(K,oK)::(I,oI)::(D,bB out)::n1:=zT (zT (zT hB));have a6:(K,oK)∈(K,oK)::(I,oI)::(D,bB out)::n1:=zH;generalize (K,oK)::(I,oI)::(D,bB out)::n1=nI at ar a6 i2 ⊢;refine(vq va.length _ _ (λj G n3=>n3=nI∧G.length=((bs.take j).filter (jH i)).length) (ui i2 ar) ⟨⟨rfl,rfl⟩,λj G n3 h=>?_,?_,λG n3 D2 a7 l1 l2=>?_,by rw[aj];decide⟩)
    .refine b8 h λe3 hl=>?_
     try clear h
     subst e3;refine⟨λp hp=>by rw[az.mp hp];exact ar,?_⟩;rw[hl];exact aw (bU ..) (by rw[eO];exact jy ..)
    .intro j v2 G n3 C2 I2 D2 br E2 cc hj hv O aQ ap a1 a2 a3 bm bo
     refine b8 O λe3 hl=>?_;clear O;subst e3
     have a5:j<bs.length:=by rw[H];exact pV (Eq.symm aj) hj
     refine cp (hi.get j bs[j] (am a5)) λtb hb=>?_;rw[hb] at hv;cases hv
     have a0:bs.take (j+1)=bs.take j++[bs[j]]:=by rw[qW,am a5];rfl
     refine(c9 (jH i bs[j]) (wE (kh (qG (qE (ag aQ) (qj (eN (a:=K) (o:=oK) rfl (zT (zT a6)) bi)) (ce i)) bf))) (λbj=>?_) (λbl=>⟨rfl,?_⟩))
     .refine fB (iM (ao aQ)) λv5 n5 h5=>?_
      refine b8 h5 λh5 e5=>?_
      try clear h5
      cases h5;subst e5;refine⟨n3,λp hp=>hp,ap,rfl,?_⟩;rw[a0,cJ,aU,aU,hl];simp [fH,bj]
     .rw[a0,cJ,aU,hl]
      simp [fH,bl]
    .refine b8 a7 λe3 hl=>?_
     try clear a7
     subst e3;refine(iw D2 G rfl rfl ?_);rw[hl,aj,← H,cT]
   case hP=>
    intro v2 n2 J;refine gL J λZ zs ax as hz=>?_;clear J;subst ax;subst as
    have bb:zs.length≤5:=by rw[hz,← H];exact bU ..
    refine(HP Z zs zs.length rfl (zH) (r8 bb (bR true)) (λt3=>⟨n1,λp hp=>zT hp,a4,rfl,?_⟩));rw[gA,aX];refine hO.append ?_;rw[hz];exact .cons _ _ .nil
  .refine b8 hJ λe hO=>?_
   try clear hJ
   subst e;exact(sh D out rfl rfl hO l1)
end
section
open W PyProof Rows
open PyProof.Rows.LCg
theorem lc(h:@aR Nat _ a b):a≠b:=λe=>da b (e▸h)
theorem jA(h:@aR Nat _ b a):a≠b:=λe=>da b (e▸h)
theorem mO:∀q∈bN L o1 o2 o3 o4 o5 ps qs++p::n0,q∈p::(bN L o1 o2 o3 o4 o5 ps qs++n0):=by
 intro q hq
 rcases aC.mp hq with h|h
 .exact zT (zL h)
 .rcases ak.mp h with h|h
  .rw[h];exact zH
  .exact zT (zR h)
theorem PL(hl:@aR Nat _ 366 L)(u:b9 L n0)(z:∀p∈bN L o1 o2 o3 o4 o5 ps qs++n0,@aR Nat _ p.1 V):
  xf (L+1+1+1+1+1) o5 ((V,o)::(bN L o1 o2 o3 o4 o5 ps qs++n0)) (λo'=>(V,o)::(bN L o1 o2 o3 o4 o' ps qs++n0)):=by
 refine BR u.all λY U O J B H G=>?_;refine .tail (jA (z (_,o5) (zL (zH)))) (.head ?_);intro p hp;have e:p∈(L+1+1+1+1,o4)::(L+1+1+1,o3)::(L+1+1,o2)::(L+1,o1)::(364,bS ps)::(256,bS qs)::n0:=hp;simp only[ak] at e
 rcases e with rfl|rfl|rfl|rfl|rfl|rfl|hp
 .exact lc (by refine(?_:@aR Nat _ (L+1+1+1+1) (L+1+1+1+1+1));exact aJ _)
 .exact lc (by refine(?_:@aR Nat _ (L+1+1+1) (L+1+1+1+1+1));exact aW (aJ _))
 .exact lc (by refine(?_:@aR Nat _ (L+1+1) (L+1+1+1+1+1));exact aW (aW (aJ _)))
 .exact lc (by refine(?_:@aR Nat _ (L+1) (L+1+1+1+1+1));exact aW (aW (aW (aJ _))))
 .exact lc (by refine(?_:@aR Nat _ 364 (L+1+1+1+1+1));exact aP (aP (by decide:(364:Nat)<366) hl) (aO (aJ _) (bA (L+1) 4)))
 .exact lc (by refine(?_:@aR Nat _ 256 (L+1+1+1+1+1));exact aP (aP (by decide:(256:Nat)<366) hl) (aO (aJ _) (bA (L+1) 4)))
 .exact B p hp
theorem Og(hc:LawC c)(d1:o1.data=.cell (some (.ref B)))(Y:o5.data=.cell none)(hB:(B,listOf va.toArray ep)∈n0)(hi:au va bs)(U:bs.length=5)(H:b9 c.L n0)
  (e:∀(V:Addr) (vv:List Value) (o:Obj),o.data=.cell (some (.ref V))→au vv ((aV 4).map (jX bs))→b9 c.L ((V,bB vv)::n0)→(∀p∈bN c.L o1 o2 o3 o4 o5 ps qs++n0,@aR Nat _ p.1 V)→cN c m (bN c.L o1 o2 o3 o4 o ps qs++(V,bB vv)::n0) rest R):
  cN c m (bN c.L o1 o2 o3 o4 o5 ps qs++n0) (bp 3::rest) R:=by
 refine pF (a:=c.L+1+1+1+1+1) (Dc (N:=bN c.L o1 o2 o3 o4 o5 ps qs++n0) hc d1 (zL (by k_extra "zmm")) (zR hB) hi U) (by rw[hc.cl];rfl) λv n' hv=>?_;refine hZ hv λV vv G z J u=>?_
 try clear hv
 subst G;subst z;exact(nV o5 _ none (PL hc.lo H u) Y (λo' O=>cO (e V vv o' O J (H.add u) u) mO))
end
section
open W PyProof Rows Spec PySem.Calls
theorem yy(hl:s.heap.IsList l items)(u:(items.size:Int)<2 ^ 63)
  (h:R (.ok (.ret (.int items.size (s.toks+1)))) {s with toks:=s.toks+1+1}):dY (aq prog W0) A (.builtin "len" ⟨[.ref l],[]⟩) R s:=by
 refine fM (id hl) λo ho hc e=>?_;refine cp e λn hd=>?_
 try clear e
 refine eu entry_len ?_;unfold Builtin.«len»;refine af (m:=oneArg "len" _) (ai ?_)
 refine af (m:=xb (.ref l) (ae "__len__")) (ie (name:=ae "__len__") hl.typeIs slot_list_len
  (eE slot_list_len hl.typeIs entry_list_len ?_ (args_list_len _)))
 refine(?_:aA _ _ (do retInt (← seqSize l)) _ _ s);unfold seqSize;refine af (af (rF ho ?_));rw[hd];refine ai (af (pO (ai (db _ rfl ?_))));refine af (bC (ai ?_));refine af (mh ?_);rw[if_neg (by exact λhh=>(qz (eV [items.size] 1 Y0 (.k (-1)) 1 (.a Z0 Y1) Y0 1 Y0 Z0 rfl hh j7)))];rw[if_neg (by exact λhh=>MJ u hh)];exact af (pO (ai h))
theorem Cr(hl:s.heap.IsList l items)
  (h0:0≤k) (u:k<2 ^ 63) (G:items[k.toNat]?=some x) (h:Q x s):aA (aq prog W0) A (call (.builtin "list.__getitem__") [.ref l,.int k t]) Q E s:=by
 refine fM (id hl) λo ho hc e=>?_;refine cp e λne hd=>?_
 try clear e
 refine eE slot_list_getitem hl.typeIs entry_list_getitem ?_ (args_list_getitem _ _);refine(?_:aA _ _ (Builtin.List.listSubscript? (.int k t) >>= _) _ _ s);refine af (wpAny_listSubscript_int (fitsIndex_of h0 u) ?_);clear u;refine cp (Int.eq_ofNat_of_zero_le h0) λj z=>?_;subst z;have B:items[j]?=some x:=G;refine af (af (wpAny_seqItemAt ho hd (ai ?_)));rw[B]
 first
  | exact af (ai (ai (db x rfl h)))
  | exact ai (db x rfl h)
theorem yC{prog:Program}{A:Around}{E:VP}{s:Shared}{a b:Int}{t u:Tok}{Q:VP}(h:Q (.bool (decide (a<b))) s):aA (aq prog W0) A (call (.builtin "int.__lt__") [.int a t,.int b u]) Q E s:=
 eE Mj (iE s a t) entry_int_lt (show aA _ _ (ret (.bool (decide (a<b)))) _ _ s from ai (db _ rfl h)) (args_int_lt _ _)
noncomputable def LQ(l:Addr)(x:Int)(t:Tok)(rt:Bool)(lo hi:Int):Args:=⟨[.ref l,.int x t,n4 lo,n4 hi,.none,.bool rt,.bool true,n4 0],[]⟩
noncomputable def FS(l:Addr)(x:Int)(t:Tok)(rt:Bool)(lo hi:Int):sU:=.builtin "_bisect.bisect_right.loop" (LQ l x t rt lo hi)
theorem Sd{M:Model}{A:Around}{E:VP}{s:Shared}{Q:Fin→Shared→Prop}{b:Bool}{u v:sU}(h:Q (.again (if b then u else v)) s):aA M A (if (b==false)=true then Mo v else Mo u) Q E s:=by
 cases b<;>exact ai h
theorem Sc{M:Model}{A:Around}{E:VP}{s:Shared}{Q:Fin→Shared→Prop}{b:Bool}{u v:sU}(h:Q (.again (if !b then u else v)) s):aA M A (if (b==true)=true then Mo v else Mo u) Q E s:=by
 cases b<;>exact ai h
theorem t2{prog:Program}{A:Around}{E:VP}{s:Shared}{l:Addr}{vs:List Value}{x y lo hi:Int}{t u:Tok}{rt:Bool}{Q:Fin→Shared→Prop}(hl:s.heap.IsList l vs.toArray)(h0:0≤lo)(e:lo<hi)(B:hi≤vs.length)(z:(vs.length:Int)<2 ^ 62)(G:vs[((lo+hi)/2).toNat]?=some (.int y u))
  (hq:Q (.again (if (if rt then !decide (x<y) else decide (y<x)) then FS l x t rt ((lo+hi)/2+1) hi else FS l x t rt lo ((lo+hi)/2))) {s with toks:=s.toks+1}):
  aA (aq prog W0) A (Builtin.«_bisect.bisect_right.loop» (LQ l x t rt lo hi)) Q E s:=by
 unfold Builtin.«_bisect.bisect_right.loop»;refine PySem.wpAny_ite_true (decide_eq_true e) ?_;refine af (pO ?_);refine af (ie (name:=ae "__getitem__") (s:={s with toks:=s.toks+1}) hl.typeIs slot_list_getitem (Cr (x:=.int y u) hl (ia [(lo+hi)/2,lo,hi] 2 Y0 Z0 1 (.a Z1 Y1) Z2 2 Y0 Z1 1 (.a Z1 Z2) (.a (.m 2 Z0) Y1) rfl e h0 ON) (yW [(lo+hi)/2,vs.length,hi,lo] 2 (.a Z0 Y1) (.k (2 ^ 63)) 2 (.a Z1 Y1) (.k (2 ^ 62)) 2 Z2 Z1 1 (.a Z3 Y1) Z2 1 (.m 2 Z0) (.a Z3 Z2) rfl z B e PC) (by rw[List.getElem?_toArray];exact G) ?_));refine af (ai ?_);refine bC ?_
 cases rt with
 | false=>exact af (nD (iE _ _ _) (af (nD (iE _ _ _) (af (rG (by rfl) (af (ic (name:=ae "__lt__") (iE _ _ _) Mj (yC (af (m:=truthOfDropped (Gi (decide (y<x)))) (aY (af (ai (Sd hq)))))))))))))
 | true=>exact af (nD (iE _ _ _) (af (nD (iE _ _ _) (af (rG (by rfl) (af (ic (name:=ae "__lt__") (iE _ _ _) Mj (yC (af (m:=truthOfDropped (Gi (decide (x<y)))) (aY (af (ai (Sc hq)))))))))))))
theorem uR:kH w9 "_bisect.bisect_right.loop"=some Builtin.«_bisect.bisect_right.loop»:=yO (by kernel_rfl)
theorem t3{prog:Program}{A:Around}{E:VP}{s:Shared}{l:Addr}{x lo hi:Int}{t:Tok}{rt:Bool}{Q:Fin→Shared→Prop}(e:¬lo<hi)(hq:Q (.done (.ret (.int lo s.toks))) {s with toks:=s.toks+1}):
  aA (aq prog W0) A (Builtin.«_bisect.bisect_right.loop» (LQ l x t rt lo hi)) Q E s:=by
 unfold Builtin.«_bisect.bisect_right.loop»;refine PySem.wpAny_ite_false (decide_eq_false e) ?_;exact af (m:=retInt lo) (af (m:=mkInt lo) (pO (ai (ai hq))))
theorem yE{prog:Program}{A:Around}{l:Addr}{vs:List Value}{xs:List Int}{x:Int}{t:Tok}{rt:Bool}{p:Int→Bool}(hp:∀y,(if rt then !decide (x<y) else decide (y<x))=p y)(hi:au vs xs)(z:vs.length<1000){R:Result→Shared→Prop} :
  ∀(k a b:Nat) (s:Shared),s.heap.IsList l vs.toArray→b≤vs.length→b-a≤k→(∀tok tk,R (.ok (.ret (.int (fS p xs k a b:Nat) tok))) {s with toks:=tk})→dY (aq prog W0) A (FS l x t rt a b) R s:=by
 intro k
 induction k with
 | zero=>
  intro a b s hl hb hk hR;refine eu uR ?_;exact t3 (λhh=>(qz (ia [a,b,↑(b-a)] 1 Y0 (.k (-1)) 1 (.a Z0 Y1) Z1 1 Z2 Y0 1 Z1 (.a Z2 Z0) rfl hh (ef hk) C1))) (hR _ _)
 | succ k B=>
  intro a b s hl hb hk hR;refine eu uR ?_;unfold fS at hR
  by_cases e:a<b
  .have hm:(a+b)/2<xs.length:=by rw[← hi.length];exact NL e hb
   have G:((a:Int)+(b:Int))/2=(((a+b)/2:Nat):Int):=rfl;refine cp (hi.get ((a+b)/2) (xs.getD ((a+b)/2) 0) (by rw[ay,am hm];rfl)) λu hu=>?_;refine t2 (y:=xs.getD ((a+b)/2) 0) (u:=u) hl (j7) (K8 e) (R7 hb) (cW [vs.length] 1 (.a Z0 Y1) (.k (2 ^ 62)) 1 (.a Z0 Y1) (.k 1000) rfl (ef z)) (by rw[G,bM];exact hu) ?_;rw[G,hp];rw[if_pos (jC.mpr e)] at hR
   cases h:p (xs.getD ((a+b)/2) 0) with
   | true=>
    rw[h] at hR;exact⟨eW _ (by decide +kernel),B ((a+b)/2+1) b _ hl hb (Rb hk e) λtok tk=>hR tok tk⟩
   | false=>
    rw[h] at hR;exact⟨eW _ (by decide +kernel),B a ((a+b)/2) _ hl (aN (NL e hb)) (Ra hk e) λtok tk=>hR tok tk⟩
  .rw[if_neg λh=>e (jC.mp h)] at hR
   exact t3 (λhh=>(qz (eV [a,b] 1 Y0 (.k (-1)) 1 (.a Z0 Y1) Z1 1 Z1 Z0 rfl hh (RW e)))) (hR _ _)
theorem Cw{prog:Program}{A:Around}{E:VP}{s:Shared}{l:Addr}{vs:List Value}{x:Int}{t:Tok}{Q:Fin→Shared→Prop}(hl:s.heap.IsList l vs.toArray)(z:(vs.toArray.size:Int)<2 ^ 63)(hq:Q (.again (FS l x t false 0 (vs.toArray.size:Nat))) {s with toks:=s.toks+1+1}):aA (aq prog W0) A (Builtin.«_bisect.bisect_left» ⟨[.ref l,.int x t],[]⟩) Q E s:=by
 obtain ⟨hp,g,d,tk,os⟩:=s;refine fM hl λo ho u e=>?_
 try clear hl
 refine cp e λep hd=>?_
 try clear e
 have hT:(Shared.mk hp g d tk os).TypeIs (.ref l) "list":=(db o ho u)
 have G:gz (.type "list") (ae "__len__")=ck (some (.builtin "list.__len__")):=by rw[cu,bw];kernel_rfl
 have B:gz (.type "list") (ae "__getitem__")=ck (some (.builtin "list.__getitem__")):=by rw[cu,bw];kernel_rfl
 refine af (bV (a:=(.ref l,.int x t,none,none,none)) (by kernel_rfl) ?_);refine af (ai (af (ai ?_)));refine af (ai ?_);refine bC (PySem.wpAny_ite_false (by decide) ?_)
 wp_walk
 refine yy (items:=vs.toArray) (c9 o ho u ⟨ep,hd⟩) z ?_
 wp_walk
 rw[u]
 wp_walk
 (try (rw[B];refine ai ?_))
 (try wp_walk)
 exact hq
theorem Cu(hl:s.heap.IsList l vs.toArray)(hi:au vs xs)(e:vs.length<1000)
  (hQ:∀tok tk,Q (.int (fS (λy=>decide (y<x)) xs vs.length 0 vs.length:Nat) tok) {s with toks:=tk}):aA (aq prog W0) A (call (.builtin "_bisect.bisect_left") [.ref l,.int x t]) Q E s:=by
 refine eG (fX (by decide +kernel) (yO (by kernel_rfl):kH w9 "_bisect.bisect_left"=some Builtin.«_bisect.bisect_left») (bV (a:=()) (by kernel_rfl) ?_));refine Cw hl (cW [vs.length] 1 (.a Z0 Y1) (.k (2 ^ 63)) 1 (.a Z0 Y1) (.k 1000) rfl (ef e)) ?_;exact⟨eW _ (by decide +kernel),yE (rt:=false) (λ_=>rfl) hi e vs.length 0 vs.length {s with toks:=s.toks+1+1} hl (aS _) (aS _) λtok tk=>hQ tok tk⟩
theorem Al{prog:Program}{A:Around}{E:VP}{s:Shared}{l:Addr}{vs:List Value}{x lo:Int}{t u:Tok}{Q:Fin→Shared→Prop}(hl:s.heap.IsList l vs.toArray)(B:(vs.toArray.size:Int)<2 ^ 63)(h0:0≤lo)(h1:lo<1000)(hq:Q (.again (FS l x t true lo (vs.toArray.size:Nat))) {s with toks:=s.toks+1+1}):aA (aq prog W0) A (Builtin.«_bisect.bisect_right» ⟨[.ref l,.int x t],[(ae "lo",.int lo u)]⟩) Q E s:=by
 obtain ⟨hp,g,d,tk,os⟩:=s;refine fM hl λo ho z e=>?_
 try clear hl
 refine cp e λep hd=>?_
 try clear e
 have hT:(Shared.mk hp g d tk os).TypeIs (.ref l) "list":=(db o ho z)
 have U:gz (.type "list") (ae "__len__")=ck (some (.builtin "list.__len__")):=by rw[cu,bw];kernel_rfl
 have G:gz (.type "list") (ae "__getitem__")=ck (some (.builtin "list.__getitem__")):=by rw[cu,bw];kernel_rfl
 have O : -(2 ^ 63:Int)≤lo:=cF (by decide) h0;have J:lo<2 ^ 63:=cW [lo] 1 (.a Z0 Y1) (.k (2 ^ 63)) 1 (.a Z0 Y1) (.k 1000) rfl h1;refine af (bV (a:=(.ref l,.int x t,some (.int lo u),none,none)) (by kernel_rfl) ?_);have H:¬lo<0:=Int.not_lt.mpr h0;refine af (af (ai (ai (PySem.W.KFB.if_not (by refine(?_:(!(decide (-(2 ^ 63:Int)≤lo)&&decide (lo<2 ^ 63)))=false);rw[decide_eq_true O,decide_eq_true J];rfl) (af (ai ?_))))));refine af (ai (af (ai ?_)));refine bC (PySem.wpAny_ite_false (decide_eq_false H) ?_)
 wp_walk
 refine yy (items:=vs.toArray) (c9 o ho z ⟨ep,hd⟩) B ?_
 wp_walk
 rw[z]
 wp_walk
 (try (rw[G];refine ai ?_))
 (try wp_walk)
 exact hq
theorem Ct{prog:Program}{A:Around}{E:VP}{s:Shared}{l:Addr}{vs:List Value}{xs:List Int}{x lo:Int}{t u:Tok}{a:Nat}{Q:VP}(hl:s.heap.IsList l vs.toArray)(hi:au vs xs)(e:vs.length<1000)(ea:lo=(a:Int))(z:a≤vs.length)
  (hQ:∀tok tk,Q (.int (fS (λy=>!decide (x<y)) xs vs.length a vs.length:Nat) tok) {s with toks:=tk}):aA (aq prog W0) A (call (.builtin "_bisect.bisect_right") [.ref l,.int x t] [(ae "lo",.int lo u)]) Q E s:=by
 refine eG (fX (by decide +kernel) (yO (by kernel_rfl):kH w9 "_bisect.bisect_right"=some Builtin.«_bisect.bisect_right») (bV (a:=()) (by kernel_rfl) ?_));refine Al hl (by rw[aL];exact cW [vs.length] 1 (.a Z0 Y1) (.k (2 ^ 63)) 1 (.a Z0 Y1) (.k 1000) rfl (ef e)) (EO ea j7) (ia [lo,a,vs.length] 1 (.a Z0 Y1) (.k 1000) 1 Z1 Z2 1 Z0 Z1 1 (.a Z2 Y1) (.k 1000) rfl (ef z) (gX ea) (ef e)) ?_;rw[aL,ea];refine⟨eW _ (by decide +kernel),?_⟩;exact yE (rt:=true) (λ_=>rfl) hi e vs.length a vs.length {s with toks:=s.toks+1+1} hl (aS _) (jB (eK vs) a) λtok tk=>hQ tok tk
end
section
open W PyProof Rows
noncomputable def qg(k:Nat):List Int:=mE (5-k) 0++mE k 3
theorem xG:∀{ns:List Int},ns.Pairwise (·≤·)→(∀x∈ns,x=0∨x=3)→ns=mE (ns.length-ns.count 3) 0++mE (ns.count 3) 3
 | [],_,_=>rfl
 | x::r,hs,h3=>by
  have hr:=xG (dZ.mp hs).2 λy e=>h3 y (zT e);have hc:r.count 3≤r.length:=C9
  rcases h3 x (zH) with rfl|rfl
  .have e1:(0::r:List Int).count 3=r.count 3:=by simp [MC]
   rw[e1,gV,show r.length+1-r.count 3=(r.length-r.count 3)+1 by exact vm (eV [↑(r.length+1-kr 3 r),↑(r.length-kr 3 r),r.length,↑(kr 3 r)] 1 Z0 (.a Z1 Y1) 1 Z2 (.a Z1 Z3) 1 (.a Z0 Z3) (.a Z2 Y1) rfl C1 (xK (cW [↑(kr 3 r),r.length] 1 Z0 (.a Z1 Y1) 1 Z0 Z1 rfl (ef hc)))) (eV [↑(r.length-kr 3 r),↑(r.length+1-kr 3 r),r.length,↑(kr 3 r)] 1 (.a Z0 Y1) Z1 1 (.a Z2 Y1) (.a Z1 Z3) 1 (.a Z0 Z3) Z2 rfl C1 (xK (cW [↑(kr 3 r),r.length] 1 Z0 Z1 1 Z0 Z1 rfl (ef hc)))),Gn,fJ,← hr]
  .have all:∀y∈r,y=3:=λy e=>by
    have:=(dZ.mp hs).1 y e
    rcases h3 y (zT e) with rfl|rfl
    .lia
    .rfl
   have er:r=mE r.length 3:=List.eq_replicate_iff.mpr ⟨rfl,all⟩
   have e1:(3::r:List Int).count 3=r.length+1:=by
    rw[List.count_cons_self];rw[er,List.count_replicate_self,List.length_replicate]
   rw[e1,gV,Nat.sub_self,List.replicate_zero,ip,Gn,← er]
theorem JY(hs:ns.Pairwise (·≤·))(h3:∀x∈ns,x=0∨x=3)(hl:ns.length=5):ns.count 3≤5∧ns=qg (ns.count 3):=by
 have hc:ns.count 3≤ns.length:=C9;have:=xG hs h3;rw[hl] at this hc;exact⟨hc,this⟩
noncomputable def xW(ns:List Int):Int:=ns.getD ((ns.length:Int).fdiv 2).toNat 0
noncomputable def zF(ns:List Int)(l:Nat):Nat:=fS (λy=>decide (y<xW ns)) ns l 0 l
noncomputable def Hu(ns:List Int)(l:Nat):Nat:=fS (λy=>!decide (xW ns<y)) ns l (zF ns l) l
noncomputable def NQ(n X i j:Int):UInt64:=MU (mz (bF X) (jk (bF 3) 4611686018427387904)) (jk (fY (bF 3) (mz (lH (decide (n<0) != decide ((2:Int)<0)) n.natAbs (I6 2)) (bF i))) (bF (j-i)))
noncomputable def xq(k:Nat):UInt64:=NQ 5 (xW (qg k)) (zF (qg k) 5) (Hu (qg k) 5)
structure Pb(k:Nat)(X:Int)(i j:Nat):Prop where
 x:X.natAbs≤5
 i5:(i:Int).natAbs≤5
 j1:(1:Int)≤(j:Int)-(i:Int)
 j5:(j:Int)-(i:Int)≤5
 v:NQ 5 X i j=xq k
theorem DE:∀k,k<6→(xW (qg k)).natAbs≤5∧(zF (qg k) 5:Int).natAbs≤5∧(1:Int)≤(Hu (qg k) 5:Int)-(zF (qg k) 5:Int)∧(Hu (qg k) 5:Int)-(zF (qg k) 5:Int)≤5:=by decide +kernel
theorem Kz(hp:ns.Perm xs)(hs:ns.Pairwise (·≤·))(h3:∀x∈xs,x=0∨x=3)(hl:ns.length=5):Pb (xs.count 3) (xW ns) (zF ns 5) (Hu ns 5):=by
 rw[← hp.count_eq];refine b8 (JY hs (λx u=>h3 x (hp.mem_iff.mp u)) hl) λhk e=>?_;have z:=DE (ns.count 3) (uu hk (bR true));rw[← e] at z;exact⟨z.1,z.2.1,z.2.2.1,z.2.2.2,by unfold xq;rw[← e]⟩
theorem AO(h:n≤5):¬2 ^ 1024-2 ^ 970≤n:=λe=>absurd (aw e h) (by decide +kernel)
theorem x6(hl:Ev k m n l (.int a))(ha:0≤a)(B:a≤100):Ev k m n (.BinOp l .FloorDiv (.Constant (.int 2) kk p) pos) (.int (a.fdiv 2)):=
 ⟨λQ s hi hq=>d9 (hl.run _ s hi λv s1 z i1=>bf.run _ s1 i1 λv2 s2 d2 i2=>by
  refine cp z λt1 u=>?_
  try clear z
  subst u;refine cp d2 λt2 e=>?_
  try clear d2
  subst e
  exact floordiv_int (by decide) (hq _ _ ⟨_,rfl⟩ i2.toks))⟩
theorem JH{cs:Scope}{c:Fm W0 cs}{m:Lo}{n newsK:Ns}{f e ex:PE}{pos z:Pos}{wh:Sem Value}{kl:Addr}{KV:Int→Value→Prop}{g:Int→Bool}{xv:Value}{t:Int}(hd:c.dp+3<aH)(hu:c.un+40<cX)(H:f8 W0 kl newsK KV)(J:yG KV xv g){oc:Value}{od:Option Addr}{fd:FuncData}{sl:Array (Option Value)}(hm:∀p∈newsK,p∈n)(G:(kl,(⟨oc,od,.func fd,sl⟩:Obj))∈n)(h0:0≤t)(h4:t<4)(hf:Ev c.cx m n f (.val (.ref kl)))(he:Ev c.cx m n e (.int t))(hx:Ev c.cx m n ex (.val xv))
  (c1:autoParam (CC c.env f [e] pos) zAa) (c2:autoParam (SE c.env e []) zAa) (O:autoParam (eR .Lt ex=false) zAc):Tw c.cx m n (.Compare (.Call f [e] [] pos) [.Lt] [ex] z) wh (g t):=
 ⟨λQ s hi hq=>bY (gu (hf.run _ s hi λv s1 d1 i1=>by
  cases d1;refine callWith_F (xg i1.at.2 G) (aI (he.run _ s1 i1 λv2 s2 d2 i2=>bK ?_) c2) c2;refine cp d2 λt2 u=>?_
  try clear d2
  subst u;refine⟨xg i2.at.2 G,?_⟩;obtain ⟨h9,U,rfl,F9,N9⟩:=i2;refine H _ _ _ _ _ _ _ _ _ _ _ _ _ _ _ _ _ _ _ _ _ _ _ _ _ c.B F9 c.X N9 c.T c.hk hd hu hm h0 h4 λv3 h3 Y hv F3 N3=>?_;refine hx.run _ _ ⟨_,_,rfl,F3,N3⟩ λv4 s4 d4 i4=>?_;cases d4
  exact J _ _ _ _ _ _ _ _ h0 h4 hv (aY (hq _ i4))) c1) O⟩
theorem GY{cs:Scope}{c:Fm W0 cs}{m:Lo}{n newsK:Ns}{f e ex:PE}{pos z:Pos}{wh:Sem Value}{kl:Addr}{KV:Int→Value→Prop}{g:Int→Bool}{xv:Value}{t:Int}(hd:c.dp+3<aH)(hu:c.un+40<cX)(H:f8 W0 kl newsK KV)(J:CA KV xv g){oc:Value}{od:Option Addr}{fd:FuncData}{sl:Array (Option Value)}(hm:∀p∈newsK,p∈n)(G:(kl,(⟨oc,od,.func fd,sl⟩:Obj))∈n)(h0:0≤t)(h4:t<4)(hf:Ev c.cx m n f (.val (.ref kl)))(he:Ev c.cx m n e (.int t))(hx:Ev c.cx m n ex (.val xv))
  (c1:autoParam (CC c.env f [e] pos) zAa) (c2:autoParam (SE c.env e []) zAa) (O:autoParam (eR .Lt (.Call f [e] [] pos)=false) zAc):Tw c.cx m n (.Compare ex [.Lt] [.Call f [e] [] pos] z) wh (!(g t)):=
 ⟨λQ s hi hq=>bY (hx.run _ s hi λv0 s0 d0 i0=>gu (hf.run _ s0 i0 λv s1 d1 i1=>by
  cases d0;cases d1;refine callWith_F (xg i1.at.2 G) (aI (he.run _ s1 i1 λv2 s2 d2 i2=>bK ?_) c2) c2;refine cp d2 λt2 u=>?_
  try clear d2
  subst u;refine⟨xg i2.at.2 G,?_⟩;obtain ⟨h9,U,rfl,F9,N9⟩:=i2;refine H _ _ _ _ _ _ _ _ _ _ _ _ _ _ _ _ _ _ _ _ _ _ _ _ _ c.B F9 c.X N9 c.T c.hk hd hu hm h0 h4 λv3 h3 Y hv F3 N3=>?_
  exact J _ _ _ _ _ _ _ _ h0 h4 hv (aY (hq _ ⟨_,_,rfl,F3,N3⟩))) c1) O⟩
noncomputable def Rp:Scope:=tw P0.main.body 19
noncomputable def Rn:List Stmt:=sO (((vg P0.main.body 19)[3]?).getD C0)
noncomputable def w7(m:Lo)(al kl:Addr)(xv:Value):Prop:=m "a"=some (.ref al)∧m "key"=some (.ref kl)∧m "x"=some xv
theorem w7.up(h:w7 m al kl xv)(e:x∉[("a" : Str),"key","x"]):w7 (cj m x v) al kl xv:=by
 simp only[ak,bT,or_false,not_or] at e;exact(eP ((if_neg (Ne.symm e.1)).trans h.1) ((if_neg (Ne.symm e.2.1)).trans h.2.1) ((if_neg (Ne.symm e.2.2)).trans h.2.2))
noncomputable def Pn(r:Nat)(n:Ns)(f:vd)(m':Lo)(n':Ns):Prop:=f=.next∧n'=n∧∃t,m' "lo"=some (.int (r:Int) t)
theorem lY(h:m y=r)(e:y≠x):cj m x v y=r:=(if_neg e).trans h
theorem rV:cj m x v x=some v:=if_pos rfl
theorem QL{c:Fm W0 Rp}{m:Lo}{n newsK:Ns}{al kl:Addr}{va:List Value}{xs:List Int}{ep:Nat}{KV:Int→Value→Prop}{g:Int→Bool}{xv:Value}{oc:Value}{od:Option Addr}{fd:FuncData}{sl:Array (Option Value)}{t1 t2:Tok}(hd:c.dp+3<aH)(hu:c.un+40<cX)(aj:f8 W0 kl newsK KV)(ap:yG KV xv g)(hm:∀p∈newsK,p∈n)(ax:(kl,(⟨oc,od,.func fd,sl⟩:Obj))∈n)
  (aD:(al,listOf va.toArray ep)∈n) (hx:au va xs) (ah:xs.length≤4) (as:∀t∈xs,0≤t∧t<4) (hK:w7 m al kl xv) (u:m "lo"=some (.int 0 t1)) (B:m "hi"=some (.int (xs.length:Nat) t2)):cN c m n Rn (Pn (fS g xs xs.length 0 xs.length) n):=by
 refine jG (λk m1 n1=>n1=n∧∃(lo hi:Int) (t1 t2:Tok),w7 m1 al kl xv∧m1 "lo"=some (.int lo t1)∧m1 "hi"=some (.int hi t2)∧BJ g xs (fS g xs xs.length 0 xs.length) lo hi∧k=(hi-lo).toNat) ⟨rfl,0,_,t1,t2,hK,u,B,yD,rfl⟩ ?_;clear hK u B;intro k m1 n1 J;refine b8 J λaa H=>?_;clear J;subst aa;refine zA H λlo hi t1 t2 hK u B hB ab=>?_
 try clear H
 subst ab;refine(c9 _ (eJ lh (ag u) (ag B)) (λhb=>?_) (λhb=>cb ⟨rfl,rfl,t1,by rw[u,FO hB (of_decide_eq_false hb)]⟩));have O:=of_decide_eq_true hb;have e:=qK hB O;have ar:=as (xs.getD ((lo+hi).fdiv 2).toNat 0) (we e.2.2.1 e.2.2.2);have ha:=hB.a;have hc:=hB.c;refine fx (x6 (eg (ag u) (ag B)) (ia [lo,hi,(lo+hi).fdiv 2] 1 Y0 (.a Z0 Z1) 1 Y0 Z0 1 (.a Z2 Y1) Z1 1 Y0 Z2 rfl ha e.2.1 e.2.2.1) (yW [lo,hi,xs.length,(lo+hi).fdiv 2] 1 (.a Z0 Z1) (.k 100) 1 Z1 Z2 1 Z0 Z3 1 (.a Z3 Y1) Z2 2 Z2 (.k 4) rfl hc e.1 e.2.2.2 (ef ah))) λt3=>?_;have G:=hK.up (x:="mid") (v:=.int ((lo+hi).fdiv 2) t3) (by decide);have U:=lY (x:="mid") (v:=.int ((lo+hi).fdiv 2) t3) u (by decide);have Y:=lY (x:="mid") (v:=.int ((lo+hi).fdiv 2) t3) B (by decide);have z:cj m1 "mid" (.int ((lo+hi).fdiv 2) t3) "mid"=some (.int ((lo+hi).fdiv 2) t3):=rV;generalize cj m1 "mid" (.int ((lo+hi).fdiv 2) t3)=m2 at G U Y z ⊢;refine dE (JH hd hu aj ap hm ax ar.1 ar.2 (ao G.2.1) (ft (ao G.1) (ag z) aD hx e.2.2.1 e.2.2.2 (eV [(lo+hi).fdiv 2,xs.length] 1 (.a Z0 Y1) (.k (2 ^ 63)) 1 (.a Z0 Y1) Z1 1 Z1 (.k 4) rfl e.2.2.2 (ef ah))) (ao G.2.2)) (λhf=>?_) (λhf=>?_)
 .exact fx (eg (ag z) bf) λt4=>cb (cb (c9 _ (FM hB O) rfl ⟨(lo+hi).fdiv 2+1,hi,t4,t2,G.up (by decide),rV,lY Y (by decide),FK hB O hf,rfl⟩))
 .exact fx (ag z) λt4=>cb (cb (c9 _ (FL hB O) rfl ⟨lo,(lo+hi).fdiv 2,t1,t4,G.up (by decide),lY U (by decide),rV,Jp hB O hf,rfl⟩))
noncomputable def Rm:Scope:=tw P0.main.body 16
noncomputable def Rl:List Stmt:=sO (((vg P0.main.body 16)[3]?).getD C0)
theorem QJ{c:Fm W0 Rm}{m:Lo}{n newsK:Ns}{al kl:Addr}{va:List Value}{xs:List Int}{ep:Nat}{KV:Int→Value→Prop}{g:Int→Bool}{xv:Value}{oc:Value}{od:Option Addr}{fd:FuncData}{sl:Array (Option Value)}{t1 t2:Tok}(hd:c.dp+3<aH)(hu:c.un+40<cX)(ap:f8 W0 kl newsK KV)(ar:CA KV xv g)(hm:∀p∈newsK,p∈n)(aD:(kl,(⟨oc,od,.func fd,sl⟩:Obj))∈n)
  (aM:(al,listOf va.toArray ep)∈n) (hx:au va xs) (aj:xs.length≤4) (ax:∀t∈xs,0≤t∧t<4) (hK:w7 m al kl xv) (u:m "lo"=some (.int 0 t1)) (B:m "hi"=some (.int (xs.length:Nat) t2)):cN c m n Rl (Pn (fS g xs xs.length 0 xs.length) n):=by
 refine jG (λk m1 n1=>n1=n∧∃(lo hi:Int) (t1 t2:Tok),w7 m1 al kl xv∧m1 "lo"=some (.int lo t1)∧m1 "hi"=some (.int hi t2)∧BJ g xs (fS g xs xs.length 0 xs.length) lo hi∧k=(hi-lo).toNat) ⟨rfl,0,_,t1,t2,hK,u,B,yD,rfl⟩ ?_;clear hK u B;intro k m1 n1 J;refine b8 J λaa H=>?_;clear J;subst aa;refine zA H λlo hi t1 t2 hK u B hB ah=>?_
 try clear H
 subst ah;refine(c9 _ (eJ lh (ag u) (ag B)) (λhb=>?_) (λhb=>cb ⟨rfl,rfl,t1,by rw[u,FO hB (of_decide_eq_false hb)]⟩));have O:=of_decide_eq_true hb;have e:=qK hB O;have as:=ax (xs.getD ((lo+hi).fdiv 2).toNat 0) (we e.2.2.1 e.2.2.2);have ha:=hB.a;have hc:=hB.c;refine fx (x6 (eg (ag u) (ag B)) (ia [lo,hi,(lo+hi).fdiv 2] 1 Y0 (.a Z0 Z1) 1 Y0 Z0 1 (.a Z2 Y1) Z1 1 Y0 Z2 rfl ha e.2.1 e.2.2.1) (yW [lo,hi,xs.length,(lo+hi).fdiv 2] 1 (.a Z0 Z1) (.k 100) 1 Z1 Z2 1 Z0 Z3 1 (.a Z3 Y1) Z2 2 Z2 (.k 4) rfl hc e.1 e.2.2.2 (ef aj))) λt3=>?_;have G:=hK.up (x:="mid") (v:=.int ((lo+hi).fdiv 2) t3) (by decide);have U:=lY (x:="mid") (v:=.int ((lo+hi).fdiv 2) t3) u (by decide);have Y:=lY (x:="mid") (v:=.int ((lo+hi).fdiv 2) t3) B (by decide);have z:cj m1 "mid" (.int ((lo+hi).fdiv 2) t3) "mid"=some (.int ((lo+hi).fdiv 2) t3):=rV;generalize cj m1 "mid" (.int ((lo+hi).fdiv 2) t3)=m2 at G U Y z ⊢;refine dE (GY hd hu ap ar hm aD as.1 as.2 (ao G.2.1) (ft (ao G.1) (ag z) aM hx e.2.2.1 e.2.2.2 (eV [(lo+hi).fdiv 2,xs.length] 1 (.a Z0 Y1) (.k (2 ^ 63)) 1 (.a Z0 Y1) Z1 1 Z1 (.k 4) rfl e.2.2.2 (ef aj))) (ao G.2.2)) (λhf=>?_) (λhf=>?_)
 .have ab:g (xs.getD ((lo+hi).fdiv 2).toNat 0)=false:=by revert hf;cases g (xs.getD ((lo+hi).fdiv 2).toNat 0)<;>simp
  exact fx (ag z) λt4=>cb (cb (c9 _ (FL hB O) rfl ⟨lo,(lo+hi).fdiv 2,t1,t4,G.up (by decide),lY U (by decide),rV,Jp hB O ab,rfl⟩))
 .have ab:g (xs.getD ((lo+hi).fdiv 2).toNat 0)=true:=by revert hf;cases g (xs.getD ((lo+hi).fdiv 2).toNat 0)<;>simp
  exact fx (eg (ag z) bf) λt4=>cb (cb (c9 _ (FM hB O) rfl ⟨(lo+hi).fdiv 2+1,hi,t4,t2,G.up (by decide),rV,lY Y (by decide),FK hB O ab,rfl⟩))
section
variable {cs:Scope}{c:Fm W0 cs}{sc:Scope}{m:Lo}{n:Ns}{R:Re}{d q:Addr}{o:Obj}{kvs:List (Int×Value)}{rest:List Stmt}
theorem Ia(hf:Ev k m n f (.val (.ref q)))(h1:Ev k m n e1 (.int j))(hq:(q,cg "dict.__contains__" (.ref d))∈n)(hm:(d,o)∈n)(hd:nX W0 o kvs)(lo:(d==cP)=false)(u:(c7 kvs j).isSome=b)
  (c1:autoParam (CC k.env f [e1] pos) zAa) (c2:autoParam (SE k.env e1 []) zAa):Ev k m n (.Call f [e1] [] pos) (.val (.bool b)):=
 ⟨λQ s hi hQ=>gu (hf.run _ s hi λv s1 B i1=>by
  cases B;refine hZ (k.opn i1) λm0 ex _ O N0 _=>?_;refine pK N0 (zR hq) ?_ c2;refine aI (h1.run _ s1 i1 λv1 s2 d2 i2=>bK ?_) c2;refine cp d2 λt e=>?_
  try clear d2
  subst e;refine⟨i2.get hq,?_⟩;refine hZ (k.opn i2) λH z _ J G _=>?_
  exact Jq G (zR hq) (zR hm) hd lo rfl (hQ _ _ (by rw[u];exact rfl) i2.toks)) c1⟩
theorem yd(he:Ev c.cx m n e (.int i))(Y:Ev c.cx m n ed (.val (.ref d)))(hk:Ev c.cx m n O (.int j))(U:xf d o n g)(hd:nX W0 o kvs)(hsz:kvs.length≤ec)
  (h:∀t o',nX W0 o' (yK kvs j (.int i t))→cN c m (g o') rest R)
  (hs:autoParam (f9 e (some (.Subscript ed O B)) pos.line c.env=ck false) zAa):
  cN c m n (.Assign [.Subscript ed O B] e pos::rest) R:=
 bL ⟨λQ s hi hq=>wpAny_Assign_Subscript (he.run _ s hi λv s1 hv i1=>Y.run _ s1 i1 λv2 s2 H i2=>hk.run _ s2 i2 λv3 s3 G i3=>by
  refine cp hv λt z=>?_
  try clear hv
  subst z;cases H;refine cp G λt3 u=>?_
  try clear G
  subst u
  exact kda_set (knd:=gT _ _) i3.at.1 i3.at.2 U hd (j0 _ _ _ _) hsz λh' o' F' N' J=>hq .next _ _ _ (h t o' J) (i3.to F' N')) hs⟩
end
section
variable {c:Fm W0 (mS 11)}{m:Lo}{n N0:Ns}{R:Re}{rest:List Stmt}{xs ys:List Int}{va vb:List Value}{ep1 ep2:Nat}{la lb fb q av S:Addr}{o oF:Obj}{kvF:List (Int×Value)}
noncomputable def PX:Stmt:=((sB (oL 11 1))[1]?).getD C0
theorem Hj(he:Ev c.cx m n (sE PX) (.val (.ref lb)))(O:(lb,listOf vb.toArray ep2)∈N0)(ap:au vb ys)(ab:ys.Nodup)(aa:ys.length≤32)(hs:m "self"=some (.ref S))(hf:m "fullbcount"=some (.ref fb))(hn:n=(fb,o)::N0)(ho:nX W0 o [])(lo:(fb==cP)=false)(off:∀p∈N0,p.1≠fb)
  (H:∀m' o' kvs,m' "self"=some (.ref S)→nX W0 o' kvs→FB ys kvs→cN c m' ((fb,o')::N0) rest R):cN c m n (PX::rest) R:=by
 subst hn;refine uK he (zT O) ap (λi m1 n1=>∃(o:Obj) (kvs:List (Int×Value)),m1 "self"=some (.ref S)∧m1 "fullbcount"=some (.ref fb)∧n1=(fb,o)::N0∧nX W0 o kvs∧kvs.length≤i∧(∀k∈ys.take i,∃t,c7 kvs k=some (.int 1 t))∧∀k,k∉ys.take i→c7 kvs k=none) (Qz o [] hs hf rfl ho (cr _) (λ_ h=>nomatch h) (λ_ _=>rfl)) ?_ ?_
 .clear he hs hf ho
  intro i x t m1 n1 I oI hi hI z;refine Nz z λo kvs hs hf G hd hl Y R2=>?_;clear z;subst G;have U:@Ne Nat I fb:=aF (hI _ (zH));have ar:∀p∈N0,@Ne Nat p.1 I:=λp hp=>aB (hI p (zT hp));have J:cj m1 "elt" (.int x t) "fullbcount"=some (.ref fb):=bc hf;have ah:=mM hi;have hv:=R2 x (qx ab hi);refine yd (eg (wQ (ao J) (ag cZ) (bf (i:=0)) (a:=.int 0) (zT (zH)) hd lo hv (λv h=>h)) (bf (i:=1))) (ao J) (ag cZ) (.tail U (.head off)) hd (by rw[eQ];exact nU (ia [kvs.length,i,ys.length] 1 Z0 (.k 16777216) 1 (.a Z1 Y1) Z2 1 Z0 Z1 1 Z2 (.k 32) rfl (ef ah) (ef hl) (ef aa))) λt' o' aj=>cb ?_;refine⟨zH,(fb,o')::N0,λp hp=>⟨zT hp,(ak.mp hp).elim (λh=>by rw[h];exact Ne.symm U) (ar p)⟩,zT O,o',_,bc hs,J,rfl,aj,aw qu (g6 hl),λk hk=>?_,λk hk=>?_⟩
  .rw[gH]
   by_cases e:k=x
   .rw[if_pos e];exact⟨_,rfl⟩
   .rw[if_neg e];exact Y k (wF hi hk e)
  .rw[gH,if_neg (ki hi hk)]
   exact R2 k (lZ hk)
 .intro m1 n1 u
  refine Nz u λo kvs hs hf B hd hl Y R2=>?_;clear u;subst B;rw[cT] at Y R2;exact H m1 o kvs hs hd ⟨Y,R2⟩
structure QK(m:Lo)(S q av fb:Addr):Prop where
 s:m "self"=some (.ref S)
 h:m "availhas"=some (.ref q)
 a:m "avail"=some (.ref av)
 f:m "fullbcount"=some (.ref fb)
theorem QK.up(h:QK m S q av fb)(e:x∉[("self" : Str),"availhas","avail","fullbcount"]):QK (cj m x v) S q av fb:=by
 simp only[ak,bT,or_false,not_or] at e;refine xR e λh1 h2 h3 h4=>?_
 try clear e
 exact⟨(if_neg (Ne.symm h1)).trans h.s,(if_neg (Ne.symm h2)).trans h.h,(if_neg (Ne.symm h3)).trans h.a,(if_neg (Ne.symm h4)).trans h.f⟩
theorem Hi(he:Ev c.cx m n (sE (oL 11 5)) (.val (.ref la)))(ah:(la,listOf va.toArray ep1)∈N0)(bb:au va xs)(aM:xs.Nodup)(ax:xs.length≤32)(hK:QK m S q av fb)(ab:m "matches"=some (.int 0 t0))(hn:n=(av,o)::N0)(ho:nX W0 o [])(lo:(av==cP)=false)(off:∀p∈N0,p.1≠av)
  (hq:(q,cg "dict.__contains__" (.ref av))∈N0) (hF:(fb,oF)∈N0) (a5:nX W0 oF kvF) (hB:FB ys kvF) (ar:(fb==cP)=false)
  (U:∀m' o' t,QK m' S q av fb→m' "matches"=some (.int ((xs.filter (·∈ys)).length:Int) t)→cN c m' ((av,o')::N0) rest R):cN c m n (oL 11 5::rest) R:=by
 subst hn;refine uK he (zT ah) bb (λi m1 n1=>∃(t:Tok) (o:Obj) (kvs:List (Int×Value)),QK m1 S q av fb∧m1 "matches"=some (.int (((xs.take i).filter (·∈ys)).length:Int) t)∧n1=(av,o)::N0∧nX W0 o kvs∧kvs.length≤i∧∀k,k∉xs.take i→c7 kvs k=none) (Qy t0 o [] hK ab rfl ho (cr _) (λ_ _=>rfl)) ?_ ?_
 .clear he hK ab ho
  intro i x t m1 n1 I oI hi hI B;refine Nx B λtm o kvs hK hm O hd hl R2=>?_;clear B;subst O;have ap:@Ne Nat I av:=aF (hI _ (zH));have bh:∀p∈N0,@Ne Nat p.1 I:=λp hp=>aB (hI p (zT hp));have aa:=hK.up (x:="elt") (v:=.int x t) (by decide);have a4:=mM hi;have hv:=R2 x (qx aM hi);have a0:cj m1 "elt" (.int x t) "matches"=some (.int (((xs.take i).filter (·∈ys)).length:Int) tm):=bc hm;refine dE (b:=false) (nq (Ia (ao aa.h) (ag cZ) (zT (zT hq)) (zT (zH)) hd lo (by rw[hv];rfl))) (λh=>bI h) λ_=>?_
  obtain ⟨z,hz⟩:∃z:Int,z=if x∈ys then 1 else 0:=⟨_,rfl⟩
  have as:∀v,(Bq.int 0).den v→(Bq.int z).den ((c7 kvF x).getD v):=by
   intro v aD;rw[hz]
   by_cases h:x∈ys
   .refine cp (hB.1 x h) λt e=>?_
    rw[e,if_pos h];exact⟨t,rfl⟩
   .rw[hB.2 x h,if_neg h]
    exact aD
  refine(fx (wQ (ao aa.f) (ag cZ) (bf (i:=0)) (zT (zT hF)) a5 ar rfl as) λt2=>bQ ?_);have G:=aa.up (x:="numb") (v:=.int z t2) (by decide);have Y:=bc (x:="numb") (v:=.int z t2) a0 (by decide);have aj:cj (cj m1 "elt" (.int x t)) "numb" (.int z t2) "elt"=some (.int x t):=bc cZ;have hz2:cj (cj m1 "elt" (.int x t)) "numb" (.int z t2) "numb"=some (.int z t2):=cZ;generalize cj (cj m1 "elt" (.int x t)) "numb" (.int z t2)=m2 at G Y aj hz2 ⊢;refine yd (jo (ag hz2) (bf (i:=1))) (ao G.a) (ag aj) (.tail ap (.head off)) hd (by rw[eQ];exact nU (ia [kvs.length,i,xs.length] 1 Z0 (.k 16777216) 1 (.a Z1 Y1) Z2 1 Z0 Z1 1 Z2 (.k 32) rfl (ef a4) (ef hl) (ef ax))) λt' o' a6=>?_
  have fin:∀(m3:Lo) (t3:Tok),QK m3 S q av fb→m3 "matches"=some (.int (((xs.take (i+1)).filter (·∈ys)).length:Int) t3)→∃n',(∀p∈n',p∈(I,oI)::(av,o')::N0∧p.1≠I)∧(la,listOf va.toArray ep1)∈n'∧∃(t:Tok) (o:Obj) (kvs:List (Int×Value)),QK m3 S q av fb∧m3 "matches"=some (.int (((xs.take (i+1)).filter (·∈ys)).length:Int) t)∧n'=(av,o)::N0∧nX W0 o kvs∧kvs.length≤i+1∧∀k,k∉xs.take (i+1)→c7 kvs k=none:=λm3 t3 a7 aQ=>
   (c9 ((av,o')::N0) (λp hp=>⟨zT hp,(ak.mp hp).elim (λh=>by rw[h];exact Ne.symm ap) (bh p)⟩) (zT ah) ⟨t3,o',_,a7,aQ,rfl,a6,aw qu (g6 hl),λk hk=>by
    rw[gH,if_neg (ki hi hk)]
    exact R2 k (lZ hk)⟩)
  refine dE (eJ qk (ag hz2) (bf (i:=0))) (λh=>?_) (λh=>?_)
  .have H:x∈ys:=by
    by_cases H:x∈ys
    .exact H
    .rw[hz,if_neg H] at h
     exact absurd h (by decide)
   exact fx (eg (ag Y) (bf (i:=1))) λt3=>bQ (cb ⟨zH,fin _ t3 (G.up (by decide)) (by rw[Ir hi H];exact cZ)⟩)
  .have H:x∉ys:=by
    intro H;rw[hz,if_pos H] at h;exact absurd h (by decide)
   exact bQ (cb ⟨zH,fin _ tm G (by rw[LC hi H];exact Y)⟩)
 .intro m1 n1 u
  refine Nx u λt o kvs hK hm J hd hl R2=>?_;clear u;subst J;rw[cT] at hm;exact U m1 o t hK hm
end
theorem nr:MM W0:=⟨⟨by with_unfolding_all rfl,by with_unfolding_all rfl,by with_unfolding_all rfl⟩,λi h=>match i,h with
 | 0,_ | 1,_ | 2,_ | 3,_ | 4,_ | 5,_ | 6,_ | 7,_ | 8,_ | 9,_=>⟨by with_unfolding_all rfl,by with_unfolding_all rfl,by with_unfolding_all rfl⟩
 | n+10,h=>absurd h (λhh=>uH hh (gC 10 n))⟩
section
variable {τ:Nat→Tok}{d:Nat→Value}{N:Ns}{S D:Addr}{n:Nat}{av:Value}
noncomputable abbrev SL(W0:World)(S D:Addr)(τ:Nat→Tok)(d:Nat→Value)(n:Nat)(N:Ns):Ns:=(S,c8 278 D)::(D,SO W0 τ d n)::N
theorem Dx(z:@Ne Nat S D)(u:∀p∈N,p.1≠D)(h4:4≤n)(h10:n≤10)(hh:qQ (d 1)=true){same:Bool}(B:Jv (SL W0 S D τ d n N) av (d 1) same):
  fk W0 210 [.ref S,av] (SL W0 S D τ d n N) 1 3 (λv n'=>v=.none∧∃e,(6≤n→e = τ)∧n'=SL W0 S D e (if same then d else dr (dr (dr d 1 av) 4 .none) 5 .none) (if same then n else max (max (max n 2) 5) 6) N):=
 li (body:=mB 3) (scope:=mS 3) (binds:=[("self",.ref S),("a",av)]) (by with_unfolding_all rfl) (by with_unfolding_all rfl) (λs X=>dG rfl) (sw rfl) rfl rfl rfl (by decide) λc hd hu=>by
  refine g9 (dE (oz (ao rfl) (gM nr 1 (ao rfl) (zH) (zT (zH)) rfl hh (ly h4)) B) (λh=>E0 ?_) λh=>bQ ?_)
  .subst h
   exact⟨rfl,τ,λ_=>rfl,rfl⟩
  subst h;refine uL nr 1 z u (ao rfl) (ao rfl) (λτ a1=>?_) (ly h4) (by decide) h10;refine wP nr 4 5 z u gP (λ_=>ao rfl) (λ_=>ao rfl) (λτ a2=>cb ⟨rfl,τ,λh=>(a2 (lx (ly h)) (lx (ly h))).trans (a1 (ly h)),rfl⟩) (lx (ly h4)) (kJ ..) (by decide) (by decide) (mx h10)
theorem Dw{bv:Value}{dp un:Nat}{P:(Nat→Tok)→Value→Ns→Prop}(J:dp≤20)(H:un≤100)(B:@Ne Nat S D)(z:∀p∈N,p.1≠D)(h6:6≤n)(h10:n≤10)(hh:qQ (d 2)=true)(O:Jv (SL W0 S D τ d n N) bv (d 2) false)
  (hC:∀e,(7≤n→e = τ)→fk W0 224 [.ref S] (SL W0 S D e (dr (dr (dr (dr d 2 bv) 4 .none) 5 .none) 6 .none) (max (max (max (max n 3) 5) 6) 7) N) dp un (P e)):
  fk W0 217 [.ref S,bv] (SL W0 S D τ d n N) (dp+1) (un+3) (λv n'=>v=.none∧∃e u,(7≤n→e = τ)∧P e u n'):=
 li (body:=mB 4) (scope:=mS 4) (binds:=[("self",.ref S),("b",bv)]) (by with_unfolding_all rfl) (by with_unfolding_all rfl) (λs X=>dG rfl) (sw rfl) rfl rfl rfl (by decide) λc hd hu=>by
  refine g9 (dE (oz (ao rfl) (gM nr 2 (ao rfl) (zH) (zT (zH)) rfl hh (ly h6)) O) (λh=>bI h) λ_=>bQ ?_);refine uL nr 2 B z (ao rfl) (ao rfl) (λτ a1=>?_) (ly h6) (by decide) h10;refine wP nr 4 5 B z gP (λ_=>ao rfl) (λ_=>ao rfl) (λτ a2=>?_) (lx (ly h6)) (kJ ..) (by decide) (by decide) (mx h10);refine uL nr 6 B z gP (ao rfl) (λτ a3=>?_) (kJ ..) (by decide) (mx (mx (mx h10)));have G:=λ(h:7≤n)=>(a3 (lx (lx (lx (ly h))))).trans ((a2 (lx (ly h)) (lx (ly h))).trans (a1 (ly h)));refine oP (rA (hC τ (G)) (ao rfl) (zH) (zT (zH)) (iC λi hi=>?_) hd hu rfl) λv n' hp=>cb ⟨rfl,_,v,G,hp⟩;exact nJ (by decide) (aO hi (mx (mx (mx (mx h10)))))
inductive MR(W0:World)(S D:Addr)(n:Nat)(τ0:Nat→Tok)(d:Nat→Value)(ys:List Int)(N:Ns)(v:Value)(n':Ns):Prop
 | mk (τ:Nat→Tok) (lj lk lp:Addr) (oj:Obj) (kvs:List (Int×Value)) (led led2:Bool) (T:Ns) (hv:v=.none) (sub:∀p∈N,p∈T) (hT:∀p∈T,p.1≠D) (hd:nX W0 oj kvs) (lo:(lj==cP)=false) (hB:yI ys kvs T) (nj:lj≠D) (nk:lk≠D) (np:lp≠D) (hτ:10≤n→τ = τ0) (hn:n'=SL W0 S D τ (dr (dr (dr d 7 (.ref lj)) 8 (.ref lk)) 9 (.ref lp)) 10 ((lp,dA led2)::(lk,dA led)::(lj,oj)::T))
theorem Jd:∀p∈a::b::x::T,p∈x::a::b::T:=λp hp=>by
 rcases ak.mp hp with h|hp
 .exact h▸zT (zH)
 .rcases ak.mp hp with h|hp
  .exact h▸zT (zT (zH))
  .rcases ak.mp hp with h|hp
   .exact h▸zH
   .exact zT (zT (zT hp))
theorem Pq:∀p∈x::a::b::T,p∈a::b::x::T:=λp hp=>Jd p (Jd p hp)
noncomputable def NX:PE:=sE (oL 5 7)
theorem Aj{c:Fm W0 (mS 5)}{m:Lo}{ys:List Int}{T:Ns}{lj:Addr}{oj:Obj}{kvs:List (Int×Value)}{bv:Value}{R:Re}(hs:m "self"=some (.ref S))(hb:m "b"=some bv)(hl:∀m M,m "b"=some bv→(∀p∈N,p∈M)→Ev c.cx m M NX (.int ys.length))(Y:ys.length≤32)(h0:d 0=.none)(h3:d 3=.bool true)(O:@Ne Nat S D)(h8:8≤n)(h10:n≤10)(sub:∀p∈N,p∈T)(hT:∀p∈T,p.1≠D)(hd:nX W0 oj kvs)(lo:(lj==cP)=false)(hB:yI ys kvs T)(nj:lj≠D)
  (hR:∀J lk led lp led2 m,lk≠D→lp≠D→(10≤n→J = τ)→R .next m (SL W0 S D J (dr (dr d 8 (.ref lk)) 9 (.ref lp)) 10 ((lp,dA led2)::(lk,dA led)::(lj,oj)::T))):cN c m (SL W0 S D τ d n ((lj,oj)::T)) ((mB 5).drop 3) R:=by
 refine tE nr 8 O (Ba cR) (λ_=>ao hs) ?_ h8 (by decide) h10;intro v n1 u;refine gL u λlk led H G U=>?_;clear u;subst H;subst G;have nk:@Ne Nat lk D:=aF (U _ (zT (zH)));refine(c9 ((lk,dA led)::(lj,oj)::T) Jd (zC ⟨nk,zC ⟨nj,hT⟩⟩) (λτ a1=>?_));refine tB (gM nr 0 (ao (bc hs)) (zH) (zT (zH)) h0 rfl (lx (ly h8))) ?_;refine dE (GV (ao cZ)) (λh=>bI h) λ_=>bQ ?_;refine tE nr 9 O (Ba cR) (λ_=>ao (bc (bc hs))) ?_ (kJ ..) (by decide) (mx h10);intro v n1 e;refine gL e λlp led2 B z l2=>?_;clear e;subst B;subst z;have np:@Ne Nat lp D:=aF (l2 _ (zT (zH)));refine(c9 ((lp,dA led2)::(lk,dA led)::(lj,oj)::T) Jd (zC ⟨np,zC ⟨nk,zC ⟨nj,hT⟩⟩⟩) (λτ a2=>?_));refine fx (hl _ _ (bc (bc (bc hb))) λp hp=>iA [_,_,_,_,_] (sub p hp)) λt=>?_;refine dE (fU (nq (gM nr 3 (ao (bc (bc (bc (bc hs))))) (zH) (zT (zH)) h3 rfl (lx (lx (ly h8))))) λ_=>fU (eJ Fw (ag cZ) bf) λ_=>iV) (λh=>?_) λ_=>bQ (cb ?_)
 .have:=of_decide_eq_true ((Bool.and_true _).symm.trans ((Bool.true_and _).symm.trans h))
  exact absurd this (Int.not_le.mpr (eZ (dt.mpr Y) (by decide)))
 .rw[show max (max n (8+1)) (9+1)=10 from MA (mx h10)]
  exact hR _ _ _ _ _ _ nk np λh=>(a2 (lx (ly h))).trans (a1 (ly h))
end
section
variable {τ:Nat→Tok}{d:Nat→Value}{N:Ns}{S D:Addr}{n:Nat}
inductive Pk(m:Lo)(S:Addr)(bv:Value)(lj:Addr):Prop
 | mk (z0:m "self"=some (.ref S)) (z1:m "b"=some bv) (z2:m "b2j"=some (.ref lj))
theorem Pk.up(h:Pk m S bv lj)(h1:("self" : Str)≠x)(h2:("b" : Str)≠x)(h3:("b2j" : Str)≠x):Pk (cj m x v) S bv lj:=⟨bc h.1 h1,bc h.2 h2,bc h.3 h3⟩
inductive RF(W0:World)(S D:Addr)(τ:Nat→Tok)(d:Nat→Value)(n:Nat)(bv:Value)(lj:Addr)(ys:List Int)(N:Ns)(i:Nat)(m:Lo)(n1:Ns):Prop
 | mk (o:Obj) (kvs:List (Int×Value)) (T:Ns) (hK:Pk m S bv lj) (hn:n1=(lj,o)::SL W0 S D τ d n T) (hd:nX W0 o kvs) (sub:∀p∈N,p∈T) (hj:∀p∈T,p.1≠lj) (hD:∀p∈T,p.1≠D) (hl:kvs.length≤i) (r1:∀k,k∉ys.take i→c7 kvs k=none) (r2:∀(j:Nat) (n:Int),j<i→ys[j]?=some n→∃(a:Addr) (t:Tok) (ep:Nat),c7 kvs n=some (.ref a)∧(a,listOf #[.int (j:Int) t] ep)∈T)
theorem FF(d1:@Ne Nat S D)(dN:∀p∈N,p.1≠D)(h7:7≤n)(h10:n≤10)(h0:d 0=.none)(h3:d 3=.bool true)(h2:d 2=bv)(ap:ys.length≤32)(ax:ys.Nodup)
  (hb:ys=[]∧(∃u,bv=.str "" u)∨∃lb vb ep,bv=.ref lb∧(lb,listOf vb.toArray ep)∈N∧au vb ys):fk W0 224 [.ref S] (SL W0 S D τ d n N) 1 3 (MR W0 S D n τ d ys N):=
 li (body:=mB 5) (scope:=mS 5) (binds:=[("self",.ref S)]) (by with_unfolding_all rfl) (by with_unfolding_all rfl) (λs X=>dG rfl) (sw rfl) rfl rfl rfl (by decide) λc hd hu=>by
  refine(?_:cN c _ _ (.Assign [.Name "b" _] (.Attribute (.Name "self" _) "b" _) _::.Assign [.Attribute (.Name "self" _) "b2j" _,.Name "b2j" _] (.Dict [] [] _) _::.For (.Tuple [.Name "i" _,.Name "elt" _] _ _) (.Call (.Name "enumerate" _) [.Name "b" _] [] _) [.Assign [.Name "indices" _] (.Call (.Attribute (.Name "b2j" _) "setdefault" _) [.Name "elt" _,.List [] _] [] _) _,.Expr (.Call (.Attribute (.Name "indices" _) "append" _) [.Name "i" _] [] _) _] [] _::(mB 5).drop 3) _)
  have hh:qQ bv=true:=by
   rcases hb with ⟨_,u,rfl⟩|⟨lb,vb,ep,rfl,_⟩<;>rfl
  refine tB (gM nr 2 (ao rfl) (zH) (zT (zH)) h2 hh (aO (by decide) h7)) ?_;refine tE nr 7 d1 oS (λ_=>ao rfl) ?_ h7 (by decide) h10;intro v n1 O;refine NC O λlj o aj ah ho lo l1=>?_;clear O;subst aj;subst ah;have nj:@Ne Nat lj D:=aF (l1 _ (zT (zH)));have nS:@Ne Nat S lj:=aB (l1 _ (zH));have jN:∀p∈N,p.1≠lj:=λp hp=>aB (l1 p (zT (zT hp)));refine(c9 ((lj,o)::N) Jd (zC ⟨nj,dN⟩) (λz a1=>?_))
  have hK:Pk (cj (cj (λy=>([("self",.ref S)]:List (Str×Value)).reverse.lookup y) "b" bv) "b2j" (.ref lj)) S bv lj:=⟨rfl,rfl,rfl⟩
  revert hK;generalize cj (cj (λy=>([("self",.ref S)]:List (Str×Value)).reverse.lookup y) "b" bv) "b2j" (.ref lj)=m;intro hK
  have done:(∀m M,m "b"=some bv→(∀p∈N,p∈M)→Ev c.cx m M NX (.int ys.length))→∀m n1,RF W0 S D z (dr d 7 (.ref lj)) (max n (7+1)) bv lj ys N ys.length m n1→cN c m n1 ((mB 5).drop 3) (λfl _ n'=>MR W0 S D n τ d ys N (x9 fl) n'):=by
   rintro hl m n1 ⟨o,kvs,T,hK,rfl,hd,sub,hj,hD,_,r1,r2⟩;rw[cT] at r1
   have hB:yI ys kvs T:=⟨r1,λj n hj=>r2 j n (mM hj) hj⟩
   exact cO (Aj (n:=max n (7+1)) (d:=dr d 7 (.ref lj)) (τ:=z) hK.1 hK.2 hl ap h0 h3 d1 (kJ ..) (Nat.max_le.mpr ⟨h10,by decide⟩) sub hD hd lo hB nj λaM lk led lp led2 m nk np a2=>⟨aM,lj,lk,lp,o,kvs,led,led2,T,rfl,sub,hD,hd,lo,hB,nj,nk,np,λh=>(a2 (aw h (xp ..))).trans (a1 (aO (by decide) h)),rfl⟩) Jd
  rcases hb with ⟨rfl,u,rfl⟩|⟨lb,vb,ep,rfl,ar,hI⟩
  .refine Cb cR (ao hK.2) (cO (done (λm M hm _=>H5 cR (ao hm)) m _ ⟨o,[],N,hK,rfl,ho,λ_ h=>h,jN,dN,aS _,λ_ _=>rfl,λ_ _ h=>nomatch h⟩) Pq)
  .have aD:=gF (lj,o) (gF (S,c8 278 D) (gF (D,SO W0 z (dr d 7 (.ref lj)) (max n (7+1))) ar))
   refine cO ?_ Pq;refine E4 cR (ao hK.2) aD hI (λi m n1=>RF W0 S D z (dr d 7 (.ref lj)) (max n (7+1)) (.ref lb) lj ys N i m n1) (λI hI=>?_) ?_ (done λm M hm hs=>?_)
   .exact⟨o,[],N,hK,rfl,ho,λ_ h=>h,jN,dN,aS _,λ_ _=>rfl,λ_ _ h=>nomatch h⟩
   .rintro i x t t2 m1 n1 I o1 o2 hx a7 ⟨o,kvs,T,hK,rfl,hd,sub,hj,hD,hl,r1,r2⟩ B
    have hv:c7 kvs x=none:=r1 x (qx ax hx);have a0:=mM hx
    have U:=(B (lj,o) (zH))
    have a5:=λp (hp:p∈T)=>B p (zT (zT (zT hp)));refine cO (n':=(lj,o)::(I+1,o1)::(I,o2)::SL W0 S D z (dr d 7 (.ref lj)) (max n (7+1)) T) ?_ Pq;refine dL (Cf (ao (bc (bc hK.3))) (ag cZ) (zC ⟨U.2.symm,zC ⟨U.1.symm,zC ⟨nS,zC ⟨nj.symm,hj⟩⟩⟩⟩) hd lo hv (aw hl (aw (aN (aO a0 ap)) (by decide)))) ?_;intro v n2 J;refine hZ J λa o' ab aa a4 la=>?_;clear J;subst ab;subst aa;have ka:=((hK.up (x:="i") (v:=.int (i:Int) t) (by decide) (by decide) (by decide)).up (x:="elt") (v:=.int x t2) (by decide) (by decide) (by decide)).up (x:="indices") (v:=.ref a) (by decide) (by decide) (by decide);have fa:∀p∈(lj,o')::(I+1,o1)::(I,o2)::SL W0 S D z (dr d 7 (.ref lj)) (max n (7+1)) T,p.1≠a:=zC ⟨aB (la (lj,o) (zH)),λp hp=>aB (la p (zT hp))⟩;refine gO (vs:=[]) (ao cZ) (zH) (iM (ag (bc (bc cZ)))) (by decide) ?_;intro v n3 H;refine b8 H λG Y=>?_;clear H;refine cp G λu as=>?_
    try clear G
    subst as;subst Y;refine(db _ (.head fa) (cb (eP (zT (zT (zH))) (zT (zT (zT (zH)))) ⟨(lj,o')::SL W0 S D z (dr d 7 (.ref lj)) (max n (7+1)) ((a,listOf [eY (i:Int) u].toArray 1)::T),?_,?_,⟨o',_,_,ka,rfl,a4,?_,?_,?_,?_,?_,?_⟩⟩)))
    .refine zC ⟨(eP (zT (zH)) U.2 U.1),zC ⟨⟨zT (zT (zT (zT (zH)))),(B (S,_) (zT (zH))).symm⟩,zC ⟨⟨zT (zT (zT (zT (zT (zH))))),(B (D,_) (zT (zT (zH)))).symm⟩,zC ⟨(eP (zH) ((fa (I+1,o1) (zT (zH))).symm) ((fa (I,o2) (zT (zT (zH)))).symm)),λp hp=>⟨zT (zT (zT (zT (zT (zT hp))))),(a5 p hp).symm⟩⟩⟩⟩⟩
    .exact zT (zT (zT (zT (sub _ ar))))
    .exact λp hp=>zT (sub p hp)
    .exact zC ⟨(fa _ (zH)).symm,hj⟩
    .exact zC ⟨(fa _ (zT (zT (zT (zT (zH)))))).symm,hD⟩
    .exact aw qu (g6 hl)
    .intro k hk
     rw[gH,if_neg (ki hx hk)];exact r1 k (lZ hk)
    .intro j q hj hq
     rw[gH]
     by_cases e:j=i
     .subst e
      rw[hx] at hq;rw[if_pos (cS hq).symm];exact(La _ _ _ rfl (zH))
     .have aQ:q≠x:=by
       rintro rfl;exact e ((tX (mM hq) ax).mp (hq.trans hx.symm))
      rw[if_neg aQ];refine Ny (r2 j q (nc (nM hj) e) hq) λa' t' a6 x1 x2=>?_;exact(La a' t' a6 x1 (zT x2))
   .rw[← hI.length]
    exact kz cR (ao hm) (hs _ ar) (aw (fz hI.length) (aw ap (by decide)))
end
section
variable {τ:Nat→Tok}{d:Nat→Value}{N:Ns}{S D:Addr}
noncomputable def Ji(d:Nat→Value)(av bv:Value):Nat→Value:=dr (dr (dr (dr (dr (dr (dr d 1 av) 4 .none) 5 .none) 2 bv) 4 .none) 5 .none) 6 .none
theorem Oo(h:b=.none):Jv M (.str "" u) b false:=h▸.other rfl (λe=>nomatch e)
theorem OC(h:b=.none):qQ b=true:=h▸rfl
theorem Hf(Y:@Ne Nat S D)(U:∀p∈N,p.1≠D)(h0:d 0=.none)(h1:d 1=.none)(h2:d 2=.none)(h3:d 3=.bool true):
  fk W0 203 [.ref S,.str "" J,.str "" O] (SL W0 S D τ d 4 N) 3 10 (λv n'=>v=.none∧∃n0 τ0 u,MR W0 S D n0 τ0 (Ji d (.str "" J) (.str "" O)) [] N u n'):=
 li (body:=mB 2) (scope:=mS 2) (binds:=[("self",.ref S),("a",.str "" J),("b",.str "" O)]) (by with_unfolding_all rfl) (by with_unfolding_all rfl) (λs X=>dG rfl) (sw rfl) rfl rfl rfl (by decide) λc hd hu=>by
  refine g9 ?_;refine oP (pI (Dx (same:=false) Y U (by decide) (by decide) (OC h1) (Oo h1)) (ao rfl) (.cons (ao rfl) .nil) (zH) (zT (zH)) (iC λi hi=>nJ (by decide) (aP hi (by decide))) (dl hd) (dl hu) rfl) ?_;intro v n' G;refine b8 G λ_ B=>?_;clear G;refine fN B λaa _ H=>?_
  try clear B
  subst H;refine oP (pI (Dw (n:=6) (dp:=1) (un:=3) (P:=λτ=>MR W0 S D _ τ _ [] N) (d:=dr (dr (dr d 1 (.str "" J)) 4 .none) 5 .none) (by decide) (by decide) Y U (by decide) (by decide) (OC h2) (Oo h2) λτ _=>FF (ys:=[]) (τ:=τ) (d:=dr (dr (dr (dr (dr (dr (dr d 1 (.str "" J)) 4 .none) 5 .none) 2 (.str "" O)) 4 .none) 5 .none) 6 .none) (n:=max (max (max (max 6 3) 5) 6) 7) Y U (by decide) (by decide) h0 h3 rfl (by decide) List.nodup_nil (.inl ⟨rfl,_,rfl⟩)) (ao rfl) (.cons (ao rfl) .nil) (zH) (zT (zH)) (iC (n:=6) λi hi=>nJ (by decide) (aP hi (by decide))) (dl hd) (dl hu) rfl) ?_;intro v n' z;refine b8 z λ_ e=>?_;clear z;refine pU e λ_ u _ hp=>?_
  try clear e
  exact cb ⟨rfl,_,_,u,hp⟩
theorem Nl:fk W0 278 [] n 6 20 (λv n'=>∃S D O J n0 τ0 u,v=.ref S∧(∀p∈n,@aR Nat _ p.1 S)∧(∀p∈n,@aR Nat _ p.1 D)∧@Ne Nat S D∧MR W0 S D n0 τ0 (Ji (dr (dr (dr (dr (λ_=>.none) 0 .none) 1 .none) 2 .none) 3 (.bool true)) (.str "" O) (.str "" J)) [] n u n'):=by
 refine OR (body:=mB 1) (scope:=mS 1) (fI:=196) (dp:=4) (un:=14) (binds:=λx=>[("self",.ref x),("isjunk",.none),("a",.str "" _),("b",.str "" _),("autojunk",.bool true)]) (by with_unfolding_all rfl) (by with_unfolding_all rfl) (by with_unfolding_all rfl) (by with_unfolding_all rfl) (by with_unfolding_all rfl) (λx s X=>pQ X rfl (by with_unfolding_all rfl) rfl rfl rfl) (λx=>sw rfl) rfl rfl rfl (by decide) λx d H l2 c hd hu=>?_;have B:@Ne Nat x d:=aF H;have G:∀p∈n,p.1≠d:=λp hp=>aB (l2 p hp);refine(?_:cN c _ (SL W0 x d (λ_=>0) (λ_=>.none) 0 n) (.Expr (.Constant (.str _) _ _) _::.Assign [.Attribute _ "isjunk" _] (.Name "isjunk" _) _::.Assign [.Attribute _ _ _,.Attribute _ _ _] _ _::.Assign [.Attribute _ "autojunk" _] (.Name "autojunk" _) _::.Expr (.Call (.Attribute (.Name "self" _) "set_seqs" _) [.Name "a" _,.Name "b" _] [] _) _::[]) _);refine g9 (uL nr 0 B G (ao rfl) (ao rfl) λτ _=>?_);refine wP nr 1 2 B G gP (λ_=>ao rfl) (λ_=>ao rfl) λτ _=>?_;refine uL nr 3 B G (ao rfl) (ao rfl) λτ _=>?_;refine oP (pI (Hf B G rfl rfl rfl rfl) (ao rfl) (.cons (ao rfl) (.cons (ao rfl) .nil)) (zH) (zT (zH)) (iC λi hi=>nJ (by decide) (aP hi (by decide))) (dl hd) (dl hu) rfl) ?_;intro v n' z;refine b8 z λ_ e=>?_;clear z;refine Qg e λn0 τ0 u hp=>?_
 try clear e
 exact cb ⟨rfl,x,d,_,_,n0,τ0,u,rfl,λp hp=>aP (l2 p hp) H,l2,B,hp⟩
end
section
variable {cs:Scope}{c:Fm W0 cs}{sc:Scope}{k:Cx c sc}{m:Lo}{n:Ns}{R:Re}{rest:List Stmt}{d:Addr}{o:Obj}{kvs:List (Int×Value)}
theorem ze{pos wh}(hl:Ev k m n l (.val .none))(hr:Ev k m n r (.val .none))(hm:autoParam (eR .Is r=false) zAc):Tw k m n (.Compare l [.Is] [r] pos) wh true:=
 ⟨λ_ s hi hq=>bY (hl.run _ s hi λv s1 hv h1=>hr.run _ s1 h1 λv2 s2 e h2=>by
  cases hv;cases e
  exact wpAny_is_self rfl (aY (hq _ h2))) hm⟩
inductive L7(o:Obj)(n:Ns):Value→Ns→Prop
 | mk (D:Addr) (h:∀q∈n,@aR Nat _ q.1 D):L7 o n (.ref D) ((D,o)::n)
theorem Ik(he:Ev k m n e (.val (.ref d)))(hm:(d,o)∈n)(hd:nX W0 o kvs)
  (ha:autoParam (eval (.Attribute e "__contains__" pos) k.env=(do
   let o ← eval e k.env
   gc pos.atName
   let r ← gr [o] (jO o "__contains__" true)
   eX e o r
   ck r)) zAc):Er k m n (.Attribute e "__contains__" pos) (L7 (cg "dict.__contains__" (.ref d)) n):=
 ⟨λQ s hi hq=>og (he.run _ s hi λv s1 u i1=>by
  cases u;obtain ⟨m0,ex,F,N,cl⟩:=qw k i1
  exact O3 F N (zR hm) hd λq h' B z l=>hq _ _ _ (.mk q λp hp=>l p (zR hp)) (cl h' (s1.toks+1) q _ B z)) ha⟩
theorem B6{e1 e2:PE}{k kk:Nat}{z:List PE}{u e pos:Pos}{i2:Int}{H G:Str}{P:Value→Ns→Prop}(h1:Er c.cx m n e1 P)(h2:∀v n',P v n'→Ev c.cx m n' e2 (.int i2))
  (h:∀v n' t2,P v n'→cN c (cj (cj m G (.int i2 t2)) H v) n' rest R)
  (hs:autoParam (lV [.Tuple z k u] (.Tuple [e1,e2] kk e) pos.line c.env=ck false) zAa)
  (hw:autoParam (fW [.Tuple z k u] (.Tuple [e1,e2] kk e) c.env=ck (some [H,G])) zAa)
  (q1:autoParam (∀r,SE c.env e1 r) zAb) (q2:autoParam (∀r,SE c.env e2 r) zAb)
  (k1:autoParam (c.env.kindOf H=some .local) zAa) (k2:autoParam (c.env.kindOf G=some .local) zAa):
  cN c m n (.Assign [.Tuple z k u] (.Tuple [e1,e2] kk e) pos::rest) R:=
 bL ⟨λQ s hi hq=>sY (names:=[H,G]) (vM (aI (h1.run _ s hi λv1 n1 s0 U i0=>aI ((h2 v1 n1 U).run _ s0 i0 λv2 s1 d2 B=>bK (by
  obtain ⟨t2,rfl⟩:=d2;refine iF B.at.1 B.at.2 (λD h' F' Y hl=>?_) (by decide:(2:Nat)≤ec);have O:=B.to (tk:=s1.toks) F' Y;refine Gj F' Y (is_tup O (zH)) rfl rfl λh2 F2 N2=>?_;have J:=B.to (tk:=s1.toks) F2 (cm N2 λp hp=>zT hp);refine be (qT (du J (λs4 i4=>?_) k2));refine be (qT (du i4 (λs5 i5=>?_) k1))
  exact fE (hq .next _ _ _ (h v1 n1 t2 U) i5))) (q2 _)) (q1 _))) hs hw⟩
end
structure hH(W0:World)(f:Addr)(args:List Value)(kws:List (Str×Value))(n:Ns)(dp un:Nat)(P:Value→Ns→Prop):Prop where
 run:∀{gp:Program}{gl:List Str}{mean:ExcName→Option Value}{mg mb:Lo}{dp0 un0:Nat}{gd:Option (List sU)}{cn:Str}{cs:Scope}{a:Addr}{ccd:Value}{cl:List (Str×Addr)}{outer:List Env}{A₀:Around}{base h₀:Heap}{L:Addr}{m:Lo}{s:Shared}{Q E:VP},
  qU A₀ base outer h₀→Fr h₀ L s.heap m→(K1 W0).In h₀→ba h₀ L s.heap n→Top gp gl mean mg mb h₀→cs.kind=.function→dp0+dp<aH→un0+un<cX→
  (∀v n' h' tk',P v n'→Fr h₀ L h' m→ba h₀ L h' n'→Q v {s with heap:=h',toks:=tk'})→aA (aq P0 W0) (ij dp0 un0 gd cn cs L a ccd cl outer) (call (.ref f) args kws) Q E s
theorem tG{f:Addr}{args:List Value}{kws:List (Str×Value)}{n:Ns}{dp un:Nat}{P:Value→Ns→Prop}{name qual:Str}{params:ke}{body:List Stmt}{scope:Scope}{dV kV doc pm z ct oc:Value}{an od:Option Addr}{O:Array (Option Value)}{binds:List (Str×Value)}
  (ho:(K1 W0).lookup f=some ⟨oc,od,.func (Ms name qual params body scope dV kV doc pm an z ct),O⟩) (ah:codeIn (K1 W0) z qual=true)
  (u:∀s:Shared,(K1 W0).In s.heap→IY s (Ms name qual params body scope dV kV doc pm an z ct) ⟨args,kws⟩ binds) (G:∀y∈binds,scope.names.lookup y.1=some .local) (ab:scope.isCoroutine=false) (H:scope.isGenerator=false) (hk:scope.kind=.function) (e:∀x∈scope.names,x.2≠.cell)
  (h:∀c:Fm W0 scope,c.dp+dp<aH→c.un+un<cX→cN c (λy=>binds.reverse.lookup y) n body (λJ _ n'=>P (x9 J) n')):hH W0 f args kws n (dp+1) (un+3) P:=
 ⟨λ{_ _ _ _ _ dp0 un0 _ _ _ _ _ _ _ _ _ _ _ _ _ _ _} B F X N T Y hd hu hq=>eG (xe B F X N T rfl rfl Y ho ah (C3 hd) (u _ (X.keeps F.keep)) G (λg L' aj FG F' N' B' X' T'=>by
  refine uG (cs:=scope) B' F' X' N' T' hk (by passes_own) (λJ _ n'=>P (x9 J) n') (λc aa U=>h c (by rw[aa];simp only;lia) (by rw[U];simp only;lia)) ?_;intro J m' n' h' tk hP F2 N2
  exact tS F2 N2 λkF kN=>hq _ _ _ _ hP kF kN) ab H hk e)⟩
theorem hH.mono{f:Addr}{args:List Value}{kws:List (Str×Value)}{n:Ns}{dp un:Nat}{P P':Value→Ns→Prop}(h:hH W0 f args kws n dp un P)(hp:∀v n',P v n'→P' v n'):hH W0 f args kws n dp un P':=⟨λB F X N T hk hd hu hq=>h.run B F X N T hk hd hu λv n' h' tk' p u e=>hq v n' h' tk' (hp v n' p) u e⟩
theorem hH.sub{f:Addr}{args:List Value}{kws:List (Str×Value)}{n n2:Ns}{dp un:Nat}{P:Value→Ns→Prop}(h:hH W0 f args kws n dp un P)(s:∀p∈n,p∈n2):hH W0 f args kws n2 dp un P:=⟨λB F X N T hk hd hu hq=>h.run B F X (cm N s) T hk hd hu hq⟩
section
variable {cs:Scope}{c:Fm W0 cs}{sc:Scope}{k:Cx c sc}{m:Lo}{n:Ns}{R:Re}{rest:List Stmt}
theorem Dk{l:PE}{kk:Nat}{pos e:Pos}{wh}{P:Value→Ns→Prop}(he:Er k m n l P)(hp:∀v n',P v n'→v=.none)(hm:autoParam (eR .IsNot (.Constant .none kk e)=false) zAc):An k m n (.Compare l [.IsNot] [.Constant .none kk e] pos) wh (λb n'=>b=false∧P .none n'):=
 ⟨λ_ s hi hq=>bY (he.run _ s hi λv n1 s1 h1 i1=>MS (by
  cases hp _ _ h1
  exact wpAny_isNot_self rfl (aY (hq _ _ _ ⟨rfl,h1⟩ i1)))) hm⟩
theorem wm{x z:Str}{e1 e2 e3:PE}{kp pos p:Pos}{fa:Addr}{v1:Value}{a2:Bq}{dp un:Nat}{P3 P:Value→Ns→Prop}(hf:Ev c.cx m n (.Name x p) (.val (.ref fa)))(h1:Ev c.cx m n e1 (.val v1))(h2:Ev c.cx m n e2 a2)(h3:Er c.cx m n e3 P3)(hkp:lB (K1 W0) (.ref fa)=true)(hd:c.dp+dp<aH)(hu:c.un+un<cX)
  (hC:∀v2 u n',a2.den v2→P3 u n'→hH W0 fa [v1,v2] [(z,u)] n' dp un P)
  (c2:autoParam (SE c.env e1 [e2]) zAa) (c3:autoParam (SE c.env e2 []) zAa):Er c.cx m n (.Call (.Name x p) [e1,e2] [⟨some z,e3,kp⟩] pos) P:=
 ⟨λQ s hi hQ=>vD (hf.run _ s hi λv s1 J i1=>by
  cases J;refine callWith_KW c.X hkp rfl ?_ (by refine(?_:((fj pos (bW [e1,e2] c.env)).any (·.1)||_)=false);rw[c2,c3];rfl) c2;refine aI (h1.run _ s1 i1 λw1 s2 d2 i2=>aI (h2.run _ s2 i2 λw2 G H i3=>bK ?_) c3) c2;cases d2;refine kwAll_cons (h3.run _ G i3 λw3 n' Y h4 e=>kwAll_nil ⟨c.X.keeps e.at.1.keep,?_⟩)
  exact(hC _ _ _ H h4).run c.B e.at.1 c.X e.at.2 c.T c.hk hd hu λv n' h' tk' hp U O=>hQ _ _ _ hp (e.to U O))⟩
end
section
variable {n newsK:Ns}{al kl:Addr}{va:List Value}{xs:List Int}{ep:Nat}{KV:Int→Value→Prop}{g:Int→Bool}{xv:Value}{oc:Value}{od:Option Addr}{fd:FuncData}{sl:Array (Option Value)}{t1:Tok}
inductive yH(r:Nat)(n:Ns):Value→Ns→Prop
 | mk (t:Tok):yH r n (.int (r:Int) t) n
theorem Bl{c:Fm W0 Rp}{m:Lo}(hd:c.dp+3<aH)(hu:c.un+40<cX)(G:f8 W0 kl newsK KV)(H:yG KV xv g)(hm:∀p∈newsK,p∈n)(Y:(kl,(⟨oc,od,.func fd,sl⟩:Obj))∈n)(J:(al,listOf va.toArray ep)∈n)(U:au va xs)(B:xs.length≤4)(O:∀t∈xs,0≤t∧t<4)(hK:w7 m al kl xv)(u:m "lo"=some (.int 0 t1))(z:m "hi"=some .none):
  cN c m n (vg P0.main.body 19) (λfl _ n'=>yH (fS g xs xs.length 0 xs.length) n (x9 fl) n'):=by
 refine(?_:cN c m _ (.Expr (.Constant (.str _) _ _) _::.If (.Compare (.Name "lo" _) [.Lt] [.Constant (.int 0) _ _] _) _ [] _::.If (.Compare (.Name "hi" _) [.Is] [.Constant .none _ _] _) [.Assign [.Name "hi" _] (.Call (.Name "len" _) [.Name "a" _] [] _) _] [] _::.If (.Compare (.Name "key" _) [.Is] [.Constant .none _ _] _) _ Rn _::.Return (some (.Name "lo" _)) _::[]) _);refine g9 (dE (eJ lh (ag u) bf) (λh=>by cases h) λ_=>bQ (dE (ze (ao z) gP) (λ_=>fx (qF cR (ao hK.1) J (by rw[U.length];exact r8 B rfl)) λt=>cb ?_) (λh=>bI h)));have hK:=hK.up (x:="hi") (v:=.int (va.length:Nat) t) (by decide);have u:=lY (x:="hi") (v:=.int (va.length:Nat) t) u (by decide)
 have z:cj m "hi" (.int (va.length:Nat) t) "hi"=some (.int (xs.length:Nat) t):=by rw[← U.length];rfl
 generalize cj m "hi" (.int (va.length:Nat) t)=m at hK u z;refine dE (oz (ao hK.2.1) gP (.other rfl (λe=>nomatch e))) (λh=>bI h) λ_=>lg (QL hd hu G H hm Y J U B O hK u z) ?_;rintro f m' n' ⟨rfl,rfl,t,ht⟩
 exact pG (ao ht) λv h=>by cases h;exact⟨t⟩
theorem Iw{c:Fm W0 Rm}{m:Lo}(hd:c.dp+3<aH)(hu:c.un+40<cX)(G:f8 W0 kl newsK KV)(H:CA KV xv g)(hm:∀p∈newsK,p∈n)(Y:(kl,(⟨oc,od,.func fd,sl⟩:Obj))∈n)(J:(al,listOf va.toArray ep)∈n)(U:au va xs)(B:xs.length≤4)(O:∀t∈xs,0≤t∧t<4)(hK:w7 m al kl xv)(u:m "lo"=some (.int 0 t1))(z:m "hi"=some .none):
  cN c m n (vg P0.main.body 16) (λfl _ n'=>yH (fS g xs xs.length 0 xs.length) n (x9 fl) n'):=by
 refine(?_:cN c m _ (.Expr (.Constant (.str _) _ _) _::.If (.Compare (.Name "lo" _) [.Lt] [.Constant (.int 0) _ _] _) _ [] _::.If (.Compare (.Name "hi" _) [.Is] [.Constant .none _ _] _) [.Assign [.Name "hi" _] (.Call (.Name "len" _) [.Name "a" _] [] _) _] [] _::.If (.Compare (.Name "key" _) [.Is] [.Constant .none _ _] _) _ Rl _::.Return (some (.Name "lo" _)) _::[]) _);refine g9 (dE (eJ lh (ag u) bf) (λh=>by cases h) λ_=>bQ (dE (ze (ao z) gP) (λ_=>fx (qF cR (ao hK.1) J (by rw[U.length];exact r8 B rfl)) λt=>cb ?_) (λh=>bI h)));have hK:=hK.up (x:="hi") (v:=.int (va.length:Nat) t) (by decide);have u:=lY (x:="hi") (v:=.int (va.length:Nat) t) u (by decide)
 have z:cj m "hi" (.int (va.length:Nat) t) "hi"=some (.int (xs.length:Nat) t):=by rw[← U.length];rfl
 generalize cj m "hi" (.int (va.length:Nat) t)=m at hK u z;refine dE (oz (ao hK.2.1) gP (.other rfl (λe=>nomatch e))) (λh=>bI h) λ_=>lg (QJ hd hu G H hm Y J U B O hK u z) ?_;rintro f m' n' ⟨rfl,rfl,t,ht⟩
 exact pG (ao ht) λv h=>by cases h;exact⟨t⟩
theorem O1(e:f8 W0 kl newsK KV)(u:yG KV xv g)(hm:∀p∈newsK,p∈n)(G:(kl,(⟨oc,od,.func fd,sl⟩:Obj))∈n)(H:(al,listOf va.toArray ep)∈n)(J:au va xs)(z:xs.length≤4)(B:∀t∈xs,0≤t∧t<4):hH W0 342 [.ref al,xv] [(ae "key",.ref kl)] n 4 43 (yH (fS g xs xs.length 0 xs.length) n):=
 tG (binds:=[("a",.ref al),("x",xv),("lo",.int 0 853),("hi",.none),("key",.ref kl)]) (by with_unfolding_all rfl) (by with_unfolding_all rfl) (λs X=>pQ X rfl (by with_unfolding_all rfl) rfl rfl rfl) (sw rfl) rfl rfl rfl (by decide) λc hd hu=>Bl hd hu e u hm G H J z B ⟨rfl,rfl,rfl⟩ rfl rfl
theorem LP(e:f8 W0 kl newsK KV)(u:yG KV xv g)(hm:∀p∈newsK,p∈n)(G:(kl,(⟨oc,od,.func fd,sl⟩:Obj))∈n)(H:(al,listOf va.toArray ep)∈n)(J:au va xs)(z:xs.length≤4)(B:∀t∈xs,0≤t∧t<4):hH W0 342 [.ref al,xv,.int 0 t1,.none] [(ae "key",.ref kl)] n 4 43 (yH (fS g xs xs.length 0 xs.length) n):=
 tG (binds:=[("a",.ref al),("x",xv),("lo",.int 0 t1),("hi",.none),("key",.ref kl)]) (by with_unfolding_all rfl) (by with_unfolding_all rfl) (λs X=>pQ X rfl (by with_unfolding_all rfl) rfl rfl rfl) (sw rfl) rfl rfl rfl (by decide) λc hd hu=>Bl hd hu e u hm G H J z B ⟨rfl,rfl,rfl⟩ rfl rfl
theorem Jo(e:f8 W0 kl newsK KV)(u:CA KV xv g)(hm:∀p∈newsK,p∈n)(G:(kl,(⟨oc,od,.func fd,sl⟩:Obj))∈n)(H:(al,listOf va.toArray ep)∈n)(J:au va xs)(z:xs.length≤4)(B:∀t∈xs,0≤t∧t<4):hH W0 324 [.ref al,xv] [(ae "key",.ref kl)] n 4 43 (yH (fS g xs xs.length 0 xs.length) n):=
 tG (binds:=[("a",.ref al),("x",xv),("lo",.int 0 823),("hi",.none),("key",.ref kl)]) (by with_unfolding_all rfl) (by with_unfolding_all rfl) (λs X=>pQ X rfl (by with_unfolding_all rfl) rfl rfl rfl) (sw rfl) rfl rfl rfl (by decide) λc hd hu=>Iw hd hu e u hm G H J z B ⟨rfl,rfl,rfl⟩ rfl rfl
theorem Lw{cs:Scope}{c:Fm W0 cs}{m:Lo}{f e:PE}{pos:Pos}{t:Int}(hd:c.dp+3<aH)(hu:c.un+40<cX)(z:f8 W0 kl newsK KV)(hm:∀p∈newsK,p∈n)(u:(kl,(⟨oc,od,.func fd,sl⟩:Obj))∈n)(h0:0≤t)(h4:t<4)(hf:Ev c.cx m n f (.val (.ref kl)))(he:Ev c.cx m n e (.int t))
  (c1:autoParam (CC c.env f [e] pos) zAa) (c2:autoParam (SE c.env e []) zAa):Er c.cx m n (.Call f [e] [] pos) (λv n'=>KV t v∧n'=n):=
 ⟨λQ s hi hq=>gu (hf.run _ s hi λv s1 H i1=>by
  cases H;refine callWith_F (xg i1.at.2 u) (aI (he.run _ s1 i1 λv2 s2 d2 i2=>bK ?_) c2) c2;obtain ⟨t2,rfl⟩:=d2;refine⟨xg i2.at.2 u,?_⟩
  exact z _ _ _ _ _ _ _ _ _ _ _ _ _ _ _ _ _ _ _ _ _ _ _ _ _ c.B i2.at.1 c.X i2.at.2 c.T c.hk hd hu hm h0 h4 λU h3 G hv O J=>hq _ _ _ ⟨hv,rfl⟩ (i2.to O J)) c1⟩
theorem Cj{cs:Scope}{c:Fm W0 cs}{m:Lo}{x H:Str}{e1 e2 e3 e4 e5:PE}{kp pos p:Pos}{fa:Addr}{v1 v4 z:Value}{a3:Bq}{dp un:Nat}{P2 P:Value→Ns→Prop}(hf:Ev c.cx m n (.Name x p) (.val (.ref fa)))(h1:Ev c.cx m n e1 (.val v1))(h2:Er c.cx m n e2 P2)(h3:∀n',Ev c.cx m n' e3 a3)(h4:∀n',Ev c.cx m n' e4 (.val v4))(h5:∀n',Ev c.cx m n' e5 (.val z))(hkp:lB (K1 W0) (.ref fa)=true)(hd:c.dp+dp<aH)(hu:c.un+un<cX)
  (hC:∀v2 G n',P2 v2 n'→a3.den G→hH W0 fa [v1,v2,G,v4] [(H,z)] n' dp un P)
  (c2:autoParam (SE c.env e1 [e2,e3,e4]) zAa) (c3:autoParam (SE c.env e2 [e3,e4]) zAa) (c4:autoParam (SE c.env e3 [e4]) zAa) (J:autoParam (SE c.env e4 []) zAa):Er c.cx m n (.Call (.Name x p) [e1,e2,e3,e4] [⟨some H,e5,kp⟩] pos) P:=
 ⟨λQ s hi hQ=>vD (hf.run _ s hi λv s1 d1 i1=>by
  cases d1;refine callWith_KW c.X hkp rfl ?_ (by refine(?_:((fj pos (bW [e1,e2,e3,e4] c.env)).any (·.1)||_)=false);rw[c2,c3,c4,J];rfl) c2;refine aI (h1.run _ s1 i1 λw1 s2 d2 i2=>aI (h2.run _ s2 i2 λw2 n2 Y u i3=>aI ((h3 n2).run _ Y i3 λw3 U d4 i4=>aI ((h4 n2).run _ U i4 λw4 O d5 i5=>bK ?_) J) c4) c3) c2;cases d2;cases d5;refine kwAll_cons ((h5 n2).run _ O i5 λw5 s6 d6 e=>kwAll_nil ⟨c.X.keeps e.at.1.keep,?_⟩);cases d6
  exact(hC _ _ _ u d4).run c.B e.at.1 c.X e.at.2 c.T c.hk hd hu λv n' h' tk' hp F' N'=>hQ _ _ _ hp (e.to F' N'))⟩
inductive Pd(al:Addr)(xs:List Int)(n:Ns)(n':Ns):Prop
 | mk (va2:List Value) (ep2:Nat) (h:au va2 xs) (hn:n'=(al,listOf va2.toArray ep2)::n):Pd al xs n n'
theorem K7{x:Int}{tx:Tok}(O:au va xs)(z:xs.length≤4)(J:∀t∈xs,0≤t∧t<4)(h0:0≤x)(h4:x<4)(ha:∀p∈n,p.1≠al)(hm:∀p∈newsK,p∈n)(B:(kl,(⟨oc,od,.func fd,sl⟩:Obj))∈n)(u:f8 W0 kl newsK KV)(G:∀v,KV x v→yG KV v g):hH W0 333 [.ref al,.int x tx] [(ae "key",.ref kl)] ((al,listOf va.toArray ep)::n) 5 46 (λv n'=>v=.none∧Pd al (uF xs (fS g xs xs.length 0 xs.length) x) n n'):=
 tG (body:=vg P0.main.body 18) (scope:=tw P0.main.body 18) (binds:=[("a",.ref al),("x",.int x tx),("lo",.int 0 839),("hi",.none),("key",.ref kl)]) (by with_unfolding_all rfl) (by with_unfolding_all rfl) (λs X=>pQ X rfl (by with_unfolding_all rfl) rfl rfl rfl) (sw rfl) rfl rfl rfl (by decide) λc hd hu=>by
  refine(?_:cN c _ _ (.Expr (.Constant (.str _) _ _) _::.If (.Compare (.Name "key" _) [.Is] [.Constant .none _ _] _) _ [.Assign [.Name "lo" _] (.Call (.Name _ _) [.Name "a" _,.Call (.Name "key" _) [.Name "x" _] [] _,.Name "lo" _,.Name "hi" _] [⟨some _,.Name "key" _,_⟩] _) _] _::.Expr (.Call (.Attribute (.Name "a" _) "insert" _) [.Name "lo" _,.Name "x" _] [] _) _::[]) _);refine g9 (dE (oz (ao rfl) gP (.other rfl (λe=>nomatch e))) (λh=>bI h) λ_=>?_);refine dL (P:=yH (fS g xs xs.length 0 xs.length) ((al,listOf va.toArray ep)::n)) (Cj (a3:=.int 0) fV (ao rfl) (Lw (n:=(al,listOf va.toArray ep)::n) (zE hd (bR true)) (zE hu (bR true)) u (λp hp=>bk 1 (hm p hp)) (bk 1 B) h0 h4 (ao rfl) (ag rfl)) (λ_=>ag rfl) (λ_=>ao rfl) (λ_=>ao rfl) (by with_unfolding_all rfl) hd hu λv2 U n' h2 h3=>?_) λv n' h=>?_
  .obtain ⟨hv,rfl⟩:=h2
   obtain ⟨t3,rfl⟩:=h3;exact LP u (G v2 hv) (λp hp=>bk 1 (hm p hp)) (bk 1 B) (a8 0 rfl) O z J
  obtain ⟨t⟩:=h;refine bQ (bL ⟨λQ s hi hq=>ii (iz ((ao (k:=c.cx) (v:=.ref al) rfl).run _ s hi λv s1 d1 i1=>?_) (by rfl)) (by rfl) (by rfl)⟩);cases d1;refine kl_method i1.at.2 (a8 0 rfl) PySem.F.slot_list_insert PySem.F.type_list_insert (lK (aI ((ao (k:=c.cx) (v:=.int (fS g xs xs.length 0 xs.length:Nat) t) rfl).run _ s1 i1 λv2 s2 d2 i2=>aI ((ao (k:=c.cx) (v:=.int x tx) rfl).run _ s2 i2 λU Y d3 i3=>bK ?_) (by rfl)) (by rfl)) (by rfl));cases d2;cases d3;have H:=rC (f:=g) (xs:=xs) xs.length 0 xs.length (cr _);exact kl_insert i3.at.1 i3.at.2 (EW (aw H z)) rfl (.head ha) (by refine(?_:va.length≤_);rw[x7 O];exact aw z (by decide)) λh8 F8 N8=>hq .next _ _ _ (cb ⟨rfl,_,_,EM O H,rfl⟩) (i3.to (tk:=Y.toks) F8 N8)
end
section
variable {cs:Scope}{c:Fm W0 cs}{sc:Scope}{k:Cx c sc}{m:Lo}{n:Ns}{R:Re}{rest:List Stmt}
theorem Cc(hf:Ev c.cx m n f (.val (.builtin "sorted")))(he:Ev c.cx m n e (.val (.ref ta)))(z:(ta,listOf O.toArray Y)∈n)(ht:au O J)(hz:J.length<64)
  (h1:autoParam (CC c.env f [e] pos) zAa) (h2:autoParam (SE c.env e []) zAa):Er c.cx m n (.Call f [e] [] pos) (λv n'=>∃D u ns U,v=.ref D∧n'=(D,listOf u.toArray U)::n∧au u ns∧ns.Perm J∧ns.Pairwise (·≤·)):=
 oU (P:=λv n'=>v=.ref ta∧n'=n) hf (fB (iM he) λv n' h=>⟨h.1,h.2⟩) (λv n' p Q s hi hq=>by
  obtain ⟨rfl,rfl⟩:=p;refine sorted_N hi.at.1 hi.at.2 (c9 _ ((hi.at.2 _ z).1) rfl ⟨Y,rfl⟩) ht (by rw[ht.length];exact hz) λh5 u ns e5 F5 N5 H G B=>?_
  exact hq _ _ _ (zQ _ u ns e5 rfl rfl H G B) (hi.to (tk:=s.toks) F5 N5)) h1 h2
theorem E9(hl:Ev k m n l (.int a)):Ev k m n (.BinOp l .FloorDiv (.Constant (.int 2) kk p) pos) (.int (a.fdiv 2)):=
 ⟨λQ s hi hq=>d9 (hl.run _ s hi λv s1 e i1=>nZ (by
  obtain ⟨t1,rfl⟩:=e
  exact floordiv_int (by decide) (hq _ _ ⟨_,rfl⟩ i1.toks)))⟩
theorem H9(hf:Ev c.cx m n f (.val (.builtin "_bisect.bisect_left")))(h1:Ev c.cx m n e1 (.val (.ref l)))(h2:Ev c.cx m n e2 (.int x))(hm:(l,listOf vs.toArray ep)∈n)(e:au vs xs)(hz:vs.length<1000)
  (c1:autoParam (CC c.env f [e1,e2] pos) zAa) (c2:autoParam (SE c.env e1 [e2]) zAa) (c3:autoParam (SE c.env e2 []) zAa):Ev c.cx m n (.Call f [e1,e2] [] pos) (.int (fS (λy=>decide (y<x)) xs vs.length 0 vs.length:Nat)):=
 ⟨λQ s hi hQ=>gu (hf.run _ s hi λv s1 B i1=>by
  cases B;refine callWith_builtin1 (aI (h1.run _ s1 i1 λv1 s2 d2 i2=>aI (h2.run _ s2 i2 λv2 G z i3=>bK ?_) c3) c2) c2 (hplain:=by refine(?_:(fj pos (bW [e2] c.env)).any (·.1)=false);rw[show _=_ from c3];rfl);cases d2;obtain ⟨u,rfl⟩:=z
  exact Cu (c9 _ ((i3.at.2 _ hm).1) rfl ⟨ep,rfl⟩) e hz λtok tk=>hQ _ _ ⟨_,rfl⟩ i3.toks) c1⟩
theorem H8(hk:G=ae "lo")(hf:Ev c.cx m n (.Name x p) (.val (.builtin "_bisect.bisect_right")))(h1:Ev c.cx m n e1 (.val (.ref l)))(h2:Ev c.cx m n e2 (.int y))(h3:Ev c.cx m n e3 (.int (a:Nat)))(hm:(l,listOf vs.toArray ep)∈n)(H:au vs xs)(hz:vs.length<1000)(ha:a≤vs.length)
  (c2:autoParam (SE c.env e1 [e2]) zAa) (c3:autoParam (SE c.env e2 []) zAa):Ev c.cx m n (.Call (.Name x p) [e1,e2] [⟨some G,e3,kp⟩] pos) (.int (fS (λz=>!decide (y<z)) xs vs.length a vs.length:Nat)):=
 ⟨λQ s hi hQ=>vD (hf.run _ s hi λv s1 U i1=>by
  cases U;refine callWith_kw (aI (h1.run _ s1 i1 λv1 s2 d2 i2=>aI (h2.run _ s2 i2 λv2 B O i3=>bK ?_) c3) c2) (congrArg (fj pos) c2 |>.trans rfl) (by refine(?_:(fj pos (bW [e1,e2] c.env)).any (·.1)=false);rw[c2,c3];rfl);refine kwAll_cons (h3.run _ B i3 λY s4 J e=>kwAll_nil ?_);cases d2;subst hk;obtain ⟨u,rfl⟩:=O;obtain ⟨u2,rfl⟩:=J
  exact Ct (c9 _ ((e.at.2 _ hm).1) rfl ⟨ep,rfl⟩) H hz rfl ha λtok tk=>hQ _ _ ⟨_,rfl⟩ e.toks)⟩
theorem ru(he:Ev c.cx m n e (.flt y))(h:∀t,cN c (cj m x (.float y t)) n rest R)
  (hs:autoParam (f9 e (some (.Name x u)) pos.line c.env=ck false) zAa) (z:autoParam (c.env.kindOf x=some .local) zAa):cN c m n (.Assign [.Name x u] e pos::rest) R:=
 bL ⟨λ_ s hi hq=>gQ (he.run _ s hi λB s1 hv h1=>by obtain ⟨t,rfl⟩:=hv;exact du h1 (λs2 h2=>hq .next _ _ _ (h t) h2) z) hs⟩
theorem mY{x pos}(hv:m x=some (.float y t))(e:autoParam (sc.names.lookup x=some .local) zAa)(hd:autoParam ((x==("__debug__" : Str))=false) zAd):Ev k m n (.Name x pos) (.flt y):=⟨λ_ _ hi hq=>k.load hi hv e hd (hq _ _ ⟨t,rfl⟩ hi)⟩
theorem yi(hf:Ev c.cx m n f (.val (.type "float")))(he:Ev c.cx m n e (.int i))(hb:¬2 ^ 1024-2 ^ 970≤i.natAbs)
  (c1:autoParam (CC c.env f [e] pos) zAa) (c2:autoParam (SE c.env e []) zAa):Ev c.cx m n (.Call f [e] [] pos) (.flt (bF i)):=
 ⟨λQ s hi hQ=>gu (hf.run _ s hi λv s1 u i1=>by
  cases u;refine callWith_type1 (aI (he.run _ s1 i1 λv1 s2 d2 i2=>bK ?_) c2) c2;obtain ⟨t,rfl⟩:=d2
  exact call_float_int_sharp rfl (λh=>absurd h hb) λ_=>hQ _ _ ⟨_,rfl⟩ i2.toks) c1⟩
theorem A9{op:Mv}{f:UInt64→UInt64→UInt64}{l r:PE}{pos}{a b:UInt64}(o:∀(A:Around) (E:VP) (s:Shared) (t u:Tok) (Q:VP),A.handled=none→Q (.float (f a b) s.toks) {s with toks:=s.toks+1}→aA (aq P0 W0) A (CF op (.float a t) (.float b u)) Q E s)(hl:Ev c.cx m n l (.flt a))(hr:Ev c.cx m n r (.flt b)):Ev c.cx m n (.BinOp l op r pos) (.flt (f a b)):=
 ⟨λ_ s hi hq=>d9 (hl.run _ s hi λv s1 hv h1=>hr.run _ s1 h1 λv2 s2 e h2=>by
  obtain ⟨t,rfl⟩:=hv;obtain ⟨u,rfl⟩:=e
  exact o _ _ _ _ _ _ rfl (hq _ _ ⟨_,rfl⟩ h2.toks))⟩
theorem OG{op:Mv}{f:UInt64→Int→UInt64}{l r:PE}{pos}{a:UInt64}{b:Int}(o:∀(A:Around) (E:VP) (s:Shared) (t u:Tok) (Q:VP),A.handled=none→Q (.float (f a b) s.toks) {s with toks:=s.toks+1}→aA (aq P0 W0) A (CF op (.float a t) (.int b u)) Q E s)(hl:Ev c.cx m n l (.flt a))(hr:Ev c.cx m n r (.int b)):Ev c.cx m n (.BinOp l op r pos) (.flt (f a b)):=
 ⟨λ_ s hi hq=>d9 (hl.run _ s hi λv s1 hv h1=>hr.run _ s1 h1 λv2 s2 e h2=>by
  obtain ⟨t,rfl⟩:=hv;obtain ⟨u,rfl⟩:=e
  exact o _ _ _ _ _ _ rfl (hq _ _ ⟨_,rfl⟩ h2.toks))⟩
theorem H7(hl:Ev c.cx m n l (.int a))(hi:¬m7 (lH (decide (a<0) != decide ((2:Int)<0)) a.natAbs (I6 2))=true):Ev c.cx m n (.BinOp l .Div (.Constant (.int 2) kk p) pos) (.flt (lH (decide (a<0) != decide ((2:Int)<0)) a.natAbs (I6 2))):=
 ⟨λ_ s e hq=>d9 (hl.run _ s e λv s1 hv h1=>nZ (by
  obtain ⟨t,rfl⟩:=hv
  exact xx (by decide) hi (hq _ _ ⟨_,rfl⟩ h1.toks)))⟩
theorem HY(hb:∀(E':VP) (hE':lG (aq P0 W0) c.A c.env E'),cN {c with E:=E',hE:=hE'} m n body (λf m' n'=>f=.next∧cN c m' n' rest R)):cN c m n (.Try body (h0::hs) [] [] pos::rest) R:=
 bL ⟨λQ s hi hq=>by
  refine wpAny_Try_except ?_;have hE:=c.hE;refine(hb (λe s₁=>aA (aq P0 W0) c.A (yM e c.env) (λ_ s₂=>aA (aq P0 W0) c.A (setFlight e none) (λ_ s₃=>aA (aq P0 W0) c.A (handleBy e c.env (h0::hs)) Q c.E s₃) c.E s₂) c.E s₁) ?hE').run _ s (let ⟨h,tk,e,F,N⟩:=hi;⟨h,tk,e,F,N⟩) λf m' n' s' r i=>?_
  case hE'=>passes_own
  obtain ⟨rfl,r⟩:=r
  exact fg (hq .next _ _ _ r (let ⟨h,tk,e,F,N⟩:=i;⟨h,tk,e,F,N⟩))⟩
theorem KA(h1:(1:Int)≤(j:Int)-(i:Int))(h5:(j:Int)-(i:Int)≤5):((j:Int)-(i:Int)).natAbs≤5:=Rv (cW [j,i] 1 Y0 (.s Z0 Z1) 1 Y1 (.s Z0 Z1) rfl h1) (cW [j,i] 1 (.s Z0 Z1) (.k 5) 1 (.s Z0 Z1) (.k 5) rfl h5)
theorem Es{c:Fm W0 (tw P0.main.body 14)}{m:Lo}{n:Ns}{dl:Addr}{va:List Value}{xs:List Int}{ep:Nat}{t3:Tok}(ap:m "data"=some (.ref dl))(ah:m "interval"=some (.int 3 t3))(aj:(dl,listOf va.toArray ep)∈n)(hx:au va xs)(J:xs.length=5)(aa:∀x∈xs,x=0∨x=3):
  cN c m n (vg P0.main.body 14) (λfl _ n'=>(∃t,x9 fl=.float (xq (xs.count 3)) t)∧∀p∈n,p∈n'):=by
 refine g9 (dL (Cc cR (ao ap) aj hx (by rw[J];decide)) λv n' h=>?_);obtain ⟨D,vs,ns,e5,rfl,rfl,z,O,ab⟩:=h
 have G:ns.length=5:=by rw[O.length_eq,J]
 have e:vs.length=5:=by rw[z.length,G]
 have U:=Kz O ab aa G;rw[← e] at U;obtain ⟨mx,mi,H,Y,mv⟩:=U;rw[show (5:Int)=(vs.length:Int) by rw[e];rfl] at mv;have u:(D,listOf vs.toArray e5)∈(D,listOf vs.toArray e5)::n:=zH;have B:∀p∈n,p∈(D,listOf vs.toArray e5)::n:=λp hp=>zT hp;generalize (D,listOf vs.toArray e5)::n=N at u B
 have hz:vs.length<1000:=by rw[e];decide
 refine fx (qF cR (ao rfl) u (aN hz)) λtn=>?_;refine dE (qt (kh (ag rfl))) (λh=>by rw[e] at h;cases h) λ_=>bQ ?_;refine fx (i:=xW ns) ((by rw[xW,z.length]:ns.getD ((vs.length:Int).fdiv 2).toNat 0=xW ns)▸ft (ao rfl) (E9 (ag rfl)) u z (by rw[e];decide) (by rw[e,G];decide) (by rw[e];decide)) λtx=>?_;refine fx (H9 fV (ao rfl) (ag rfl) u z hz) λti=>?_;refine fx (H8 (a:=zF ns vs.length) rfl fV (ao rfl) (ag rfl) (ag rfl) u z hz (rC _ _ _ (cr _))) λtj=>?_;refine HY λE' hE'=>ru (yi cR (ag (i:=3) ah) (by decide +kernel)) λt4=>ru (yi cR (ag rfl) (AO mx)) λt5=>cb ⟨rfl,?_⟩;refine ru (A9 (f:=mz) (λ_ _ _ _ _ _ _ h=>sub_float h) (mY rfl) (A9 (f:=jk) (λ_ _ _ _ _ _ hA h=>truediv_float_or hA (λhz=>absurd hz (by decide +kernel)) λ_=>h) (mY rfl) wR)) λt6=>?_;refine fx (ag rfl) λt7=>fx (jo (ag rfl) (ag rfl)) λt8=>?_;refine pG (A9 (f:=MU) (λ_ _ _ _ _ _ _ h=>add_float h) (mY rfl) (yj (A9 (f:=fY) (λ_ _ _ _ _ _ _ h=>mul_float h) (mY rfl) (OG (f:=λa b=>mz a (bF b)) (λ_ _ _ _ _ _ hA h=>sub_fi_sharp hA (λhb=>absurd hb (AO mi)) λ_=>h) (H7 (ag (i:=(vs.length:Int)) rfl) (by rw[e];decide +kernel)) (ag rfl))) (ag rfl) ?_ (Kg ?_))) λv h=>?_
 .exact rN (aK (KA H Y) (by decide +kernel))
 .exact H
 .obtain ⟨t,rfl⟩:=h
  exact⟨⟨t,congrArg (jx · t) mv⟩,B⟩
theorem Ht{n:Ns}{dl:Addr}{va:List Value}{xs:List Int}{ep:Nat}{t3:Tok}(z:(dl,listOf va.toArray ep)∈n)(B:au va xs)(e:xs.length=5)(u:∀x∈xs,x=0∨x=3):fk W0 315 [.ref dl,.int 3 t3] n 9 100 (λv n'=>(∃t,v=.float (xq (xs.count 3)) t)∧∀p∈n,p∈n'):=
 li (body:=vg P0.main.body 14) (scope:=tw P0.main.body 14) (binds:=[("data",.ref dl),("interval",.int 3 t3)]) (by with_unfolding_all rfl) (by with_unfolding_all rfl) (λs X=>pQ X rfl (by with_unfolding_all rfl) rfl rfl rfl) (sw rfl) rfl rfl rfl (by decide) λc hd hu=>Es rfl rfl z B e u
end
end
section
open W PyProof Rows
open PyProof.Rows.LCg
theorem HL:∀(W0:World) (A:Around) (E:VP) (s:Shared) (Q:VP) (b:Int) (t u:Tok),0≤b→b≤100→(∀e tk,Q (.int (3*b) e) {s with toks:=tk})→aA (aq P0 W0) A (CF .Mult (.int 3 t) (.int b u)) Q E s:=λW0 A E s Q b t u h0 h1 h=>mul_int (h _ _)
theorem FQ(x:Int):gh x 1=0∨gh x 1=1:=by rw[bitAnd_m1];lia
noncomputable def MH(i:Nat)(b:Int):Int:=3*gh (b.fdiv (2 ^ i)) 1
theorem Ky(i:Nat)(bs:List Int):∀x∈bs.map (MH i),x=0∨x=3:=by
 intro x u;refine fN (eA.mp u) λb _ e=>?_;subst e;unfold MH
 rcases FQ (b.fdiv (2 ^ i)) with h|h<;>rw[h]<;>simp
theorem vW(i:Nat):∀bs:List Int,(bs.map (MH i)).count 3=(bs.filter (jH i)).length
 | []=>rfl
 | b::r=>by
  rw[kL,MC,fH,vW i r];unfold MH jH
  rcases FQ (b.fdiv (2 ^ i)) with h|h<;>rw[h]<;>simp
theorem H4{pos}(hl:Ev k m n l (.int 3))(hr:Ev k m n r (.int b))(h0:0≤b)(h1:b≤100):Ev k m n (.BinOp l .Mult r pos) (.int (3*b)):=
 ⟨λ_ s hi hq=>d9 (hl.run _ s hi λv s1 hv G=>hr.run _ s1 G λv2 s2 B h2=>by
  refine cp hv λt z=>?_
  try clear hv
  subst z;refine cp B λu e=>?_
  try clear B
  subst e
  exact HL _ _ _ _ _ _ _ _ h0 h1 λH tk=>hq _ _ ⟨H,rfl⟩ h2.toks)⟩
noncomputable def jr(vp:List Value)(ks:List Nat):Prop:=vp.length=ks.length∧∀(i:Nat) (k:Nat),ks[i]?=some k→∃t,vp[i]?=some (.float (xq k) t)
theorem jr.add(h:jr vp ks)(k:Nat)(t:Tok):jr (vp++[.float (xq k) t]) (ks++[k]):=by
 refine⟨by rw[aU,aU,h.1];rfl,λi j hj=>?_⟩
 by_cases e:i<ks.length
 .rw[yU e] at hj
  rw[yU (by rw[h.1];exact e)];exact h.2 i j hj
 .rw[xz (cL e)] at hj
  rw[xz (by rw[h.1];exact cL e),h.1]
  cases hz:i-ks.length with
  | zero=>rw[hz] at hj;cases hj;exact⟨t,rfl⟩
  | succ z=>rw[hz] at hj;cases hj
noncomputable def Fx(bs:List Int)(t:Nat):Nat:=(bs.filter (jH t)).length
theorem BM(hc:LawC c)(d1:o1.data=.cell (some (.ref B)))(m1:(c.L+1,o1)∈N)(hB:(B,listOf va.toArray ep)∈N)(hi:au va bs)(H:bs.length=5):
  Er c.cx m N (sE (bp 4)) (λv n'=>∃V vp,v=.ref V∧n'=(V,bB vp)::N∧jr vp ((aV 4).map (Fx bs))∧(∀p∈N,@aR Nat _ p.1 V)):=by
 have aj:va.length=5:=by rw[hi.length,H]
 refine ym (cl:=[(ae "ballots",c.L+1)]) rfl (jd (a:=0) (b:=4) ?hr) ?h (kx hc rfl)
 case hr=>exact ry cR bf
 case h=>
  intro v N1 s1 ah i1;refine b8 ah λe ab=>?_;clear ah;refine BQ ab λr t u z ax hr=>?_
  try clear ab
  subst ax;have e':=e.symm;subst e';refine(vq 4 _ _ (λi out n1=>n1=N∧jr out ((aV i).map (Fx bs))) (jD hr (by decide)) ⟨(eP rfl rfl (λi k h=>by cases h)),λi out n1 h=>?_,?_,λout n1 D hJ l1 l2=>?_,by decide⟩)
  .exact⟨(λ_ h=>nomatch h),by rw[h.2.1,aE,de];exact aS _⟩
  .intro i v out n1 C K I D oK oI E' mC cc aa Y bb aM b4 b5 bv br bm bo ca hex
   refine cp aa λt as=>?_;clear aa;subst as;refine b8 Y λe hO=>?_;clear Y;subst e;refine(c9 true (λQ s hi hq=>pg (hq s hi)) (λ_=>?_) (λh=>nomatch h));refine fB (OH (P1:=λv n'=>∃Z zs,v=.ref Z∧n'=(Z,bB zs)::(K,oK)::(I,oI)::(D,bB out)::n1∧au zs (bs.map (MH i))∧(∀p∈(K,oK)::(I,oI)::(D,bB out)::n1,@aR Nat _ p.1 Z)) (dp:=9) (un:=100) (V:=λv=>∃t,v=.float (xq (Fx bs i)) t) Jh ?er (λ_ _ _=>bf (i:=3)) (λv1 n1 v2 n2 h1 h2 hs=>?_) rfl (have:=hc.hd;zE this (bR true)) (have:=hc.hu;zE this (bR true))) λv n' h=>?_
   case er=>
    refine nB rfl (so (iM (eN (a:=c.L+1) (o:=o1) rfl (zT (zT (zT m1))) d1))) ?h2;intro v2 n2 s2 U i2;refine b8 U λa6 e2=>?_;clear U;cases a6;subst e2;have ar:(B,listOf va.toArray ep)∈(K,oK)::(I,oI)::(D,bB out)::n1:=zT (zT (zT hB));have a0:(K,oK)∈(K,oK)::(I,oI)::(D,bB out)::n1:=zH;generalize (K,oK)::(I,oI)::(D,bB out)::n1=nI at ar a0 i2 ⊢;refine(vq va.length _ _ (λj G n3=>n3=nI∧au G ((bs.take j).map (MH i))) (ui i2 ar) ⟨⟨rfl,.nil⟩,λj G n3 h=>?_,?_,λG n3 D2 a4 l1 l2=>?_,by rw[aj];decide⟩)
    .refine b8 h λe3 hl=>?_
     try clear h
     subst e3;refine⟨λp hp=>by rw[az.mp hp];exact ar,?_⟩;rw[hl.length,aE,eO];exact jy ..
    .intro j v2 G n3 C2 I2 D2 bl E2 b6 hj hv O a5 ap a1 a2 a3 bi bj
     refine b8 O λe3 hl=>?_;clear O;subst e3
     have aQ:j<bs.length:=by rw[H];exact pV (Eq.symm aj) hj
     refine cp (hi.get j bs[j] (am aQ)) λtb hb=>?_;rw[hb] at hv;cases hv
     have a7:bs.take (j+1)=bs.take j++[bs[j]]:=by rw[qW,am aQ];rfl
     have cd:=FQ (bs[j].fdiv (2 ^ i));refine(c9 true (λQ s hi hq=>pg (hq s hi)) (λ_=>fB (iM (H4 bf (qG (qE (ag a5) (qj (eN (a:=K) (o:=oK) rfl (zT (zT a0)) bb)) (ce i)) bf) ?b0 ?b1)) λv5 n5 h5=>?_) (λh=>nomatch h))
     case b0=>rw[bM];omega
     case b1=>rw[bM];omega
     refine b8 h5 λJ e5=>?_
     try clear h5
     refine cp J λt5 h5=>?_
     try clear J
     subst e5;refine⟨n3,λp hp=>hp,ap,rfl,?_⟩;rw[a7,aX,h5];exact hl.append (.cons _ _ .nil)
    .refine b8 a4 λe3 hl=>?_
     try clear a4
     subst e3;rw[aj,← H,cT] at hl;exact(sh D2 G rfl rfl hl l1)
   .refine hZ h1 λZ zs e1 e2 aD bh=>?_
    subst e1;obtain ⟨t3,rfl⟩:=h2;have:=Ht (t3:=t3) (hs (Z,bB zs) (by rw[e2];exact zH)) aD (by rw[aE,H]) (Ky i bs);rw[vW] at this;exact this
   .obtain ⟨⟨t,rfl⟩,v1,Z,zs,_,rfl,aD,hl⟩:=h
    refine⟨n1,λp hp=>zT hp,aM,rfl,?_⟩;rw[gA,aX];exact hO.add _ _
  .refine b8 hJ λe hO=>?_
   try clear hJ
   subst e;exact(sh D out rfl rfl hO l1)
theorem PM(hl:@aR Nat _ 366 L)(u:b9 L n0)(z:∀p∈bN L o1 o2 o3 o4 o5 ps qs++n0,@aR Nat _ p.1 V):
  xf (L+1+1+1+1) o4 ((V,o)::(bN L o1 o2 o3 o4 o5 ps qs++n0)) (λo'=>(V,o)::(bN L o1 o2 o3 o' o5 ps qs++n0)):=by
 refine BR u.all λY U O B J H G=>?_;refine .tail (jA (z (_,o4) (zL (by k_extra "zmm")))) (.tail (jA (aJ _)) (.head ?_));intro p hp;have e:p∈(L+1+1+1,o3)::(L+1+1,o2)::(L+1,o1)::(364,bS ps)::(256,bS qs)::n0:=hp;simp only[ak] at e
 rcases e with rfl|rfl|rfl|rfl|rfl|hp
 .exact lc (aJ _)
 .exact lc (aW (aJ _))
 .exact lc (aW (aW (aJ _)))
 .exact lc (aP (aP (by decide:(364:Nat)<366) hl) (aO (aJ _) (bA (L+1) 3)))
 .exact lc (aP (aP (by decide:(256:Nat)<366) hl) (aO (aJ _) (bA (L+1) 3)))
 .exact B p hp
theorem Of(hc:LawC c)(d1:o1.data=.cell (some (.ref B)))(Y:o4.data=.cell none)(hB:(B,listOf va.toArray ep)∈n0)(hi:au va bs)(U:bs.length=5)(H:b9 c.L n0)
  (e:∀(V:Addr) (vv:List Value) (o:Obj),o.data=.cell (some (.ref V))→jr vv ((aV 4).map (Fx bs))→b9 c.L ((V,bB vv)::n0)→(∀p∈bN c.L o1 o2 o3 o4 o5 ps qs++n0,@aR Nat _ p.1 V)→cN c m (bN c.L o1 o2 o3 o o5 ps qs++(V,bB vv)::n0) rest R):
  cN c m (bN c.L o1 o2 o3 o4 o5 ps qs++n0) (bp 4::rest) R:=by
 refine pF (a:=c.L+1+1+1+1) (BM (N:=bN c.L o1 o2 o3 o4 o5 ps qs++n0) hc d1 (zL (by k_extra "zmm")) (zR hB) hi U) (by rw[hc.cl];rfl) λv n' hv=>?_;refine hZ hv λV vv G z J u=>?_
 try clear hv
 subst G;subst z;exact(nV o4 _ none (PM hc.lo H u) Y (λo' O=>cO (e V vv o' O J (H.add u) u) mO))
end
section
open W PyProof Rows
open PyProof.Rows.LCg
noncomputable def oN(s:Stmt):PE:=ch (ch (sE (((sB s)[0]?).getD C0)) 0) 0
noncomputable def BV(s:Stmt):PE:=ch (ch (ch (sE s) 1) 0) 0
noncomputable def v7(s:Stmt):PE:=ch (sE s) 0
noncomputable def qL(e:PE)(qual:Str)(clos:List (Str×Addr))(c':Addr)(o:Obj):Prop:=∃pm ctv,eL e False λparams body scope _=>o=nE "<lambda>" qual params body scope clos pm c' ctv
section
variable {kl c' pa va both P3 P4 P5:Addr}{ok oc o3 o4 o5:Obj}{qual:Str}{vp vv:List Value}{ks:List Nat}{vs:List Int}{ep:Nat}{b:Int}{tb:Tok}
noncomputable def QV(ks:List Nat)(t:Int)(v:Value):Prop:=∃tk,v=.float (xq (ks.getD t.toNat 0)) tk
noncomputable def Pc(ks:List Nat)(t:Int)(v:Value):Prop:=∃tk,v=.float (fY (bF 2) (xq (ks.getD t.toNat 0))) tk
noncomputable def PH(vs:List Int)(b:Int)(t:Int)(v:Value):Prop:=∃tk,v=.int (vs.getD t.toNat 0*b) tk
theorem jr.at(hp:jr vp ks)(hl:ks.length=4){t:Int}(h0:0≤t)(h4:t<4):∃tk,vp[t.toNat]?=some (.float (xq (ks.getD t.toNat 0)) tk):=by
 have h:t.toNat<ks.length:=ltN (ia [t.toNat,ks.length,t] 1 (.a Z0 Y1) Z1 1 (.a Z2 Y1) (.k 4) 1 (.k 4) Z1 1 Z0 Z2 rfl h4 (l9 hl) (jb (cW [t] 1 Y0 Z0 1 Y0 Z0 rfl h0)));refine hp.2 t.toNat _ ?_;rw[ay,am h];rfl
theorem Qo(hk:qL (oN (bp 6)) qual [(ae "points",P4)] c' ok)(hc:jt qual oc)(h4:o4.data=.cell (some (.ref pa)))(hp:jr vp ks)(hl:ks.length=4):
  f8 W0 kl [(kl,ok),(c',oc),(P4,o4),(pa,listOf vp.toArray ep)] (QV ks):=by
 obtain ⟨B,z,hk⟩:=hk;change ok=nE "<lambda>" qual _ _ _ _ B c' z at hk;subst hk
 refine nu (zH) (zT (zH)) hc λc m n t tok u hm hn h0 e=>(db (.flt (xq (ks.getD t.toNat 0))) ?_ (λv h=>h))
 show Ev c.cx _ _ (.Subscript (.Name _ _) (.Name _ _) _) _;exact uN (pH (a:=P4) (o:=o4) (by show c.cl.lookup _=_;rw[u];rfl) (hn _ (by k_extra "zmm")) h4) (ag hm) (hn (pa,listOf vp.toArray ep) (by k_extra "zmm")) (hp.at hl h0 e) h0 (cW [t] 1 (.a Z0 Y1) (.k (2 ^ 63)) 1 (.a Z0 Y1) (.k 4) rfl e)
theorem Qn(hk:qL (BV (bp 7)) qual [(ae "points",P4)] c' ok)(hc:jt qual oc)(h4:o4.data=.cell (some (.ref pa)))(hp:jr vp ks)(hl:ks.length=4):
  f8 W0 kl [(kl,ok),(c',oc),(P4,o4),(pa,listOf vp.toArray ep)] (Pc ks):=by
 obtain ⟨B,z,hk⟩:=hk;change ok=nE "<lambda>" qual _ _ _ _ B c' z at hk;subst hk
 refine nu (zH) (zT (zH)) hc λc m n t tok u hm hn h0 e=>(db (.flt (fY (bF 2) (xq (ks.getD t.toNat 0)))) ?_ (λv h=>h))
 show Ev c.cx _ _ (.BinOp _ .Mult (.Subscript (.Name _ _) (.Name _ _) _) _) _;exact yf bf (uN (pH (a:=P4) (o:=o4) (by show c.cl.lookup _=_;rw[u];rfl) (hn _ (by k_extra "zmm")) h4) (ag hm) (hn (pa,listOf vp.toArray ep) (by k_extra "zmm")) (hp.at hl h0 e) h0 (cW [t] 1 (.a Z0 Y1) (.k (2 ^ 63)) 1 (.a Z0 Y1) (.k 4) rfl e)) (by decide +kernel)
theorem Om(hk:qL (v7 (bp 13)) qual [(ae "votes",P5),(ae "both",P3)] c' ok)(hc:jt qual oc)(h3:o3.data=.cell (some (.int b tb)))(h5:o5.data=.cell (some (.ref va)))(hv:au vv vs)(hl:vs.length=4)(B:∀x∈vs,0≤x∧x≤5):
  f8 W0 kl [(kl,ok),(c',oc),(P3,o3),(P5,o5),(va,listOf vv.toArray ep)] (PH vs b):=by
 obtain ⟨H,G,hk⟩:=hk;change ok=nE "<lambda>" qual _ _ _ _ H c' G at hk;subst hk
 refine nu (zH) (zT (zH)) hc λc m n t tok u hm hn h0 z=>(db (.int (vs.getD t.toNat 0*b)) ?_ (λv h=>h))
 have e:t.toNat<vs.length:=ltN (ia [t.toNat,vs.length,t] 1 (.a Z0 Y1) Z1 1 (.a Z2 Y1) (.k 4) 1 (.k 4) Z1 1 Z0 Z2 rfl z (l9 hl) (jb (cW [t] 1 Y0 Z0 1 Y0 Z0 rfl h0)));have hz:=B _ (bH e)
 have J:vs.getD t.toNat 0=vs[t.toNat]:=by rw[ay,am e];rfl
 exact km (ft (pH (a:=P5) (o:=o5) (by refine(?_:c.cl.lookup _=_);rw[u];rfl) (hn _ (by k_extra "zmm")) h5) (ag hm) (hn (va,listOf vv.toArray ep) (by k_extra "zmm")) hv h0 (Op (EK h0) (K8 e)) (cW [t] 1 (.a Z0 Y1) (.k (2 ^ 63)) 1 (.a Z0 Y1) (.k 4) rfl z)) (qj (pH (a:=P3) (o:=o3) (by refine(?_:c.cl.lookup _=_);rw[u];rfl) (hn _ (by k_extra "zmm")) h3)) (fO (by rw[J];exact L3 (cW [vs[t.toNat]] 1 Y0 Z0 1 Y0 Z0 rfl hz.1) (cW [vs[t.toNat]] 1 (.a Z0 Y1) (.k 1048576) 1 Z0 (.k 5) rfl hz.2)))
theorem Ol(hk:qL (v7 (bp 14)) qual [(ae "votes",P5),(ae "both",P3)] c' ok)(hc:jt qual oc)(h3:o3.data=.cell (some (.int b tb)))(h5:o5.data=.cell (some (.ref va)))(hv:au vv vs)(hl:vs.length=4)(B:∀x∈vs,0≤x∧x≤5):
  f8 W0 kl [(kl,ok),(c',oc),(P3,o3),(P5,o5),(va,listOf vv.toArray ep)] (PH vs b):=by
 obtain ⟨H,G,hk⟩:=hk;change ok=nE "<lambda>" qual _ _ _ _ H c' G at hk;subst hk
 refine nu (zH) (zT (zH)) hc λc m n t tok u hm hn h0 z=>(db (.int (vs.getD t.toNat 0*b)) ?_ (λv h=>h))
 have e:t.toNat<vs.length:=ltN (ia [t.toNat,vs.length,t] 1 (.a Z0 Y1) Z1 1 (.a Z2 Y1) (.k 4) 1 (.k 4) Z1 1 Z0 Z2 rfl z (l9 hl) (jb (cW [t] 1 Y0 Z0 1 Y0 Z0 rfl h0)));have hz:=B _ (bH e)
 have J:vs.getD t.toNat 0=vs[t.toNat]:=by rw[ay,am e];rfl
 exact km (ft (pH (a:=P5) (o:=o5) (by refine(?_:c.cl.lookup _=_);rw[u];rfl) (hn _ (by k_extra "zmm")) h5) (ag hm) (hn (va,listOf vv.toArray ep) (by k_extra "zmm")) hv h0 (Op (EK h0) (K8 e)) (cW [t] 1 (.a Z0 Y1) (.k (2 ^ 63)) 1 (.a Z0 Y1) (.k 4) rfl z)) (qj (pH (a:=P3) (o:=o3) (by refine(?_:c.cl.lookup _=_);rw[u];rfl) (hn _ (by k_extra "zmm")) h3)) (fO (by rw[J];exact L3 (cW [vs[t.toNat]] 1 Y0 Z0 1 Y0 Z0 rfl hz.1) (cW [vs[t.toNat]] 1 (.a Z0 Y1) (.k 1048576) 1 Z0 (.k 5) rfl hz.2)))
end
end
section
open W PyProof Rows
open PyProof.Rows.LCg
structure oW(c:Fm W0 lawS):Prop where
 cd:c.ccd=.ref 366
 ch:IV c.h₀ 366 364
 hP:c.P=λs=>dB s.gens
noncomputable def uk(e:PE):Pos:=eL e ⟨0,0,0,0⟩ λ_ _ _ p=>p
noncomputable def kX(e:PE)(ps:Array Value)(cA:Addr):Array Value:=ps++#[n4 (uk e).line,n4 (uk e).col,.ref cA]
theorem Dg(hl:@aR Nat _ 366 L)(e:b9 L n0):
  xf 364 (bS ps) (bN L o1 o2 o3 o4 o5 ps qs++n0) (λo'=>(L+1+1+1+1+1,o5)::(L+1+1+1+1,o4)::(L+1+1+1,o3)::(L+1+1,o2)::(L+1,o1)::(364,o')::(256,bS qs)::n0):=by
 refine BR e.all λU O J H G u B=>?_;have z:∀k:Nat,@aR Nat _ 364 (L+k):=λk=>aO (aP (by decide:(364:Nat)<366) hl) (bA L k);refine .tail (jA (z 5)) (.tail (jA (z 4)) (.tail (jA (z 3)) (.tail (jA (z 2)) (.tail (jA (z 1)) (.head ?_)))));intro p hp
 rcases ak.mp hp with rfl|hp
 .exact(by decide:(256:Nat)≠364)
 .exact u p hp
theorem Nu:∀a,a<6→∀b,b<6→(Float64.lt (xq a) (xq b)=decide (a<b)):=by decide +kernel
theorem Oe{c:Fm W0 lawS}{m:Lo}{n0:Ns}{R:Re}{rest:List Stmt}
  (B:∀(ra:Addr),(∀p∈n0,@aR Nat _ p.1 ra)→cN c (cj m (ae "row") (.ref ra)) ((ra,bB [])::n0) rest R):
  cN c m n0 (bp 5::rest) R:=by
 refine dL mZ λv n' z=>?_;refine fM z λra u e h=>?_;subst u;subst e;exact B ra h
structure QR(L ra:Addr)(o1 o2 o3 o4 o5:Obj)(qs:Array Value)(q6:Str)(n0:Ns)(vs:List Int)(m:Lo)(I:Addr)(i:Nat)(m1:Lo)(n1:Ns):Prop where
 hm:∀x,x≠ae "thing"→m1 x=m x
 hn:∃va ep ps ex,n1=bN L o1 o2 o3 o4 o5 ps qs++(ra,listOf va.toArray ep)::(ex++n0)∧au va (eD vs i)∧
  ((i=0∧ps = #[]∧ex=[])∨(0<i∧∃cA oc,ps=kX (oN (bp 6)) #[] cA∧ex=[(cA,oc)]∧jt q6 oc∧cA≠I∧(∀p∈bN L o1 o2 o3 o4 o5 #[] qs++(ra,bB [])::n0,@aR Nat _ p.1 cA)))
theorem jU:∀{i:Nat},i≤4→(eD vs i).length=i∧∀t∈eD vs i,0≤t∧t<i
 | 0,_=>⟨rfl,λ_ h=>nomatch h⟩
 | i+1,hi=>by
  refine b8 (jU (vs:=vs) (i:=i) (aN (bD hi))) λh1 h2=>?_;have hb:=rC (f:=λj=>decide (nv vs j<nv vs i)) (xs:=eD vs i) i 0 i (cr _);unfold eD uF;refine⟨by rw[aU,gV,eO,dn];exact vm (ia [↑(min (fS (λ(j:Int)=>decide (nv vs j<nv vs (i:Int))) (eD vs i) i 0 i) (eD vs i).length),↑((eD vs i).length-fS (λ(j:Int)=>decide (nv vs j<nv vs (i:Int))) (eD vs i) i 0 i),i,↑((eD vs i).length),↑(fS (λ(j:Int)=>decide (nv vs j<nv vs (i:Int))) (eD vs i) i 0 i)] 1 (.a Z0 (.a Z1 Y1)) (.a Z2 Y1) 1 Z3 Z2 1 Z0 Z4 1 (.a Z1 Z4) Z3 rfl (vX h1) Kx (xK (eV [↑(fS (λ(j:Int)=>decide (nv vs j<nv vs (i:Int))) (eD vs i) i 0 i),↑((eD vs i).length),i] 1 Z0 Z1 1 Z0 Z2 1 Z2 Z1 rfl (ef hb) (l9 h1)))) (ia [i,↑(min (fS (λ(j:Int)=>decide (nv vs j<nv vs (i:Int))) (eD vs i) i 0 i) (eD vs i).length),↑((eD vs i).length-fS (λ(j:Int)=>decide (nv vs j<nv vs (i:Int))) (eD vs i) i 0 i),↑((eD vs i).length),↑(fS (λ(j:Int)=>decide (nv vs j<nv vs (i:Int))) (eD vs i) i 0 i)] 1 (.a Z0 Y1) (.a Z1 (.a Z2 Y1)) 1 Z0 Z3 1 Z3 (.a Z2 Z4) 1 Z4 Z1 rfl (l9 h1) C1 (Q7 (eV [↑(fS (λ(j:Int)=>decide (nv vs j<nv vs (i:Int))) (eD vs i) i 0 i),↑((eD vs i).length),i] 1 Z0 Z1 1 Z0 Z2 1 Z2 Z1 rfl (ef hb) (l9 h1)))),λt ht=>?_⟩
  rcases aC.mp ht with ht|ht
  .have:=h2 t (gD ht);exact⟨cW [t] 1 Y0 Z0 1 Y0 Z0 rfl this.1,cW [t,i] 1 (.a Z0 Y1) (.a Z1 Y1) 1 (.a Z0 Y1) Z1 rfl this.2⟩
  .rcases ak.mp ht with rfl|ht
   .exact⟨cW [i] 1 Y0 Z0 1 Y0 Z0 rfl j7,kP [i] (.a Z0 Y1) (.a Z0 Y1) rfl⟩
   .have:=h2 t (gE ht);exact⟨cW [t] 1 Y0 Z0 1 Y0 Z0 rfl this.1,cW [t,i] 1 (.a Z0 Y1) (.a Z1 Y1) 1 (.a Z0 Y1) Z1 rfl this.2⟩
theorem Fz{ks:List Nat}{vs:List Int}(hv:vs=ks.map oZ)(hk:∀k∈ks,k≤5){i:Nat}{v:Value}(h:QV ks (i:Int) v):yG (QV ks) v (λj=>decide (nv vs j<nv vs i)):=by
 refine cp h λtk G=>?_
 try clear h
 subst G;intro prog W0 A Q E s t _ h0 h4 u hq;refine cp u λtk2 B=>?_;clear u;subst B
 have z:∀j:Nat,ks.getD j 0<6∧vs.getD j 0=((ks.getD j 0:Nat):Int):=λj=>by
  rw[hv,ay,ay,eS]
  cases e:ks[j]? with
  | none=>exact⟨by decide,rfl⟩
  | some k=>exact⟨by have:=hk k (cq e);refine(?_:k<6);exact uu this (bR true),rfl⟩
 refine AutoFloatOps.lt_0 ?_;refine(?_:Q (.bool (Float64.lt _ _)) s);have:=Nu _ (z t.toNat).1 _ (z i).1;rw[bM,this]
 have e:decide (ks.getD t.toNat 0<ks.getD i 0)=decide (nv vs t<nv vs i):=by
  unfold nv;rw[bM,(z t.toNat).2,(z i).2];exact decide_eq_decide.mpr (by lia)
 rw[e];exact hq
theorem kZ{L:Addr}{o1 o2 o3 o4 o5 o1' o2' o3' o4' o5':Obj}{ps qs ps' qs':Array Value}{P:Addr→Prop}(h:∀p∈bN L o1 o2 o3 o4 o5 ps qs,P p.1):∀p∈bN L o1' o2' o3' o4' o5' ps' qs',P p.1:=by
 simp only[bN,fc] at h ⊢;exact(OA h.1 h.2.1 h.2.2.1 h.2.2.2.1 h.2.2.2.2.1 h.2.2.2.2.2.1 h.2.2.2.2.2.2.1 (λ_ h=>nomatch h))
theorem uA(h:b9 L ((ra,o)::n0)):∀p∈bN L o1 o2 o3 o4 o5 ps qs,p.1≠ra:=by
 have z:=h (ra,o) (zH);simp only[ak,bT,or_false,not_or] at z;simp only[bN,fc];exact(OA (Ne.symm z.2.2.2.2.1) (Ne.symm z.2.2.2.1) (Ne.symm z.2.2.1) (Ne.symm z.2.1) (Ne.symm z.1) (Ne.symm z.2.2.2.2.2.1) (Ne.symm z.2.2.2.2.2.2) (λ_ h=>nomatch h))
theorem b9.tail(h:b9 L (p::n)):b9 L n:=λq hq=>h q (zT hq)
theorem b9.cons(h:b9 L n)(l:∀p∈bN L o1 o2 o3 o4 o5 ps qs,@aR Nat _ p.1 D):b9 L ((D,o)::n):=
 λp hp=>(ak.mp hp).elim (λe=>e▸(b9.add (n:=[]) (o:=o) (o1:=o1) (o2:=o2) (o3:=o3) (o4:=o4) (o5:=o5) (ps:=ps) (qs:=qs) (λ_ h=>nomatch h) (by rw[iq];exact l)) (D,o) (zH)) (h p)
theorem HJ{c:Fm W0 lawS}{m:Lo}(hc:LawC c)(ht:oW c){o1 o2 o3 o4 o5 oI:Obj}{ps qs:Array Value}{ra I:Addr}{e:Obj}{n0 ex:Ns}(U:b9 c.L ((ra,bB [])::n0))(hI:∀p∈bN c.L o1 o2 o3 o4 o5 #[] qs++(ra,bB [])::n0,@aR Nat _ p.1 I)
  (hx:(ps = #[]∧ex=[])∨(∃cA oc,ps=kX (oN (bp 6)) #[] cA∧ex=[(cA,oc)]∧jt (ri c) oc∧cA≠I∧(∀p∈bN c.L o1 o2 o3 o4 o5 #[] qs++(ra,bB [])::n0,@aR Nat _ p.1 cA))):
  Er c.cx m ((I,oI)::(bN c.L o1 o2 o3 o4 o5 ps qs++(ra,e)::(ex++n0))) (oN (bp 6)) (λv n'=>∃f ok cA oc n2,v=.ref f∧qL (oN (bp 6)) (ri c) [(ae "points",c.L+1+1+1+1)] cA ok∧jt (ri c) oc∧n'=(f,ok)::n2∧
   (∀p∈(cA,oc)::(I,oI)::(ra,e)::(bN c.L o1 o2 o3 o4 o5 (kX (oN (bp 6)) #[] cA) qs++n0),p∈n2)∧cA≠I∧(∀p∈bN c.L o1 o2 o3 o4 o5 #[] qs++(ra,bB [])::n0,@aR Nat _ p.1 cA)∧(∀q∈n2,@aR Nat _ q.1 f)):=by
 have ap:=uA (o1:=o1) (o2:=o2) (o3:=o3) (o4:=o4) (o5:=o5) (ps:=#[]) (qs:=qs) U;have ab:I≠364:=jA (hI (364,bS #[]) (by k_extra "zmm"))
 rcases hx with ⟨rfl,rfl⟩|⟨cA,oc,rfl,rfl,Y,hne,aj⟩
 .refine fB (uP (clos:=[(ae "points",c.L+1+1+1+1)]) (kx hc rfl) ht.cd ht.ch (.tail ab (Dg hc.lo (n0:=(ra,e)::([]++n0)) (λp hp=>?_))) (True.intro) rfl) ?_
  .rcases ak.mp hp with rfl|hp
   .exact U (ra,bB []) (zH)
   .exact U.tail p hp
  intro v n' B;refine Nw B λf c' oc pm aa O J Y l1 l2=>?_;clear B;subst O;subst J;have u:∀p∈(I,oI)::(bN c.L o1 o2 o3 o4 o5 #[] qs++(ra,e)::n0),@aR Nat _ p.1 c':=l1;refine(Ou f _ c' oc _ rfl (rp pm aa rfl) Y rfl (λp hp=>?_) (jA (u (I,oI) (zH))) (λp hp=>?_) (λq hq=>?_))
  .simp only[ak,aC] at hp
   refine(?_:p∈(c',oc)::(I,oI)::(bN c.L o1 o2 o3 o4 o5 (kX (oN (bp 6)) #[] c') qs++(ra,e)::n0));simp only[ak,aC]
   rcases hp with h|h|h|h|h<;>simp [h]
  .rcases aC.mp hp with h|h
   .exact u p (zT (zL h))
   .rcases ak.mp h with rfl|h
    .exact u (ra,e) (by k_extra "zmm")
    .exact u p (by k_extra "zmm")
  .have ah:q∈(c',oc)::(I,oI)::(bN c.L o1 o2 o3 o4 o5 (kX (oN (bp 6)) #[] c') qs++(ra,e)::n0):=hq
   rcases ak.mp ah with rfl|h
   .exact l2
   .refine aP ?_ l2
    rcases ak.mp h with rfl|h
    .exact u (I,oI) (zH)
    .rcases aC.mp h with h|h
     .exact kZ (P:=λa=>@aR Nat _ a c') (λp hp=>u p (zT (zL hp))) q h
     .exact u q (zT (zR h))
 .refine fB (Ad (clos:=[(ae "points",c.L+1+1+1+1)]) (c':=cA) (ps:=kX (oN (bp 6)) #[] cA) (kx hc rfl) ht.cd ht.ch (by k_extra "zmm") (True.intro) rfl) ?_
  intro v n' z;refine zB z λf pm aa H G l1=>?_;clear z;subst H;subst G;refine(Ou f _ cA oc _ rfl (rp pm aa rfl) Y rfl (λp hp=>?_) hne aj l1);revert p;k_extra "zsu"
theorem Od{c:Fm W0 lawS}{m:Lo}{n0:Ns}{R:Re}{rest:List Stmt}(hc:LawC c)(ht:oW c){o1 o2 o3 o4 o5:Obj}{qs:Array Value}{ra pa:Addr}{vp:List Value}{ks:List Nat}{vs:List Int}(ah:b9 c.L ((ra,bB [])::n0))(aQ:∀p∈n0,p.1≠ra)
  (d4:o4.data=.cell (some (.ref pa))) (a0:(pa,bB vp)∈n0) (hp:jr vp ks) (hl:ks.length=4) (hv:vs=ks.map oZ) (a5:∀k∈ks,k≤5) (hm:m (ae "row")=some (.ref ra))
  (O:∀(m1:Lo) (va:List Value) (ep:Nat) (cA:Addr) (oc:Obj),(∀x,x≠ae "thing"→m1 x=m x)→au va (eD vs 4)→jt (ri c) oc→(∀p∈bN c.L o1 o2 o3 o4 o5 #[] qs++(ra,bB [])::n0,@aR Nat _ p.1 cA)→
   cN c m1 (bN c.L o1 o2 o3 o4 o5 (kX (oN (bp 6)) #[] cA) qs++(ra,listOf va.toArray ep)::(cA,oc)::n0) rest R):
  cN c m (bN c.L o1 o2 o3 o4 o5 #[] qs++(ra,bB [])::n0) (bp 6::rest) R:=by
 refine uJ (a:=0) (b:=4) (k:=4) ?hr rfl (by decide) (QR c.L ra o1 o2 o3 o4 o5 qs (ri c) n0 vs m) ?h0 ?turn ?done
 case hr=>exact ry cR bf
 case h0=>
  intro I hI;exact⟨λ_ _=>rfl,[],0,#[],[],rfl,.nil,.inl (eP rfl rfl rfl)⟩
 case done=>
  rintro I m1 n1 hI ⟨G,va,ep,ps,ex,rfl,U,h⟩
  rcases h with ⟨h,_⟩|⟨_,cA,oc,rfl,rfl,B,_,z⟩
  .exact absurd h (by decide)
  .exact O m1 va ep cA oc G U B z
 case turn=>
  rintro i t m1 n1 I oI H hI ⟨G,va,ep,ps,ex,rfl,U,hx⟩;have aD:(ps = #[]∧ex=[])∨(∃cA oc,ps=kX (oN (bp 6)) #[] cA∧ex=[(cA,oc)]∧jt (ri c) oc∧cA≠I∧(∀p∈bN c.L o1 o2 o3 o4 o5 #[] qs++(ra,bB [])::n0,@aR Nat _ p.1 cA)):=hx.elim (λh=>.inl h.2) (λh=>.inr h.2);rw[fQ] at *;have a4:cj m1 (ae "thing") (.int (i:Int) t) (ae "row")=some (.ref ra):=(if_neg (by decide)).trans ((G (ae "row") (by decide)).trans hm);refine b8 (jU (vs:=vs) (i:=i) (aN H)) λaa hr2=>?_
  refine tC (Dk (P:=λv n'=>v=.none∧∃(cA:Addr) (oc:Obj) (va2:List Value) (ep2:Nat),au va2 (eD vs (i+1))∧jt (ri c) oc∧cA≠I∧(∀p∈bN c.L o1 o2 o3 o4 o5 #[] qs++(ra,bB [])::n0,@aR Nat _ p.1 cA)∧∀p∈(ra,listOf va2.toArray ep2)::(cA,oc)::(I,oI)::(bN c.L o1 o2 o3 o4 o5 (kX (oN (bp 6)) #[] cA) qs++n0),p∈n') (wm (dp:=5) (un:=46) (a2:=.int i) fV (ao a4) (ag rfl) (HJ hc ht ah hI aD) (by with_unfolding_all rfl) (aK (bu (by decide) _) hc.hd) (aK (bu (by decide) _) hc.hu) λv2 v3 n' d2 h3=>?call) (λv n' h=>h.1)) (λn' h=>by cases h.1) λn' h=>?next
  case call=>
   obtain ⟨t2,rfl⟩:=d2;refine Qb h3 λf ok cA oc n2 ax ab B as e hne z hf=>?_;subst ax as;have ap:=Qo (kl:=f) ab B d4 hp hl (ep:=vp.length);refine uq ab λpm ar J=>?_;change ok=nE "<lambda>" _ _ _ _ _ pm cA ar at J;subst J;have a6:@aR Nat _ ra f:=hf (ra,listOf va.toArray ep) (e _ (a8 2 rfl));have aj:@aR Nat _ ra cA:=z (ra,bB []) (zR (zH));have Y:@aR Nat _ ra I:=hI (ra,bB []) (zR (zH));have hb:=K7 (ep:=ep) (n:=(f,nE "<lambda>" _ _ _ _ _ pm cA ar)::(cA,oc)::(I,oI)::(bN c.L o1 o2 o3 o4 o5 (kX (oN (bp 6)) #[] cA) qs++n0)) (x:=(i:Int)) (tx:=t2) U (aw (fz aa) (aN H)) (λt ht=>⟨(hr2 t ht).1,j6 (hr2 t ht).2 (gJ.mpr H)⟩) (ce i) (gJ.mpr H) (FC (jA a6) (FC (jA aj) (FC (jA Y) (FA (uA ah) aQ)))) (FC (a8 0 rfl) (FC (a8 1 rfl) (FC (bk 3 (zL (a8 1 rfl))) (FC (bk 3 (zR a0)) FN)))) (a8 0 rfl) ap (λv aM=>Fz hv a5 aM);refine(hb.sub (FC (zT (e _ (a8 2 rfl))) (FC (zH) (FC (zT (e _ (a8 0 rfl))) (FC (zT (e _ (a8 1 rfl))) λp hp=>zT (e p (bk 3 hp))))))).mono λv n' h=>?_;obtain ⟨rfl,va2,ep2,u,rfl⟩:=h;rw[aa] at u;exact⟨rfl,cA,oc,va2,ep2,u,B,hne,z,FC (a8 0 rfl) (FC (a8 2 rfl) (FC (a8 3 rfl) λp hp=>bk 4 hp))⟩
  case next=>
   obtain ⟨_,_,cA,oc,va2,ep2,u,B,hne,z,sub⟩:=h;have a7:=kZ (o1':=o1) (o2':=o2) (o3':=o3) (o4':=o4) (o5':=o5) (ps':=kX (oN (bp 6)) #[] cA) (qs':=qs) (P:=λa=>@aR Nat _ a I) (λp hp=>hI p (zL hp));have Y:@aR Nat _ ra I:=hI (ra,bB []) (zR (zH));refine bQ (cb ⟨sub _ (a8 2 rfl),bN c.L o1 o2 o3 o4 o5 (kX (oN (bp 6)) #[] cA) qs++(ra,listOf va2.toArray ep2)::([(cA,oc)]++n0),?_,⟨?_,va2,ep2,_,_,rfl,u,.inr ⟨il _,cA,oc,rfl,rfl,B,hne,z⟩⟩⟩)
   .exact FA (λp hp=>⟨sub p (bk 3 (zL hp)),lc (a7 p hp)⟩) (FC ⟨sub _ (a8 0 rfl),lc Y⟩ (FC ⟨sub _ (a8 1 rfl),hne⟩ λp hp=>⟨sub p (bk 3 (zR hp)),lc (hI p (zR (zT hp)))⟩))
   .intro x hx
    exact(if_neg hx).trans (G x hx)
end
section
open W PyProof Rows
open PyProof.Rows.LCg
theorem KW(hc:LawC c)(ht:oW c)(he:e = .Lambda params body scope pos)(U:fC scope (yR c.cn lawS c.L c.a c.ccd (fT (c.L+1) lawS.names []))=ck clos)(H:b9 c.L n0)(G:ee ps.toList)(J:nL (uk e) ps.toList=none)(hd:CE params c.env=([],[])):
  Er c.cx m (bN c.L o1 o2 o3 o4 o5 ps qs++n0) e (λv n'=>∃f ok cB oc n2,v=.ref f∧qL e (ri c) clos cB ok∧jt (ri c) oc∧n'=(f,ok)::n2∧(∀p∈(cB,oc)::(bN c.L o1 o2 o3 o4 o5 (kX e ps cB) qs++n0),p∈n2)∧(∀q∈n2,@aR Nat _ q.1 f)):=by
 subst he;refine fB (uP (kx hc U) ht.cd ht.ch (Dg hc.lo H) G J hd) ?_;intro v n' u;refine Nw u λf c' oc pm Y B z O l1 l2=>?_;clear u;subst B;subst z;refine(Qt f _ c' oc _ rfl (rp pm Y rfl) O rfl (λp hp=>hp) (λq hq=>?_))
 rcases ak.mp hq with rfl|h
 .exact l2
 .refine aP ?_ l2
  have h':q∈bN c.L o1 o2 o3 o4 o5 (kX (.Lambda params body scope pos) ps c') qs++n0:=h
  rcases aC.mp h' with h|h
  .exact kZ (P:=λa=>@aR Nat _ a c') (λp hp=>l1 p (zL hp)) q h
  .exact l1 q (zR h)
theorem J6:∀k,k<6→(fL (fY (bF 2) (xq k)) 3==some pS)=decide (2<k):=by decide +kernel
theorem EG{ks:List Nat}{vs:List Int}(hv:vs=ks.map oZ)(hk:∀k∈ks,k≤5)(j:Nat):ks.getD j 0<6∧vs.getD j 0=((ks.getD j 0:Nat):Int):=by
 rw[hv,ay,ay,eS]
 cases e:ks[j]? with
 | none=>exact⟨by decide,rfl⟩
 | some k=>exact⟨by have:=hk k (cq e);refine(?_:k<6);exact uu this (bR true),rfl⟩
theorem Fy{ks:List Nat}{vs:List Int}(hv:vs=ks.map oZ)(hk:∀k∈ks,k≤5){tk:Tok} : CA (Pc ks) (.int 3 tk) (λj=>!decide (2<nv vs j)):=by
 intro prog W0 A Q E s t _ h0 h4 u hq;refine cp u λtk2 z=>?_;clear u;subst z;refine b8 (EG hv hk t.toNat) λk1 k2=>?_;refine lt_if ?_;rw[J6 _ k1]
 have e:decide (2<ks.getD t.toNat 0) = !(!decide (2<nv vs t)):=by
  unfold nv;rw[k2,Bool.not_not];exact decide_eq_decide.mpr (by lia)
 rw[e];exact hq
theorem Ae{c:Fm W0 lawS}{m:Lo}(hc:LawC c)(ht:oW c){o1 o2 o3 o4 o5:Obj}{ps qs:Array Value}{n0 NK:Ns}{e e1 e2:PE}{params:ke}{body:PE}{scope:Scope}{G kp pos p:Pos}{clos:List (Str×Addr)}{x:Str}{fa ra:Addr}{va:List Value}{ep r:Nat}{a2:Bq}{KV:Int→Value→Prop}(he:e = .Lambda params body scope G)(as:fC scope (yR c.cn lawS c.L c.a c.ccd (fT (c.L+1) lawS.names []))=ck clos)(ah:b9 c.L n0)(aa:ee ps.toList)(aj:nL (uk e) ps.toList=none)(ap:CE params c.env=([],[]))
  (hf:Ev c.cx m (bN c.L o1 o2 o3 o4 o5 ps qs++n0) (.Name x p) (.val (.ref fa))) (h1:Ev c.cx m (bN c.L o1 o2 o3 o4 o5 ps qs++n0) e1 (.val (.ref ra))) (h2:Ev c.cx m (bN c.L o1 o2 o3 o4 o5 ps qs++n0) e2 a2) (hkp:lB (K1 W0) (.ref fa)=true) (ab:(ra,listOf va.toArray ep)∈n0)
  (J:∀f ok B oc,qL e (ri c) clos B ok→jt (ri c) oc→f8 W0 f ((f,ok)::(B,oc)::NK) KV) (ax:∀ps',∀p∈NK,p∈bN c.L o1 o2 o3 o4 o5 ps' qs++n0)
  (hB:∀v2,a2.den v2→∀{n' newsK:Ns}{kl:Addr}{oc:Value}{od:Option Addr}{fd:FuncData}{sl:Array (Option Value)},f8 W0 kl newsK KV→(∀p∈newsK,p∈n')→(kl,(⟨oc,od,.func fd,sl⟩:Obj))∈n'→(ra,listOf va.toArray ep)∈n'→hH W0 fa [.ref ra,v2] [(ae "key",.ref kl)] n' 4 43 (yH r n'))
  (c2:autoParam (SE c.env e1 [e2]) zAa) (c3:autoParam (SE c.env e2 []) zAa):
  Er c.cx m (bN c.L o1 o2 o3 o4 o5 ps qs++n0) (.Call (.Name x p) [e1,e2] [⟨some (ae "key"),e,kp⟩] pos) (λv Y=>(∃t,v=.int (r:Int) t)∧∃B,∀p∈bN c.L o1 o2 o3 o4 o5 (kX e ps B) qs++n0,p∈Y):=
 wm (dp:=4) (un:=43) (c2:=c2) (c3:=c3) hf h1 h2 (KW hc ht he as ah aa aj ap) hkp (aK (bu (by decide) _) hc.hd) (aK (bu (by decide) _) hc.hu) λv2 v3 n' d2 h3=>by
  refine Qc h3 λf ok B oc n2 U H ar O u hf=>?_;subst U O;have hk:=J f ok B oc H ar;refine uq H λpm aD z=>?_;rw[he] at z;change ok=nE "<lambda>" _ _ _ _ _ pm B aD at z;subst z;refine(hB v2 d2 hk (FC (zH) (FC (zT (u _ (a8 0 rfl))) λp hp=>zT (u p (zT (ax _ p hp))))) (zH) (zT (u _ (zT (zR ab))))).mono λv n' h=>?_;obtain ⟨t⟩:=h;exact⟨⟨t,rfl⟩,B,λp hp=>zT (u p (zT hp))⟩
theorem Ce{cs:Scope}{c:Fm W0 cs}{sc:Scope}{k:Cx c sc}{m:Lo}{n:Ns}{u e:PE}{pos p:Pos}{l:Addr}{vs B:List Value}{ep:Nat}{i:Int}{P:Value→Ns→Prop}(hv:Ev k m n u (.val (.ref l)))(he:Er k m n e P)(hP:∀v n',P v n'→(∃t,v=.int i t)∧(l,listOf vs.toArray ep)∈n')(hz:vs.length≤1000)(z:jI vs.toArray.toList (some i) none=B)
  (hs:autoParam (∀(d:Addr),j8 (.Slice (some e) none none p) false (.ref l) (.ref d)=tQ [.ref d,.ref l] (pP (.ref l) (.ref d))) zAe) (ht:autoParam (∀r,eX u (.ref l) r=ck ()) zAe):
  Er k m n (.Subscript u (.Slice (some e) none none p) pos) (λv n2=>∃D v1 n',P v1 n'∧v=.ref D∧n2=(D,listOf B.toArray 0)::n'∧∀q∈n',@aR Nat _ q.1 D):=
 ⟨λQ s hi hq=>oa (hv.run _ s hi λo s1 ho i1=>by
  cases ho;refine yY (he.run _ s1 i1 λv1 n' s2 G i2=>ai (ai ?_));refine b8 (hP _ _ G) λhv hm=>?_;obtain ⟨t,rfl⟩:=hv;refine gL (qw k i2) λm0 ex F N cl=>?_
  exact Gh F N (c9 _ (i2.get hm) rfl ⟨ep,rfl⟩) (.int _ _) .none z (λD h' O J H=>hq _ _ _ (HP D _ _ G rfl rfl (λq hq=>H q (zR hq))) (cl h' s2.toks D _ O J)) (hs _) ht (by rw[aL];exact aw hz (by decide)))⟩
theorem Oc{c:Fm W0 lawS}{m:Lo}{n0:Ns}{R:Re}{rest:List Stmt}(hc:LawC c)(ht:oW c){o1 o2 o3 o4 o5:Obj}{ps qs:Array Value}{ra pa:Addr}{va vp:List Value}{ep:Nat}{ks:List Nat}{vs:List Int}(ab:b9 c.L n0)(U:ee ps.toList)(ah:nL (uk (BV (bp 7))) ps.toList=none)
  (d4:o4.data=.cell (some (.ref pa))) (Y:(pa,bB vp)∈n0) (hp:jr vp ks) (hl:ks.length=4) (hv:vs=ks.map oZ) (ap:∀k∈ks,k≤5) (hm:m (ae "row")=some (.ref ra)) (H:(ra,listOf va.toArray ep)∈n0) (B:au va (eD vs 4))
  (z:∀(wa G:Addr) (wv:List Value) (ew:Nat),au wv (dJ vs)→(∀p∈bN c.L o1 o2 o3 o4 o5 ps qs++n0,@aR Nat _ p.1 wa)→
   cN c (cj m (ae "wanted") (.ref wa)) (bN c.L o1 o2 o3 o4 o5 (kX (BV (bp 7)) ps G) qs++(wa,listOf wv.toArray ew)::n0) rest R):
  cN c m (bN c.L o1 o2 o3 o4 o5 ps qs++n0) (bp 7::rest) R:=by
 refine b8 (jU (vs:=vs) (i:=4) (aS 4)) λu hr2=>?_;refine dL (Ce (ep:=ep) (i:=(fS (λj=>!decide (2<nv vs j)) (eD vs 4) 4 0 4:Nat)) (ao hm) (Ae (a2:=.int 3) (r:=fS (λj=>!decide (2<nv vs j)) (eD vs 4) 4 0 4) (NK:=[(c.L+1+1+1+1,o4),(pa,listOf vp.toArray vp.length)]) hc ht rfl rfl ab U ah rfl fV (ao hm) bf (by with_unfolding_all rfl) H (λf ok G oc aa ar=>Qn aa ar d4 hp hl) (λps'=>FC (zL (a8 1 rfl)) (FC (zR Y) FN)) λv2 d2 {_ _ _ _ _ _ _} O hs aj as=>?_) ?_ (by rw[B.length,u];decide) rfl) λv n' h=>?_
 .obtain ⟨t2,rfl⟩:=d2
  have hb:=Jo O (Fy hv ap (tk:=t2)) hs aj as B (Kt u rfl) hr2;rw[u] at hb;exact hb
 .intro v n' h
  obtain ⟨h1,G,h2⟩:=h;exact⟨h1,h2 _ (zR H)⟩
 .obtain ⟨D,v1,n1,⟨_,G,e⟩,rfl,rfl,l1⟩:=h
  have J:∀p∈bN c.L o1 o2 o3 o4 o5 (kX (BV (bp 7)) ps G) qs++n0,@aR Nat _ p.1 D:=λp hp=>l1 p (e p hp);refine cO (z D G _ 0 (sf B _) (FA (λp hp=>kZ (P:=λa=>@aR Nat _ a D) (λp hp=>J p (zL hp)) p hp) λp hp=>J p (zR hp))) (FA (λp hp=>zT (e p (zL hp))) (FC (zH) λp hp=>zT (e p (zR hp))))
end
section
open W PyProof Rows
open PyProof.Rows.LCg
theorem LF:yG (PH vs b) (.int z tk) (λj=>decide (nv vs j*b<z)):=by
 intro prog W0 A Q E s t _ h0 h4 e hq;refine cp e λtk2 u=>?_;clear e;subst u;exact lt_int hq
theorem LD:CA (PH vs b) (.int z tk) (λj=>!decide (z<nv vs j*b)):=by
 intro prog W0 A Q E s t _ h0 h4 e hq;refine cp e λtk2 u=>?_;clear e;subst u;rw[Bool.not_not] at hq;exact lt_int hq
theorem KQ{c:Fm W0 lawS}{m:Lo}{n0:Ns}{R:Re}{rest:List Stmt}(hc:LawC c)(ht:oW c){o1 o2 o3 o4 o5:Obj}{ps qs:Array Value}{ra vt:Addr}{va vv:List Value}{ep:Nat}{vs:List Int}{most both:Int}{tm tb:Tok}(Y:b9 c.L n0)(J:ee ps.toList)(aa:nL (uk (v7 (bp 13))) ps.toList=none)
  (d3:o3.data=.cell (some (.int both tb))) (d5:o5.data=.cell (some (.ref vt))) (H:(vt,bB vv)∈n0) (hv:au vv vs) (hl:vs.length=4) (aj:∀x∈vs,0≤x∧x≤5) (hm:m (ae "row")=some (.ref ra)) (ab:m (ae "most")=some (.int most tm)) (O:(ra,listOf va.toArray ep)∈n0) (ap:au va (eD vs 4))
  (e:∀(G:Addr) (tk:Tok),cN c (cj m (ae "low") (.int (fS (λj=>decide (nv vs j*both<5*most)) (eD vs 4) 4 0 4:Nat) tk)) (bN c.L o1 o2 o3 o4 o5 (kX (v7 (bp 13)) ps G) qs++n0) rest R):
  cN c m (bN c.L o1 o2 o3 o4 o5 ps qs++n0) (bp 13::rest) R:=by
 refine b8 (jU (vs:=vs) (i:=4) (aS 4)) λz hr2=>?_;refine dL (Ae (a2:=.int (5*most)) (r:=fS (λj=>decide (nv vs j*both<5*most)) (eD vs 4) 4 0 4) (NK:=[(c.L+1+1+1,o3),(c.L+1+1+1+1+1,o5),(vt,listOf vv.toArray vv.length)]) hc ht rfl rfl Y J aa rfl fV (ao hm) (km bf (ag ab) (fO (by decide))) (by with_unfolding_all rfl) O (λf ok G oc U ar=>Om U ar d3 d5 hv hl aj) (λps'=>FC (zL (a8 2 rfl)) (FC (zL (a8 0 rfl)) (FC (zR H) FN))) λv2 d2 {_ _ _ _ _ _ _} B hs ah as=>?_) λv n' h=>?_
 .obtain ⟨t2,rfl⟩:=d2
  have hb:=O1 (xv:=.int (5*most) t2) (g:=λj=>decide (nv vs j*both<5*most)) B LF hs ah as ap (Kt z rfl) hr2;rw[z] at hb;exact hb
 .obtain ⟨⟨t,rfl⟩,G,u⟩:=h
  exact cO (e G t) u
theorem KP{c:Fm W0 lawS}{m:Lo}{n0:Ns}{R:Re}{rest:List Stmt}(hc:LawC c)(ht:oW c){o1 o2 o3 o4 o5:Obj}{ps qs:Array Value}{ra vt:Addr}{va vv:List Value}{ep:Nat}{vs:List Int}{most both:Int}{tm tb:Tok}(Y:b9 c.L n0)(J:ee ps.toList)(aa:nL (uk (v7 (bp 14))) ps.toList=none)
  (d3:o3.data=.cell (some (.int both tb))) (d5:o5.data=.cell (some (.ref vt))) (H:(vt,bB vv)∈n0) (hv:au vv vs) (hl:vs.length=4) (aj:∀x∈vs,0≤x∧x≤5) (hm:m (ae "row")=some (.ref ra)) (ab:m (ae "most")=some (.int most tm)) (O:(ra,listOf va.toArray ep)∈n0) (ap:au va (eD vs 4))
  (e:∀(G:Addr) (tk:Tok),cN c (cj m (ae "high") (.int (fS (λj=>!decide (5*most<nv vs j*both)) (eD vs 4) 4 0 4:Nat) tk)) (bN c.L o1 o2 o3 o4 o5 (kX (v7 (bp 14)) ps G) qs++n0) rest R):
  cN c m (bN c.L o1 o2 o3 o4 o5 ps qs++n0) (bp 14::rest) R:=by
 refine b8 (jU (vs:=vs) (i:=4) (aS 4)) λz hr2=>?_;refine dL (Ae (a2:=.int (5*most)) (r:=fS (λj=>!decide (5*most<nv vs j*both)) (eD vs 4) 4 0 4) (NK:=[(c.L+1+1+1,o3),(c.L+1+1+1+1+1,o5),(vt,listOf vv.toArray vv.length)]) hc ht rfl rfl Y J aa rfl fV (ao hm) (km bf (ag ab) (fO (by decide))) (by with_unfolding_all rfl) O (λf ok G oc U ar=>Ol U ar d3 d5 hv hl aj) (λps'=>FC (zL (a8 2 rfl)) (FC (zL (a8 0 rfl)) (FC (zR H) FN))) λv2 d2 {_ _ _ _ _ _ _} B hs ah as=>?_) λv n' h=>?_
 .obtain ⟨t2,rfl⟩:=d2
  have hb:=Jo (xv:=.int (5*most) t2) (g:=λj=>!decide (5*most<nv vs j*both)) B LD hs ah as ap (Kt z rfl) hr2;rw[z] at hb;exact hb
 .obtain ⟨⟨t,rfl⟩,G,u⟩:=h
  exact cO (e G t) u
end
section
open W PyProof Rows Spec PySem.Calls Rows.LCg
noncomputable def Pw(i:Int):Value→Bool
 | .int a _=>a==i
 | _=>false
theorem IH(h:au vs xs)(i:Int):vs.toArray.any (Pw i)=decide (i∈xs):=by
 rw[List.any_toArray]
 induction h with
 | nil=>rfl
 | cons a t _ u=>
  rw[List.any_cons,u]
  by_cases e:a=i
  .subst e;simp [Pw]
  .have:(i=a)=False:=by simp;exact λh=>e h.symm
   simp [Pw,this,e]
section
variable {cs:Scope}{c:Fm W0 cs}{sc:Scope}{k:Cx c sc}{m:Lo}{n:Ns}{R:Re}
theorem yh(ht:Tw k m n test (eval test k.env) b)(h1:b=true→Ev k m n body al)(h2:b=false→Ev k m n e al):Ev k m n (.IfExp test body e pos) al:=
 ⟨λQ s hi hq=>wpAny_IfExp (ht.run _ s hi λs' h'=>by
  cases b with
  | true=>exact(h1 rfl).run Q s' h' hq
  | false=>exact(h2 rfl).run Q s' h' hq)⟩
theorem Nd(hl:Ev k m n l (.int i))(hr:Ev k m n r (.val (.ref a)))(hm:(a,listOf vs.toArray ep)∈n)(B:au vs xs)(hb:autoParam (eR .In r=false) zAc):Tw k m n (.Compare l [.In] [r] pos) wh (decide (i∈xs)):=
 ⟨λ_ s hi hq=>bY (hl.run _ s hi λv s1 hv h1=>hr.run _ s1 h1 λv2 s2 G h2=>by
  refine cp hv λt u=>?_
  try clear hv
  subst u;cases G;refine SeqAt.in_listAt (Pw i) (c9 _ (h2.get hm) rfl ⟨ep,rfl⟩) (λy J=>?_) ?_
  .have z:y∈vs:=by simpa using J
   obtain ⟨j,hj,e⟩:=lL z
   have H:j<xs.length:=by rw[← B.length];exact hj
   refine cp (B.get j xs[j] (am H)) λtb hb=>?_;rw[am hj,e] at hb;cases hb;exact SeqAt.EqAt.int_int _ _ _ _
  .rw[IH B]
   exact aY (hq _ h2)) hb⟩
theorem Ey{elt:PE}{x:Str}{scope:Scope}{cl:List (Str×Addr)}(hkind:scope.kind=.function){n1:Ns}{v:Value}{s1:Shared}{xs:List Int}{nn:Nat}{It:Nat→Value→Prop}{kp:Ns}{f:Int→Int}{P:Value→Ns→Prop}(S:tM k m n1 v s1 xs nn It kp)
  (ht:∀C E' mC n2 y t,y∈xs→mC x=some (.int y t)→(∀p∈n1,p∈n2)→Ev (k.comp m scope cl C E' hkind) mC n2 elt (.int (f y)))
  (hP:∀D zs,au zs (xs.map f)→(∀p∈n1,@aR Nat _ p.1 D)→P (.ref D) ((D,bB zs)::n1)):
  ww k m n1 elt x [] scope cl hkind nn It kp (λi out n3=>n3=n1∧au out ((xs.take i).map f)) P where
 hJ:=⟨rfl,.nil⟩
 hkp:=λi out n3 h=>by
  obtain ⟨e,h⟩:=h;subst e;exact⟨S.kp,by rw[h.length,aE,eO];exact jy ..⟩
 turn:=λi v out n3 C I D oI E' mC hi hv hJ Y H ab ah aa aj hex=>by
  refine b8 hJ λe O=>?_
  try clear hJ
  subst e;refine cp (S.it i v hi hv) λt B=>?_;subst B
  have G:i<xs.length:=by rw[S.l];exact hi
  have hg:xs.getD i 0=xs[i]:=by rw[ay,am G];rfl
  have U:xs.take (i+1)=xs.take i++[xs.getD i 0]:=by rw[qW,am G,hg];rfl
  have J:xs.getD i 0∈xs:=by rw[hg];exact bH G
  refine(c9 true (λQ s hi hq=>pg (hq s hi)) (λ_=>fB (iM (ht C E' mC _ _ t J Y λp hp=>zT (zT hp))) λv5 n5 h5=>?_) (λh=>nomatch h));refine b8 h5 λu e5=>?_
  try clear h5
  refine cp u λt5 h5=>?_
  try clear u
  subst e5;subst h5;refine⟨n3,λp hp=>hp,H,rfl,?_⟩;rw[U,aX];exact O.append (.cons _ _ .nil)
 done:=λout n3 D hJ h1 h2=>by
  refine b8 hJ λe O=>?_
  try clear hJ
  subst e;rw[← S.l,cT] at O;exact hP D out O h1
 hsz:=aw S.z (by decide)
theorem Di(h:Tw k m n e wh b):An k m n e wh (λu n'=>u=b∧n'=n):=⟨λQ s hi hq=>h.run _ s hi λs' h'=>hq _ _ _ ⟨rfl,rfl⟩ h'⟩
theorem xE{e:PE}{wh:Sem Value}{P P':Bool→Ns→Prop}(h:An k m n e wh P)(hp:∀b n',P b n'→P' b n'):An k m n e wh P':=⟨λQ s hi hq=>h.run _ s hi λb n' s' p h'=>hq _ _ _ (hp _ _ p) h'⟩
theorem AC{x:PE}{rest:List PE}{pos wh}{P1 P:Bool→Ns→Prop}(h:An k m n x (eval x k.env) P1)(hr:∀n',P1 true n'→An k m n' (.BoolOp .And rest pos) wh P)(hf:∀n',P1 false n'→P false n'):An k m n (.BoolOp .And (x::rest) pos) wh P:=⟨λQ s hi hq=>vJ (h.run _ s hi λb n' s' p h'=>by
 cases b with
 | false=>exact hq _ _ _ (hf _ p) h'
 | true=>exact(hr _ p).run _ _ h' hq)⟩
theorem zd{pos wh}{P:Bool→Ns→Prop}(h:P false n):An k m n (.BoolOp .Or [] pos) wh P:=⟨λQ s hi hq=>isTrue_or_nil (hq _ _ _ h hi)⟩
theorem Dj{x:PE}{rest:List PE}{pos wh}{P1 P:Bool→Ns→Prop}(h:An k m n x (eval x k.env) P1)(hr:∀n',P1 false n'→An k m n' (.BoolOp .Or rest pos) wh P)(hf:∀n',P1 true n'→P true n'):An k m n (.BoolOp .Or (x::rest) pos) wh P:=⟨λQ s hi hq=>isTrue_or (h.run _ s hi λb n' s' p h'=>by
 cases b with
 | true=>exact hq _ _ _ (hf _ p) h'
 | false=>exact(hr _ p).run _ _ h' hq)⟩
theorem AB{op:CmpOp}{l r:PE}{pos:Pos}{wh:Sem Value}{P:Value→Ns→Prop}{P2:Value→Ns→Value→Ns→Prop}{P':Bool→Ns→Prop}(hl:Er k m n l P)(hr:∀v n1,P v n1→Er k m n1 r (P2 v n1))
  (h:∀v n1 v2 n2,P v n1→P2 v n1 v2 n2→∀(Q:VP) s,k.Is m n2 s→(∀b s',P' b n2→k.Is m n2 s'→Q (.bool b) s')→aA (aq P0 W0) c.A (fo op v v2) Q k.E s) (hm:autoParam (eR op r=false) zAc):An k m n (.Compare l [op] [r] pos) wh P':=
 ⟨λQ s hi hq=>bY (hl.run _ s hi λv n1 s1 e i1=>(hr v n1 e).run _ s1 i1 λv2 n2 s2 u i2=>h v n1 v2 n2 e u _ s2 i2 λb z hp i3=>aY (hq _ _ _ hp i3)) hm⟩
end
end
section
open W PyProof Rows
open PyProof.Rows.LCg
noncomputable def OT:List Stmt:=vg P0.main.body 24
noncomputable def LK:Scope:=tw P0.main.body 24
theorem AE{cs:Scope}{c:Fm W0 cs}{m:Lo}{n:Ns}{e1 e2:PE}{kk:Nat}{pos:Pos}{a b:Int}(h1:Ev c.cx m n e1 (.int a))(h2:Ev c.cx m n e2 (.int b))
  (H:autoParam (∀r,SE c.env e1 r) zAb) (G:autoParam (∀r,SE c.env e2 r) zAb):
  Er c.cx m n (.Tuple [e1,e2] kk pos) (λv n'=>∃D t1 t2,v=.ref D∧n'=(D,dU #[.int a t1,.int b t2])::n∧(∀p∈n,@aR Nat _ p.1 D)):=
 ⟨λQ s hi hq=>vM (uO (k:=c.cx) h1 h2 H G hi λv1 v2 s1 B d2 e=>by
  refine cp B λt1 z=>?_
  try clear B
  subst z;refine cp d2 λt2 u=>?_
  try clear d2
  subst u
  exact iF e.at.1 e.at.2 (λD h' O J hl=>hq _ _ _ (nV D t1 t2 rfl rfl hl) (e.to (tk:=s1.toks) O J)) (by decide:(2:Nat)≤ec))⟩
theorem ya{cs:Scope}{c:Fm W0 cs}{m:Lo}{n:Ns}{R:Re}{rest:List Stmt}{e:PE}{B z:Str}{J H u pos:Pos}{kk:Nat}{P:Value→Ns→Prop}(he:Er c.cx m n e P)(hP:∀v n',P v n'→∃D v1 v2,v=.ref D∧(D,dU #[v1,v2])∈n'∧cN c (cj (cj m B v1) z v2) n' rest R)
  (hs:autoParam (lV [.Tuple [.Name B J,.Name z H] kk u] e pos.line c.env=ck false) zAa) (hw:autoParam (fW [.Tuple [.Name B J,.Name z H] kk u] e c.env=ck none) zAa) (k1:autoParam (c.env.kindOf B=some .local) zAa) (k2:autoParam (c.env.kindOf z=some .local) zAa)
  (hn:autoParam ((dc [.Name B J,.Name z H] c.env).map (·.2)=[dh (.Name B J) c.env,dh (.Name z H) c.env]) zAa) (hl:autoParam ((dc [.Name B J,.Name z H] c.env).length=2) zAa) (hf:autoParam ((dc [.Name B J,.Name z H] c.env).findIdx? (·.1)=none) zAa):cN c m n (.Assign [.Tuple [.Name B J,.Name z H] kk u] e pos::rest) R:=
 bL ⟨λQ s hi hq=>I3 (he.run _ s hi λv n' s1 hp i1=>by
  refine zB (hP v n' hp) λD v1 v2 O hm Y=>?_;subst O;have G:c.Is m n' s1:=i1;refine unpackN_ G.at.1 G.at.2 (is_tup (vs:=[v1,v2]) G hm) rfl hl hf λh2 F2 N2=>?_;rw[hn]
  exact be (tV (du (G.to (tk:=s1.toks) F2 N2) (λs3 i3=>be (tV (du i3 (λs4 U=>fE (hq .next _ _ _ Y U)) k2))) k1))) hs hw⟩
theorem uI{cs:Scope}{c:Fm W0 cs}{m:Lo}{n:Ns}{R:Re}{e:PE}{pos:Pos}{rest:List Stmt}{P:Value→Ns→Prop}(he:Er c.cx m n e P)(h:∀v n',P v n'→R (.ret v) m n'):cN c m n (.Return (some e) pos::rest) R:=
 bL ⟨λQ s hi hq=>iP (he.run _ s hi λv n' s' hv h'=>hq (.ret v) _ _ _ (h v n' hv) h'.lib)⟩
theorem FI{i t:Nat} : (gh (((i:Nat):Int).fdiv (2 ^ t)) 1 != 0)=bt (i:Int) (t:Int):=by
 unfold bt;rw[bitAnd_m1,bM,bM,iN _ (Int.pow_nonneg (by decide))]
 have e:((i:Nat):Int)/2 ^ t % 2=((i/2 ^ t % 2:Nat):Int):=by simp
 rw[e]
 have:i/2 ^ t % 2=0∨i/2 ^ t % 2=1:=by lia
 rcases this with h|h<;>rw[h]<;>decide
theorem tI(h0:0≤y):(gh (((i:Nat):Int).fdiv (2 ^ y.toNat)) 1 != 0)=bt (i:Int) y:=by
 rw[FI];unfold bt;rw[bM,bM]
noncomputable def jW(vs:List Int)(sv:List Value)(i:Nat):List Value:=((aV i).filter (λc:Nat=>pW vs (c:Int))).map (λc=>sv.getD c .none)
theorem r6:((aV 4).map λi:Nat=>(i:Int))=[0,1,2,3]:=rfl
theorem JN(h:t∈th i):0≤t∧t<4:=by
 have:=(bZ.mp h).1;simp only[ak,bT,or_false] at this;lia
theorem mU(l:List Int):gx l=l.sum:=by
 have h:∀(l:List Int) (a:Int),l.foldl (· + ·) a=a+l.sum:=by
  intro l
  induction l with
  | nil=>intro a;simp
  | cons x r e=>intro a;rw[List.foldl_cons,e,List.sum_cons,kU]
 unfold gx;rw[h,fQ]
theorem ND(u:∀x∈vs,0≤x∧x≤5)(t:Int):0≤nv vs t∧nv vs t≤5:=by
 unfold nv;rw[ay]
 cases e:vs[t.toNat]? with
 | none=>exact⟨by decide,by decide⟩
 | some x=>exact u x (cq e)
theorem Dt{α:Type}{f:α→Int}(h:∀x,0≤f x∧f x≤5):∀l:List α,0≤(l.map f).sum∧(l.map f).sum≤5*(l.length:Int)
 | []=>by simp
 | x::r=>by
  have a:=h x;have b:=Dt h r;rw[kL,List.sum_cons,gV];exact⟨eV [f x,(f0 f r).sum] 1 Y0 (.a Z0 Z1) 1 Y0 Z1 1 Y0 Z0 rfl b.1 a.1,eV [f x,(f0 f r).sum,r.length] 1 (.a Z0 Z1) (.m 5 (.a Z2 Y1)) 1 Z1 (.m 5 Z2) 1 Z0 (.k 5) rfl b.2 a.2⟩
theorem A5{vs:List Int}(e:∀x∈vs,0≤x∧x≤5)(i:Int):0≤fP vs i∧fP vs i≤20:=by
 unfold fP;rw[mU];have h:=Dt (ND e) (th i);have l:(th i).length≤4:=bU ..;exact⟨cW [(f0 (nv vs) (th i)).sum] 1 Y0 Z0 1 Y0 Z0 rfl h.1,eV [(f0 (nv vs) (th i)).sum,↑((th i).length)] 1 Z0 (.k 20) 5 Z1 (.k 4) 1 Z0 (.m 5 Z1) rfl (ef l) h.2⟩
theorem FE(e:∀x∈vs,0≤x∧x≤5):∀i,0≤(qJ vs i).1∧(qJ vs i).1≤20
 | 0=>⟨b7 _,(by decide:(0:Int)≤20)⟩
 | i+1=>by
  unfold qJ
  split
  .exact A5 e i
  .exact FE e i
theorem wX{vs:List Int}{i:Nat}(h:fP vs i*(gx vs+5*(qJ vs i).2) > (qJ vs i).1*(gx vs+5*((th (i:Int)).length:Int))):qJ vs (i+1)=(fP vs i,((th (i:Int)).length:Int)):=if_pos h
theorem Ai{vs:List Int}{i:Nat}(h:¬(fP vs i*(gx vs+5*(qJ vs i).2) > (qJ vs i).1*(gx vs+5*((th (i:Int)).length:Int)))):qJ vs (i+1)=qJ vs i:=if_neg h
structure QZ(L:Addr)(N:Ns)(o1:Obj)(vs:List Int)(i:Nat)(m1:Lo)(n1:Ns):Prop where
 h:∃t1 t2 o2 v0,m1 (ae "most")=some (.int (qJ vs i).1 t1)∧m1 (ae "size")=some (.int (qJ vs i).2 t2)∧o2.data=.cell v0∧n1=(L+1+1,o2)::(L+1,o1)::N
theorem FD{c:Fm W0 LK}(ax:c.cl=fT (c.L+1) LK.names []){m:Lo}{N:Ns}{o1 o2:Obj}{vt:Addr}{vv:List Value}{vs:List Int}{ep:Nat}(d1:o1.data=.cell (some (.ref vt)))(d2:o2.data=.cell none)(c2:(vt,listOf vv.toArray ep)∈N)(hv:au vv vs)(hl:vs.length=4)(b5:∀x∈vs,0≤x∧x≤5)(off:∀p∈N,@aR Nat _ p.1 c.L):
  cN c m ((c.L+1+1,o2)::(c.L+1,o1)::N) OT (λf m' n'=>∃D t1 t2,f=.ret (.ref D)∧(∀p∈(D,dU #[.int (df vs) t1,.int (sizeOf vs) t2])::N,p∈n')∧(∀p∈N,@aR Nat _ p.1 D)):=by
 refine ya (AE bf bf) λv n' h=>?_;obtain ⟨D,t1,t2,rfl,rfl,_⟩:=h;refine⟨D,_,_,rfl,a8 0 rfl,cO (n':=(c.L+1+1,o2)::(c.L+1,o1)::N) ?_ λp hp=>bk 1 hp⟩;have J:cj (cj m (ae "most") (.int 0 t1)) (ae "size") (.int 0 t2) (ae "most")=some (.int 0 t1):=rfl;have H:cj (cj m (ae "most") (.int 0 t1)) (ae "size") (.int 0 t2) (ae "size")=some (.int 0 t2):=rfl;generalize cj (cj m (ae "most") (.int 0 t1)) (ae "size") (.int 0 t2)=m at J H;refine qD (a:=0) (b:=16) (k:=16) (ca:=c.L+1+1) (by rw[ax];rfl) ?hr rfl (by decide) (λI=>QZ c.L N o1 vs) ?h0 ?turn ?done
 case hr=>exact ry cR bf
 case h0=>
  intro I hI;exact⟨t1,t2,o2,none,J,H,d2,rfl⟩
 case done=>
  rintro I m1 n1 hI ⟨u1,u2,o3,v0,J,H,cA,rfl⟩;refine uI (AE (ag J) (ag H)) ?_;intro v n' a4;refine zB a4 λD w1 w2 bm bl O=>?_;clear a4;subst bm;subst bl;refine(nV D w1 w2 rfl (λp hp=>?_) (λp hp=>O p (zT (zT hp))))
  rcases ak.mp hp with h|h
  .rw[h];exact zH
  .exact zT (zT (zT h))
 case turn=>
  rintro i t m1 n1 I oI hi hI ⟨u1,u2,o3,v0,J,H,cA,rfl⟩;have cC:@aR Nat _ (c.L+1+1) I:=hI (c.L+1+1,o2) (zH);refine(nV o3 (λo'=>(I,oI)::(c.L+1+1,o')::(c.L+1,o1)::N) v0 (.tail (jA cC) (.head ?_)) cA (λo' as=>?_))
  .intro p hp
   rcases ak.mp hp with rfl|hp
   .exact lc (aJ _)
   .exact lc (aP (off p hp) (aW (aJ _)))
  rw[fQ] at as
  have mc:(c.L+1+1,o')∈(I,oI)::(c.L+1+1,o')::(c.L+1,o1)::N:=by k_extra "zmm"
  have mv:(c.L+1,o1)∈(I,oI)::(c.L+1+1,o')::(c.L+1,o1)::N:=by k_extra "zmm"
  have mt:(vt,listOf vv.toArray ep)∈(I,oI)::(c.L+1+1,o')::(c.L+1,o1)::N:=by k_extra "zmm"
  have mI:(I,oI)∈(I,oI)::(c.L+1+1,o')::(c.L+1,o1)::N:=by k_extra "zmm"
  have aj:∀p∈(c.L+1+1,o')::(c.L+1,o1)::N,p∈(I,oI)::(c.L+1+1,o')::(c.L+1,o1)::N∧p.1≠I:=λp hp=>by
   refine⟨zT hp,?_⟩
   rcases ak.mp hp with rfl|hp
   .exact lc cC
   .exact lc (hI p (zT hp))
  refine(?_:cN c m1 ((I,oI)::(c.L+1+1,o')::(c.L+1,o1)::N) (.Assign [.Name _ _] (.ListComp (.Name _ _) [⟨.Name _ _,_,[_],0⟩] _ _) _::.Assign [.Name _ _] (.Call (.Name _ _) [.ListComp _ [⟨.Name _ _,.Name _ _,[],0⟩] _ _] [] _) _::.If (.Compare _ [.Gt] [_] _) [.Assign [.Tuple _ _ _] (.Tuple [_,_] _ _) _] [] _::[]) _);generalize c3:(I,oI)::(c.L+1+1,o')::(c.L+1,o1)::N=NN at mc mv mt mI aj ⊢;refine rx (cl:=[(ae "choice",c.L+1+1)]) (P:=λv n'=>∃G B,v=.ref G∧n'=(G,bB B)::NN∧au B (th i)) rfl (jd (a:=0) (b:=4) ?hr2) ?hc1 ?k1 (by rfl) (wM ax rfl)
  case hr2=>exact ry cR bf
  case hc1=>
   intro v N2 s2 a0 i2;refine b8 a0 λe aQ=>?_;clear a0;refine BQ aQ λr t2 u z br hr=>?_
   try clear aQ
   subst br;have e':=e.symm;subst e';have hS:=qC (k:=c.cx) (m:=m1) (n:=NN) hr (by decide) (by decide);refine(vq _ _ _ _ hS.p (wN (g:=bt (i:Int)) rfl hS ?_ ?_))
   .intro C E' mC n2 y t hy bh hs2
    rw[r6] at hy
    have y0:0≤y:=by simp only[ak,bT,or_false] at hy;lia
    rw[← tI y0];exact kh (qG (qE (qj (eN (a:=c.L+1+1) (o:=o') rfl (hs2 _ mc) as)) (ag bh) y0) bf)
   .intro D B hz O
    rw[r6] at hz;exact(iw D B rfl rfl hz)
  case k1=>
   intro v n' aM;refine gL aM λG B bj bi b0=>?_;clear aM;subst bj;subst bi;have bv:(G,bB B)∈(G,bB B)::NN:=zH;have ar:B.length=(th (i:Int)).length:=b0.length;have b4:(th (i:Int)).length≤4:=bU ..;have a5:∀mm nn pos,Ev c.cx mm nn (.Name (ae "sum") pos) (.val (.builtin "sum")):=λmm nn pos=>cR;have cy:∀mm nn pos,Ev c.cx mm nn (.Name (ae "len") pos) (.val (.builtin "len")):=λmm nn pos=>cR;refine dL (Fc (P:=λv n'=>∃Hd zz,v=.ref Hd∧n'=(Hd,bB zz)::(G,bB B)::NN∧au zz ((th (i:Int)).map (nv vs))) (P':=λv n'=>(∃tt,v=.int (fP vs i) tt)∧∀p∈(G,bB B)::NN,p∈n') (a5 _ _ _) (nB (cl:=[(ae "votes",c.L+1)]) rfl (so (iM (ao (v:=.ref G) rfl))) ?hc2 (wM ax rfl)) ?hs2) ?k2
   case hc2=>
    intro v n2 s2 aD i2;refine b8 aD λc0 e2=>?_;clear aD;cases c0;subst e2;have Ql:=gF (G,bB B) mv;have cQ:=gF (G,bB B) mt;have hS:=pC i2 bv b0 (aw b4 (by decide));refine(vq _ _ _ _ hS.p (Ey (f:=nv vs) rfl hS ?_ ?_))
    .intro C E' mC n3 y t hy bh cd
     have bb:=JN hy;exact ft (eN (a:=c.L+1) (o:=o1) rfl (cd _ Ql) d1) (ag bh) (cd _ cQ) hv bb.1 (by exact eV [y,vs.length] 1 (.a Z0 Y1) Z1 1 (.a Z0 Y1) (.k 4) 1 (.k 4) Z1 rfl bb.2 (l9 hl)) (by exact cW [y] 1 (.a Z0 Y1) (.k (2 ^ 63)) 1 (.a Z0 Y1) (.k 4) rfl bb.2)
    .intro D zz hz O
     exact(iw D zz rfl rfl hz)
   case hs2=>
    intro v n2 aa;refine gL aa λHd zz a7 a6 cU=>?_;clear aa;subst a7;subst a6;refine(EQ Hd zz _ zz.length rfl (zH) cU (λt3=>⟨⟨t3,?_⟩,λp hp=>zT hp⟩));unfold fP;rw[mU]
   case k2=>
    intro v n2 Y;refine b8 Y λU cc=>?_;clear Y;refine cp U λt3 bo=>?_
    try clear U
    subst bo;refine cO ?_ cc;have cz:=A5 b5 (i:Int);have cB:=FE b5 i;have cw:(cj (cj m1 (ae "things") (.ref G)) (ae "held") (.int (fP vs i) t3)) (ae "most")=some (.int (qJ vs i).1 u1):=J;have cn:(cj (cj m1 (ae "things") (.ref G)) (ae "held") (.int (fP vs i) t3)) (ae "size")=some (.int (qJ vs i).2 u2):=H;have cM:(vt,listOf vv.toArray ep)∈(G,bB B)::NN:=zT mt;have cD:(c.L+1,o1)∈(G,bB B)::NN:=zT mv;have b6:=λmm pos ah ab=>Lq (pos:=pos) (a5 mm _ ab) (eN (k:=c.cx) (m:=mm) (x:=ae "votes") (pos:=ah) (by refine(?_:c.cl.lookup _=_);rw[ax];rfl) cD d1) cM hv;have O:=λmm pos ah ab (c1:mm (ae "things")=some (.ref G))=>qF (pos:=pos) (cy mm _ ab) (ao (k:=c.cx) (pos:=ah) c1) bv (by rw[ar];exact r8 b4 (bR true));refine dE (eJ qk (km (ag rfl) (eg (b6 _ _ _ _) (km bf (ag cn) (fO (by decide)))) (fO (by exact L3 (cW [fP vs (i:Int)] 1 Y0 Z0 1 Y0 Z0 rfl cz.1) (cW [fP vs (i:Int)] 1 (.a Z0 Y1) (.k 1048576) 1 Z0 (.k 20) rfl cz.2)))) (km (ag cw) (eg (b6 _ _ _ _) (km bf (O _ _ _ _ rfl) (fO (by decide)))) (fO (by exact L3 (cW [(qJ vs i).fst] 1 Y0 Z0 1 Y0 Z0 rfl cB.1) (cW [(qJ vs i).fst] 1 (.a Z0 Y1) (.k 1048576) 1 Z0 (.k 20) rfl cB.2))))) ?ht ?he
    case ht=>
     intro hb
     have ap:fP vs i*(gx vs+5*(qJ vs i).2) > (qJ vs i).1*(gx vs+5*((th (i:Int)).length:Int)):=by
      rw[mU,← ar];exact of_decide_eq_true hb
     refine sk (ag rfl) (O _ _ _ _ rfl) λw1 w2=>?_;refine bQ (cb ⟨zT mI,(c.L+1+1,o')::(c.L+1,o1)::N,λp hp=>⟨zT (aj p hp).1,(aj p hp).2⟩,w1,w2,o',_,?_,?_,as,rfl⟩)
     .refine(?_:some (eY (fP vs i) w1)=some (eY (qJ vs (i+1)).1 w1))
      rw[wX ap]
     .refine(?_:some (eY (B.length:Nat) w2)=some (eY (qJ vs (i+1)).2 w2))
      rw[wX ap,ar]
    case he=>
     intro hb
     have ap:¬(fP vs i*(gx vs+5*(qJ vs i).2) > (qJ vs i).1*(gx vs+5*((th (i:Int)).length:Int))):=by
      rw[mU,← ar];exact of_decide_eq_false hb
     refine bQ (cb ⟨zT mI,(c.L+1+1,o')::(c.L+1,o1)::N,λp hp=>⟨zT (aj p hp).1,(aj p hp).2⟩,u1,u2,o',_,?_,?_,as,rfl⟩)
     .refine cw.trans ?_
      rw[Ai ap]
     .refine cn.trans ?_
      rw[Ai ap]
theorem LJ{n:Ns}{vt:Addr}{vv:List Value}{vs:List Int}{ep:Nat}(e:(vt,listOf vv.toArray ep)∈n)(hv:au vv vs)(hl:vs.length=4)(u:∀x∈vs,0≤x∧x≤5):fk W0 357 [.ref vt] n 9 100 (λv n'=>∃D t1 t2,v=.ref D∧(∀p∈(D,dU #[.int (df vs) t1,.int (sizeOf vs) t2])::n,p∈n')∧(∀p∈n,@aR Nat _ p.1 D)):=
 tH (body:=OT) (scope:=LK) (binds:=[("votes",.ref vt)]) (by with_unfolding_all rfl) (by with_unfolding_all rfl) (λs X=>dG rfl) rfl (by decide +kernel) rfl rfl rfl λc m B hd hu z Y off _=>by
  obtain ⟨o2,o1,rfl,e2,e1⟩:=Jz (n:=ae "choice") (c:=c.L+1+1) (n':=ae "votes") (c':=c.L+1) Y
  exact lg (FD z e1 e2 e hv hl u off) λf m' n' h=>by
   obtain ⟨D,t1,t2,rfl,h⟩:=h;exact⟨n',⟨D,t1,t2,rfl,h⟩,λ_ h=>h⟩
end
section
open W PyProof Rows
open PyProof.Rows.LCg
theorem Ob(hc:LawC c)
  (B:o5.data=.cell (some (.ref vt))) (u:(vt,bB vv)∈n0) (hv:au vv vs) (hl:vs.length=4) (z:∀x∈vs,0≤x∧x≤5)
  (e:∀(t1 t2:Tok),cN c (cj (cj m (ae "most") (.int (df vs) t1)) (ae "size") (.int (sizeOf vs) t2)) (bN c.L o1 o2 o3 o4 o5 ps qs++n0) rest R):
  cN c m (bN c.L o1 o2 o3 o4 o5 ps qs++n0) (bp 8::rest) R:=by
 refine ya (Fj (LJ (zR u) hv hl z) fV (eN (a:=c.L+1+1+1+1+1) (o:=o5) (by refine(?_:c.cl.lookup _=_);rw[hc.cl];rfl) (zL (a8 0 rfl)) B) (by with_unfolding_all rfl) (aK (bu (by decide) _) hc.hd) (aK (bu (by decide) _) hc.hu)) λv n' h=>?_;obtain ⟨D,t1,t2,rfl,hs,_⟩:=h;exact⟨D,_,_,rfl,hs _ (a8 0 rfl),cO (e t1 t2) λp h=>hs p (bk 1 h)⟩
theorem PN(hl:@aR Nat _ 366 L)(u:b9 L n0):
  xf (L+1+1+1) o3 (bN L o1 o2 o3 o4 o5 ps qs++n0) (λo'=>bN L o1 o2 o' o4 o5 ps qs++n0):=by
 refine BR u.all λU O z J H G B=>?_;refine .tail (jA (aW (aJ _))) (.tail (jA (aJ _)) (.head ?_));intro p hp;have e:p∈(L+1+1,o2)::(L+1,o1)::(364,bS ps)::(256,bS qs)::n0:=hp;simp only[ak] at e
 rcases e with rfl|rfl|rfl|rfl|hp
 .exact lc (aJ _)
 .exact lc (aW (aJ _))
 .exact lc (aP (aP (by decide:(364:Nat)<366) hl) (aO (aJ _) (bA (L+1) 2)))
 .exact lc (aP (aP (by decide:(256:Nat)<366) hl) (aO (aJ _) (bA (L+1) 2)))
 .exact z p hp
theorem AW{c:Fm W0 lawS}(e:Lo)(nn:Ns)(pos:Pos):Ev c.cx e nn (.Name (ae "len") pos) (.val (.builtin "len")):=cR
theorem Fe{cs:Scope}{c:Fm W0 cs}{m:Lo}{n:Ns}{u e:PE}{z:Pos}{l:Addr}{vs:List Value}{ep:Nat}(hl:Ev c.cx m n u (.val (.type "list")))(he:Ev c.cx m n e (.val (.ref l)))(hm:(l,listOf vs.toArray ep)∈n)(hz:vs.length≤1000)
  (c1:autoParam (CC c.env u [e] z) zAa) (s1:autoParam (SE c.env e []) zAa):
  Er c.cx m n (.Call u [e] [] z) (λv n'=>∃D er,v=.ref D∧n'=(D,listOf vs.toArray er)::n∧∀p∈n,@aR Nat _ p.1 D):=
 ⟨λQ s hi hQ=>gu (hl.run _ s hi λv z1 G i1=>by
  cases G;refine callWith_type1 (aI (he.run _ z1 i1 λv z2 d2 i2=>bK ?_) s1) s1;cases d2
  exact list_copyK i2.at.1 i2.at.2 (c9 _ ((i2.at.2 _ hm).1) rfl ⟨ep,rfl⟩) (λD er h' J H B=>hQ _ _ _ ⟨D,er,rfl,rfl,B⟩ (i2.to J H)) (by rw[aL];exact aw hz (by decide))) c1⟩
theorem Oa{c:Fm W0 lawS}{m:Lo}{n0:Ns}{R:Re}{rest:List Stmt}(hc:LawC c){o1 o2 o3 o4 o5:Obj}{ps qs:Array Value}{wa:Addr}{wv:List Value}{ew:Nat}{sz:Int}{Y:Tok}(J:b9 c.L n0)
  (d3:o3.data=.cell none) (H:(wa,listOf wv.toArray ew)∈n0) (G:wv.length≤1000) (hm:m (ae "wishes")=some (.ref wa)) (U:m (ae "size")=some (.int sz Y))
  (z:∀(o:Obj) (tb:Tok),o.data=.cell (some (.int ((wv.length:Nat)+5*sz) tb))→cN c m (bN c.L o1 o2 o o4 o5 ps qs++n0) rest R):
  cN c m (bN c.L o1 o2 o3 o4 o5 ps qs++n0) (bp 9::rest) R:=by
 refine pF (a:=c.L+1+1+1) (iM (eg (qF (AW _ _ _) (ao hm) (zR H) G) (km bf (ag U) (fO (by decide))))) (by rw[hc.cl];rfl) λv n' hv=>?_;refine b8 hv λe u=>?_
 try clear hv
 refine cp e λtb B=>?_
 try clear e
 subst B;subst u;exact(nV o3 _ none (PN hc.lo J) d3 (λo' O=>z o' tb O))
theorem KU{c:Fm W0 lawS}{m:Lo}{n:Ns}{R:Re}{rest:List Stmt}{sa:Addr}{sv:List Value}{es:Nat}
  (z:(sa,listOf sv.toArray es)∈n) (u:sv.length≤1000) (hm:m (ae "sets")=some (.ref sa))
  (e:∀(rl:Addr) (er:Nat),(∀p∈n,@aR Nat _ p.1 rl)→cN c (cj m (ae "rows") (.ref rl)) ((rl,listOf sv.toArray er)::n) rest R):
  cN c m n (bp 10::rest) R:=by
 refine dL (Fe cR (ao hm) z u) λv n' h=>?_;obtain ⟨D,er,rfl,rfl,l⟩:=h;exact e D er l
theorem E7(h:Ev k m n e (.int i)):Ev k m n (.UnaryOp .USub e pos) (.int (-i)):=
 ⟨λQ s hi hq=>wpAny_UnaryOp (h.run _ s hi λv s1 hv i1=>by
  refine cp hv λt u=>?_
  try clear hv
  subst u
  exact neg_int (hq _ _ ⟨_,rfl⟩ i1.toks))⟩
theorem Lu{cs:Scope}{c:Fm W0 cs}{m:Lo}{n:Ns}{u e:PE}{pos p:Pos}{l:Addr}{vs:List Value}{xs:List Int}{ep:Nat}(hv:Ev c.cx m n u (.val (.ref l)))(he:Ev c.cx m n e (.int (-1)))(hm:(l,listOf vs.toArray ep)∈n)(H:au vs xs)(hz:vs.length≤1000)
  (hs:autoParam (∀(d:Addr),j8 (.Slice none none (some e) p) false (.ref l) (.ref d)=tQ [.ref l,.ref d] (pP (.ref l) (.ref d))) zAe) (ht:autoParam (∀r,eX u (.ref l) r=ck ()) zAe):
  Er c.cx m n (.Subscript u (.Slice none none (some e) p) pos) (λv n'=>∃D ws,v=.ref D∧n'=(D,listOf (bP ws) 0)::n∧au ws xs.reverse∧∀q∈n,@aR Nat _ q.1 D):=
 ⟨λQ s hi hq=>oa (hv.run _ s hi λo s1 ho i1=>by
  cases ho;refine yY (ai (ai (he.run _ s1 i1 λY B J i3=>?_)));obtain ⟨t,rfl⟩:=J
  exact krv_ints i3.at.1 i3.at.2 (c9 _ (i3.get hm) rfl ⟨ep,rfl⟩) (.int _ _) H (λD ws h' U O G z _=>hq _ _ _ (sh D ws rfl rfl z G) (i3.to (tk:=B.toks) U O)) (hs _) ht (by rw[aL];exact aw hz (by decide)))⟩
theorem KS{c:Fm W0 lawS}{m:Lo}{n:Ns}{R:Re}{rest:List Stmt}{wa rl:Addr}{wv H:List Value}{ew er:Nat}{B:List Int}
  (U:(wa,listOf wv.toArray ew)∈n) (u:au wv B) (O:B.length≤32) (ab:H.length≤100) (off:∀p∈n,p.1≠rl) (hm:m (ae "wishes")=some (.ref wa)) (ah:m (ae "rows")=some (.ref rl))
  (z:∀(G:List Value) (er2:Nat) (ex:Ns),((B.length≤3∧G=H∧ex=[])∨(3<B.length∧∃wr J e,G=H++[.ref wr]∧ex=[(wr,listOf J.toArray e)]∧au J B.reverse∧(∀p∈n,@aR Nat _ p.1 wr)∧@aR Nat _ rl wr))→cN c m ((rl,listOf G.toArray er2)::(ex++n)) rest R):
  cN c m ((rl,listOf H.toArray er)::n) (bp 11::rest) R:=by
 refine dE (eJ qk (qF (AW _ _ _) (ao hm) (zT U) (by rw[u.length];exact r8 O (bR true))) bf) ?h1 ?h2
 case h2=>
  intro hb;have:=of_decide_eq_false hb;refine bQ (z H er [] (.inl (eP ?_ rfl rfl)));rw[u.length] at this;exact nU (cW [B.length] 1 Z0 (.k 3) 1 Z0 (.k 3) rfl (Ps this))
 case h1=>
  intro hb;have Y:=of_decide_eq_true hb;rw[u.length] at Y;refine gO (vs:=H) (ao ah) (zH) (Lu (ao hm) (E7 bf) (zT U) u (by rw[u.length];exact r8 O (bR true))) (aw ab (by decide)) λv n' h=>?_;obtain ⟨D,ws,rfl,rfl,aa,l3⟩:=h;have l4:=l3 _ (zH);refine⟨_,.tail (aF l4) (.head off),bQ (cO (z (H++[bG D]) (er+1) [(D,listOf ws.toArray 0)] (.inr ⟨ltN (cW [B.length] 1 (.a (.k 3) Y1) Z0 1 (.a (.k 3) Y1) Z0 rfl Y),D,ws,0,rfl,rfl,aa,λp hp=>l3 p (zT hp),l4⟩)) (iB [1,0] 2 rfl))⟩
end
section
open W PyProof Rows
section
variable {prog:Program}{w:World}{A:Around}{E:VP}{s:Shared}{env:Env}{h₀:Heap}{L D:Addr}{m:Lo}{news:Ns}
theorem Az:∀{own:Ns}{l e:Ns},(∀p∈own,p.1≠d)→Upd d o o' l e→Upd d o o' (own++l) (own++e)
 | [],_,_,_,h=>h
 | _::_,_,_,h,u=>.tail (h _ (zH)) (Az (λp hp=>h p (zT hp)) u)
theorem QC(b:Int):0≤b.fmod 16∧b.fmod 16<16:=by rw[ni _ (by decide)];lia
theorem Lf(b:Int):1≤1+b.fmod 15∧1+b.fmod 15<16:=by rw[ni _ (by decide)];lia
theorem Sg(b:Int):0≤b.fmod 5∧b.fmod 5<5:=by rw[ni _ (by decide)];lia
end
end
section
open W PyProof Rows Spec PySem.Calls
noncomputable abbrev two(x y:Sr)(px py:Pos)(it0 it1 ct:PE):List Comprehension:=[⟨.Name x px,it0,[],0⟩,⟨.Name y py,it1,[ct],0⟩]
section
variable {prog:Program}{w:World}{A:Around}{R:Result→Shared→Prop}{s:Shared}{elt it0 it1 ct:PE}{x y:Sr}{px py pos:Pos}{scope:Scope}{env:Env}{it acc:Value}
theorem G1:Ml (.ListComp elt (two x y px py it0 it1 ct) scope pos) 1 it acc env=(do
   gc it1.pos
   match ← kE it with
   | none=>ck (.done .next)
   | some v=>
    rP (.Name y py) it v
    dh (.Name y py) env v
    let mut ok:=true
    for c in [ct] do
     if ok then ok ← isTrue c env (eval c env)
    if ok then
     (do let _ ← call (.builtin "list.append") [acc,← eval elt env])
    Mo (.compLoop (.ListComp elt (two x y px py it0 it1 ct) scope pos) 1 it acc env)):=by rfl
theorem HA(I:Nat→Shared→Prop)
  (turn:∀n s,I n s→aA (aq prog w) A (kE it) (λr s₁=>match r with
   | none=>R (.ok .next) s₁
   | some v=>aA (aq prog w) A (dh (.Name y py) env v) (λ_ s₂=>
     aA (aq prog w) A (GL [ct] true λc r=>if r=true then do let ok ← isTrue c env (eval c env);ck (nO ok) else ck (nO r)) (λok s₃=>
      if ok=true then aA (aq prog w) A (eval elt env) (λx u=>
       aA (aq prog w) A (call (.builtin "list.append") [acc,x]) (λ_ s₅=>∃m,m<n∧I m s₅) (jM (aq prog w) A env λe s'=>R (.error e) s') u) (jM (aq prog w) A env λe s'=>R (.error e) s') s₃
      else ∃m,m<n∧I m s₃) (jM (aq prog w) A env λe s'=>R (.error e) s') s₂) (jM (aq prog w) A env λe s'=>R (.error e) s') s₁) (jM (aq prog w) A env λe s'=>R (.error e) s') s)
  (n:Nat) (h:I n s):
  dY (aq prog w) A (.compLoop (.ListComp elt (two x y px py it0 it1 ct) scope pos) 1 it acc env) R s:=by
 refine codeAny_loop rfl I (λn s O=>?_) n h;refine(?_:aA _ A ((Ml (.ListComp elt (two x y px py it0 it1 ct) scope pos) 1 it acc env).onRaise (λx=>do yM x env;theTreesLotGoes x)) _ _ s);refine wpAny_noted ?_;rw[G1];refine af (gY (af (ci (turn n s O) (λr s₁ B=>?_) λ_ _ h'=>h')))
 cases r with
 | none=>exact ai B
 | some v=>
  refine af (bV (a:=()) (by rfl) ?_);refine af (ci B (λ_ s₂ J=>af (ci J (λok s₃ z=>?_) λ_ _ h'=>h')) λ_ _ h'=>h')
  cases ok with
  | false=>exact ai ⟨rfl,z⟩
  | true=>
   exact af (af (ci z (λx u H=>af (ci H (λ_ s₅ G=>ai (ai ⟨rfl,G⟩)) λ_ _ h'=>h')) λ_ _ h'=>h'))
theorem Du(h0:dY (aq prog w) A (.compLoop (.ListComp elt (two x y px py it0 it1 ct) scope pos) 1 it acc env) R s)
  (h:aA (aq prog w) A (rK it) (λe s'=>dY (aq prog w) A (.compLoop (.ListComp elt (two x y px py it0 it1 ct) scope pos) 1 e acc env) R s')
   (jM (aq prog w) A env λx s'=>R (.error x) s') s):
  dY (aq prog w) A (.compStart (.ListComp elt (two x y px py it0 it1 ct) scope pos) 1 it acc env) R s:=by
 refine As ?_;refine(?_:aA _ _ ((compStart (.ListComp elt (two x y px py it0 it1 ct) scope pos) 1 it acc env).onRaise (λx=>do yM x env;gc theWindowsPlace)) _ _ s);refine wpAny_notedAt ?_;unfold compStart;refine(?_:aA _ _ (ask >>= _) _ _ s);refine af (qN (wpAny_ite ?_))
 split
 .first
   | exact af (ai (ai (And.intro rfl h0)))
   | exact ai (And.intro rfl h0)
 .first
   | exact af (gy (af (gY (af (ci h (λe s' h'=>ai (And.intro rfl h')) λ_ _ x=>x)))))
   | (refine af (gy ?_);refine(?_:aA _ _ (gc it1.pos >>= _) _ _ s);exact af (gY (af (ci h (λe s' h'=>ai (And.intro rfl h')) λ_ _ x=>x))))
theorem G2:Ml (.ListComp elt (two x y px py it0 it1 ct) scope pos) 0 it acc env=(do
   gc it0.pos
   match ← kE it with
   | none=>ck (.done .next)
   | some v=>
    rP (.Name x px) it v
    dh (.Name x px) env v
    let z ← eval it1 env
    gc it1.pos
    let z ← bX it1 env z
    let _ ← runOwn (.compStart (.ListComp elt (two x y px py it0 it1 ct) scope pos) 1 (← gr [z] (rK z)) acc env) env
    Mo (.compLoop (.ListComp elt (two x y px py it0 it1 ct) scope pos) 0 it acc env)):=by rfl
theorem HC(I:Nat→Shared→Prop)(hs:∀z,bX it1 env z=ck z)
  (turn:∀n s,I n s→aA (aq prog w) A (kE it) (λr s₁=>match r with
   | none=>R (.ok .next) s₁
   | some v=>aA (aq prog w) A (dh (.Name x px) env v) (λ_ s₂=>
     aA (aq prog w) A (eval it1 env) (λz s₃=>aA (aq prog w) A (rK z) (λi1 B=>
      dY (aq prog w) A (.compStart (.ListComp elt (two x y px py it0 it1 ct) scope pos) 1 i1 acc env) (λr s₅=>r=.ok .next∧∃m,m<n∧I m s₅) B)
       (jM (aq prog w) A env λe s'=>R (.error e) s') s₃) (jM (aq prog w) A env λe s'=>R (.error e) s') s₂) (jM (aq prog w) A env λe s'=>R (.error e) s') s₁) (jM (aq prog w) A env λe s'=>R (.error e) s') s)
  (n:Nat) (h:I n s):
  dY (aq prog w) A (.compLoop (.ListComp elt (two x y px py it0 it1 ct) scope pos) 0 it acc env) R s:=by
 refine codeAny_loop rfl I (λn s U=>?_) n h;refine(?_:aA _ A ((Ml (.ListComp elt (two x y px py it0 it1 ct) scope pos) 0 it acc env).onRaise (λx=>do yM x env;theTreesLotGoes x)) _ _ s);refine wpAny_noted ?_;rw[G2];refine af (gY (af (ci (turn n s U) (λr s₁ G=>?_) λ_ _ h'=>h')))
 cases r with
 | none=>exact ai G
 | some v=>
  refine af (bV (a:=()) (by rfl) ?_);refine af (ci G (λ_ s₂ O=>af (ci O (λz s₃ J=>af (gY (af (bV (hs z) (af (bC (ci J (λi1 B H=>?_) λ_ _ h'=>h'))))))) λ_ _ h'=>h')) λ_ _ h'=>h');refine af (wpAny_runOwn ?_);refine xa (H:dY (aq prog w) A _ _ _) λr s₅ u=>?_;obtain ⟨rfl,u⟩:=u;exact ai ⟨rfl,u⟩
end
end
section
open W PyProof Rows Spec PySem.Calls LCg
noncomputable def sF(tb:Nat→Nat→Bool)(el:Nat→Nat→Int)(i j:Nat):List Int:=((aV j).filter (tb i)).map (el i)
noncomputable def jE(tb:Nat→Nat→Bool)(el:Nat→Nat→Int)(n1 i:Nat):List Int:=(aV i).flatMap λi=>sF tb el i n1
theorem oO{tb:Nat→Nat→Bool} : sF tb el i (j+1)=if tb i j=true then sF tb el i j++[el i j] else sF tb el i j:=by
 unfold sF;rw[gA,cJ,aX];cases h:tb i j<;>simp [h]
theorem jV{tb:Nat→Nat→Bool} : jE tb el n1 (i+1)=jE tb el n1 i++sF tb el i n1:=by
 unfold jE;rw[gA,List.flatMap_append];simp
end
section
open W PyProof Rows Spec PySem.Calls Rows.LCg
section
variable {cs:Scope}{c:Fm W0 cs}{sc:Scope}{k:Cx c sc}{m:Lo}{n:Ns}
inductive QS(n:Ns)(D:Addr)(tb:Nat→Nat→Bool)(el:Nat→Nat→Int)(n1 i:Nat):Ns→Prop
 | mk (ys:List Value) (h:au ys (jE tb el n1 i)) (hl:ys.length≤i*n1):QS n D tb el n1 i ((D,bB ys)::n)
structure RB(x:Str)(tx:Tok)(tb:Nat→Nat→Bool)(el:Nat→Nat→Int)(n1 i j:Nat)(N:Ns)(m:Lo)(out:List Value)(n:Ns):Prop where
 x:m x=some (.int i tx)
 h:au out (jE tb el n1 i++sF tb el i j)
 hl:out.length≤i*n1+j
 n:n=N
structure Md(k:Cx c sc)(m:Lo)(n:Ns)(elt it1 ct:PE)(x y:Str)(scope:Scope)(cl:List (Str×Addr))(hkind:scope.kind=.function)(n0 n1:Nat)(tb:Nat→Nat→Bool)(el:Nat→Nat→Int):Prop where
 r:∀C EE mC N,IM (k.comp m scope cl C EE hkind) mC N it1 0 n1
 t:∀C EE mC N i j tx ty,i<n0→j<n1→mC x=some (.int i tx)→mC y=some (.int j ty)→(∀p∈n,p∈N)→Tw (k.comp m scope cl C EE hkind) mC N ct (eval ct (k.comp m scope cl C EE hkind).env) (tb i j)
 e:∀C EE mC N i j tx ty,mC x=some (.int i tx)→mC y=some (.int j ty)→Ev (k.comp m scope cl C EE hkind) mC N elt (.int (el i j))
 xy:x≠y
 x:scope.names.lookup x=some .local
 y:scope.names.lookup y=some .local
 sz:n0*n1≤ec
 sm:dT 0 (n1:Int) 1=true
variable {elt it1 ct:PE}{x y:Str}{px py:Pos}{scope:Scope}{cl:List (Str×Addr)}{hkind:scope.kind=.function}{n0 n1 i:Nat}{tb:Nat→Nat→Bool}{el:Nat→Nat→Int}
theorem JG{cd:sU}{Z:Shared→Prop}{EE:VP}{C D I u:Addr}{fp:List Addr}{St:Nat→Heap→Prop}{oI z:Obj}{s:Shared}{ys:List Value}{mC:Lo}{tx:Tok}(H:Md k m n elt it1 ct x y scope cl hkind n0 n1 tb el)(W:y5 P0 W0 c.A u fp [u] n1 (λj v=>∃t,v=.int (j:Int) t) St)(hex:∀i h,St i h→∃o,h.get? u=some o)(ah:∀b∈fp,b=u∨∃o,(b,o)∈([]:Ns))(hi:i<n0)(hI:u∉k.exA++[C])(hD:D∉k.exA++[C])(hC:C∉k.exA)(O:u≠D)(U:u≠C)(J:D≠C)(o1:∀p∈(I,oI)::n,p.1≠u)(oD:∀p∈(I,oI)::n,p.1≠D)(oC:∀p∈(I,oI)::n,p.1≠C)
  (hl:∀V:Nat→Shared→Prop,(∀r s,V r s→aA (aq P0 W0) c.A (kE (.ref u)) (λy' s₁=>match y' with|none=>(λr s₅=>r=.ok .next∧Z s₅) (.ok .next:Result) s₁|some v=>aA (aq P0 W0) c.A (dh (.Name y py) (k.comp m scope cl C EE hkind).env v) (λ_ s₂=>TL (k.comp m scope cl C EE hkind) elt [ct] D (λs₅=>∃q,q<r∧V q s₅) s₂) (k.comp m scope cl C EE hkind).E s₁) (k.comp m scope cl C EE hkind).E s)→∀r,V r s→dY (aq P0 W0) c.A cd (λr s₅=>r=.ok .next∧Z s₅) s)
  (hz:∀mC ys s,au ys (jE tb el n1 (i+1))→ys.length≤(i+1)*n1→(k.comp m scope cl C EE hkind).Is mC ((I,oI)::(D,bB ys)::n) s→Z s) (G:mC x=some (.int i tx)) (aa:au ys (jE tb el n1 i)) (ab:ys.length≤i*n1)
  (hs:(k.comp m scope cl C EE hkind).Is mC ((u,z)::(I,oI)::(D,bB ys)::n) s) (st:St 0 s.heap):dY (aq P0 W0) c.A cd (λr s₅=>r=.ok .next∧Z s₅) s:=
 Ah (k:=k.comp m scope cl C EE hkind) W hex ah hI hD O (λj m out n'=>RB x tx tb el n1 i j ((I,oI)::n) m out n') (λj v m out n'=>RB x tx tb el n1 i j ((I,oI)::n) m out n'∧m y=some v)
  (λj m out n' y=>by
   cases y.n
   exact⟨(λ_ h=>nomatch h),λB=>aw y.hl (aw (bu (aN B) _) (aw (by rw[← Nat.succ_mul];exact ll n1 hi) H.sz)),o1,oD⟩)
  hl
  (λj v out z m n' s Z y i hz=>by
   cases y.n
   exact zO i H.y (FC U (FC J oC)) hC λs5 i5=>hz _ _ s5 ⟨⟨(if_neg H.xy).trans y.x,y.h,y.hl,rfl⟩,if_pos rfl⟩ i5)
  (λj v out z m n' B hv y=>by
   obtain ⟨⟨G,h,hl,e⟩,hy⟩:=y;cases e;obtain ⟨ty,rfl⟩:=hv;have T:=H.t C EE m ((u,z)::(D,bB out)::(I,oI)::n) i j tx ty hi B G hy λp hp=>zT (zT (zT hp));refine⟨tb i j,wE T,λe Q s Y hq=>(H.e C EE m _ i j tx ty G hy).run Q s Y λv s' hv i'=>?_,λe=>⟨G,by rw[oO,e];exact h,aw hl (Nat.le_succ _),rfl⟩⟩;obtain ⟨t,rfl⟩:=hv
   exact hq _ _ _ _ (iB [1,0] 2 rfl) ⟨G,by rw[oO,if_pos e,← jS];exact h.append (.cons _ _ .nil),by rw[aU];exact g6 hl,rfl⟩ i')
  (λm out n' s y Y=>by
   cases y.n
   exact⟨rfl,hz m out s (by rw[jV];exact y.h) (by rw[Nat.succ_mul];exact y.hl) (Y.sub (iB [1,0] 2 rfl))⟩)
  ⟨G,by refine(?_:au ys (_++[]));rw[iq];exact aa,ab,rfl⟩ (hs.sub (iB [0,2,1] 3 rfl)) st
noncomputable abbrev TO(k:Cx c sc)(it1:PE)(cd:Value→sU):(Shared→Prop)→Shared→Prop:=λZ s=>aA (aq P0 W0) c.A (eval it1 k.env) (λz s₃=>aA (aq P0 W0) c.A (rK z) (λi1 s₄=>dY (aq P0 W0) c.A (cd i1) (λr s₅=>r=.ok .next∧Z s₅) s₄) k.E s₃) k.E s
theorem GU{it0:PE}{pos:Pos}{cd:sU}{R:Result→Shared→Prop}{EE:VP}{I:Addr}{fp:List Addr}{St:Nat→Heap→Prop}{oI:Obj}{s:Shared}(H:Md k m n elt it1 ct x y scope cl hkind n0 n1 tb el)(W:y5 P0 W0 c.A I fp [I] n0 (λj v=>∃t,v=.int (j:Int) t) St)(hex:∀i h,St i h→∃o,h.get? I=some o)(as:∀b∈fp,b=I∨∃o,(b,o)∈([]:Ns))(lt:∀p∈n,@aR Nat _ p.1 I)(z:∀a∈k.exA,@aR Nat _ a I)
  (hl:∀V:Nat→Shared→Prop,(∀r s,V r s→aA (aq P0 W0) c.A (kE (.ref I)) (λy' s₁=>match y' with|none=>R (.ok .next) s₁|some v=>aA (aq P0 W0) c.A (dh (.Name x px) (k.comp m scope cl (I+2) EE hkind).env v) (λ_ s₂=>TO (k.comp m scope cl (I+2) EE hkind) it1 (λi1=>.compStart (.ListComp elt (two x y px py it0 it1 ct) scope pos) 1 i1 (.ref (I+1)) (fq scope cl (I+2) k.env)) (λs₅=>∃q,q<r∧V q s₅) s₂) (k.comp m scope cl (I+2) EE hkind).E s₁) (k.comp m scope cl (I+2) EE hkind).E s)→∀r,V r s→dY (aq P0 W0) c.A cd R s)
  (fin:∀ys s mC,au ys (jE tb el n1 n0)→(k.comp m scope cl (I+2) EE hkind).Is mC ((I+1,bB ys)::n) s→R (.ok .next) s)
  (hi:(k.comp m scope cl (I+2) EE hkind).Is (λ_=>none) ((I,oI)::(I+1,bB [])::n) s) (st:St 0 s.heap):dY (aq P0 W0) c.A cd R s:=
 Jk W hex as (Kr z) (λi _ n'=>QS n (I+1) tb el n1 i n') (λj m n' y=>by
  obtain ⟨ys,_,_⟩:=y
  exact⟨(λ_ h=>nomatch h),FC (Ne.symm MG) λp hp=>aB (lt p hp)⟩) hl (λi v oI mC n' s Z ar hv y i5 hz=>by
  obtain ⟨ys,B,aj⟩:=y;obtain ⟨tx,rfl⟩:=hv;refine zO i5 H.x (FC (Ne.symm NH) (FC (Ne.symm Jc) λp hp=>ML (lt p hp))) (xT z) λs5 i5=>(H.r _ EE _ _).run _ s5 i5 λr t u v s6 i6 ap=>(jD (k:=k.comp m scope cl (I+2) EE hkind) ap H.sm).run _ λI1 ah h7 ab aM aQ W1 U aa Y aD ax G O=>?_;have J:=i6.lt;rw[← Y] at J;have i7:=i6.grow (tk:=ab) (new:=[(I1,ah)]) aa (FC ⟨ax,fz Y.symm⟩ FN);have lC:@aR Nat _ (I+2) I1:=J.2 _ (zR (az.mpr rfl));have main:=JG (cd:=.compLoop (.ListComp elt (two x y px py it0 it1 ct) scope pos) 1 (.ref I1) (.ref (I+1)) (fq scope cl (I+2) k.env)) (Z:=Z) (EE:=jM (aq P0 W0) c.A (fq scope cl (I+2) k.env) λe s'=>(Except.error e:Result)=.ok .next∧Z s') (py:=py) H W1 U O ar (λh=>da I1 (J.2 _ h)) (Ks z) (xT z) (aF (aP (aJ _) lC)) (aF lC) (Ne.symm Jc) (FC (aB (J.1 _ (zH))) λp hp=>aB (J.1 p (zT (zT hp)))) (FC MG λp hp=>PF (lt p hp)) (FC (Ne.symm NH) λp hp=>ML (lt p hp)) (λV hV r=>HA V hV r) (λmC ys s h hl i=>hz _ _ s (.mk ys h hl) i) (if_pos rfl) B aj i7 G
  exact Du main (W1.self 0 _ _ _ G main)) (λmC n' s y i9=>by
  obtain ⟨ys,B,_⟩:=y
  exact fin ys s mC B i9) (QS.mk (tb:=tb) (el:=el) (n1:=n1) (i:=0) [] (.nil:au [] []) (cr _)) hi st
theorem Fk{it0:PE}{pos:Pos}(H:Md k m n elt it1 ct x y scope cl hkind n0 n1 tb el)(he:IM k m n it0 0 n0)(U:dT 0 (n0:Int) 1=true)
  (G:autoParam (fC scope k.env=ck cl) zAa) (J:autoParam (∀y∈scope.names,y.2≠.cell) zAd) (B:autoParam (∀y∈scope.names,y.2=.local→scope.names.lookup y.1=some .local) zAd) (hs:autoParam (∀z,bX it0 k.env z=ck z) zAb) (ab:autoParam (∀C z,bX it1 (fq scope cl C k.env) z=ck z) zAh):
  Er k m n (.ListComp elt (two x y px py it0 it1 ct) scope pos) (λv n'=>∃D ys,v=.ref D∧n'=(D,bB ys)::n∧au ys (jE tb el n1 n0)∧∀p∈n,@aR Nat _ p.1 D):=by
 refine⟨λQ s hi hq=>?_⟩;rw[Gf];refine Ag (cl':=λ_=>cl) (own:=λ_=>[]) hi hkind (jd he) (λz=>OQ J hkind) (λv n2 s1 hp i1=>?_) G B hs;obtain ⟨rfl,r,t,u,z,rfl,hr⟩:=hp
 exact⟨n0,_,_,jD hr U,λI oI fp St s W hex ah lt O hi st=>GU (EE:=jM (aq P0 W0) c.A (fq scope cl (I+2) k.env) λe s'=>sR (aq P0 W0) c.A k.E none Q (.ref (I+1)) (I+2) (.error e) s') H W hex ah lt O (λV hV r=>HC V (ab _) hV r) (λys s mC Y i9=>by
  obtain ⟨oC,hC,i⟩:=i9
  exact⟨mC,hC.ns (i.get (zH)),λh5 aa=>hq _ _ _ ⟨I+1,ys,rfl,rfl,Y,λp hp=>aW (lt p hp)⟩ (i.drop (tk:=s.toks) (λb ob hb e=>aa.extBut _ _ (λq=>hb (q▸zH)) e) (FC (Ne.symm Jc) λp hp=>ML (lt p hp)) (xT O))⟩) hi st⟩
end
end
section
open W PyProof Rows PySem.Calls
noncomputable def zh(bs:List Int)(i j:Nat):Bool:=gh ((bs.getD j 0).fdiv (2 ^ i)) 1 != 0
theorem Ax(hb:(bl,listOf va.toArray ep)∈n)(hi:au va bs)(hl:bs.length=5):fk W0 352 [.ref bl] n 9 100 (λv n'=>∃D o,v=.ref D∧(∃ys,o=bB ys∧au ys (jE (zh bs) (λi j=>5*(i:Int)+(j:Int)) 5 4))∧n'=(D,o)::n∧∀p∈n,@aR Nat _ p.1 D):=
 tH (body:=vg P0.main.body 23) (scope:=tw P0.main.body 23) (binds:=[("ballots",.ref bl)]) (by with_unfolding_all rfl) (by with_unfolding_all rfl) (λs X=>dG rfl) rfl (by decide +kernel) rfl rfl rfl λc m G hd hu B Y off _=>by
  obtain ⟨o,rfl,H⟩:=JA (n:=ae "ballots") (c:=c.L+1) Y;have hm:(bl,listOf va.toArray ep)∈(c.L+1,o)::n:=zT hb;refine mX (Fk (n0:=4) (n1:=5) (tb:=zh bs) (el:=λi j=>5*(i:Int)+(j:Int)) (hkind:=rfl) {r:=λC EE mC N=>ry Fa bf,t:=λC EE mC N i j tx ty h4 h5 z u hN=>kh (qG (qE (ft (eN (a:=c.L+1) (o:=o) rfl (hN _ (zH)) H) (ag u) (hN _ hm) hi (ce j) (by rw[hl];exact gJ.mpr h5) (j6 (gJ.mpr h5) (by decide))) (ag z) (ce i)) bf),e:=λC EE mC N i j tx ty z u=>eg (km bf (ag z) (fO (by decide))) (ag u),xy:=by decide,x:=rfl,y:=rfl,sz:=by decide,sm:=rfl} (ry Fa bf) rfl (wM B rfl)) λv n' h=>?_;obtain ⟨D,ys,rfl,rfl,h,l⟩:=h;exact⟨_,⟨D,_,rfl,⟨ys,rfl,h⟩,rfl,λp hp=>l p (zT hp)⟩,FC (zH) λp hp=>zT (zT hp)⟩
end
section
open W PyProof Rows
section
variable {tb:Nat→Nat→Bool}
noncomputable abbrev sL(i j:Nat):Int:=5*(i:Int)+(j:Int)
theorem ro:∀{j:Nat},x∈sF tb sL i j→5*(i:Int)≤x∧x<5*(i:Int)+j
 | 0,h=>by simp [sF] at h
 | j+1,h=>by
  rw[oO] at h
  split at h
  .rcases aC.mp h with h|h
   .have:=ro h;exact⟨cW [i,x] 1 (.m 5 Z0) Z1 1 (.m 5 Z0) Z1 rfl this.1,cW [x,i,j] 1 (.a Z0 Y1) (.a (.m 5 Z1) (.a Z2 Y1)) 1 (.a Z0 Y1) (.a (.m 5 Z1) Z2) rfl this.2⟩
   .have e:=az.mp h
    simp only[sL] at e;exact⟨eV [i,x,j] 1 (.m 5 Z0) Z1 1 (.a (.m 5 Z0) Z2) Z1 1 Y0 Z2 rfl (iu e) j7,cW [x,i,j] 1 (.a Z0 Y1) (.a (.m 5 Z1) (.a Z2 Y1)) 1 Z0 (.a (.m 5 Z1) Z2) rfl (gX e)⟩
  .have:=ro h;exact⟨cW [i,x] 1 (.m 5 Z0) Z1 1 (.m 5 Z0) Z1 rfl this.1,cW [x,i,j] 1 (.a Z0 Y1) (.a (.m 5 Z1) (.a Z2 Y1)) 1 (.a Z0 Y1) (.a (.m 5 Z1) Z2) rfl this.2⟩
theorem qB:∀{j:Nat},(sF tb sL i j).Pairwise (· < ·)
 | 0=>by simp [sF]
 | j+1=>by
  rw[oO]
  split
  .refine qX.mpr (eP qB (gU ..) (λa ha b hb=>?_))
   have e:=az.mp hb;have:=ro ha;simp only[sL] at e;exact Qp e this.right
  .exact qB
theorem AN:∀{i:Nat},x∈jE tb sL 5 i→0≤x∧x<5*(i:Int)
 | 0,h=>by simp [jE] at h
 | i+1,h=>by
  rw[jV] at h
  rcases aC.mp h with h|h
  .have:=AN h;exact⟨cW [x] 1 Y0 Z0 1 Y0 Z0 rfl this.1,cW [x,i] 1 (.a Z0 Y1) (.m 5 (.a Z1 Y1)) 1 (.a Z0 Y1) (.m 5 Z1) rfl this.2⟩
  .have:=ro h;exact⟨eV [x,i] 1 Y0 Z0 1 (.m 5 Z1) Z0 5 Y0 Z1 rfl this.1 j7,cW [x,i] 1 (.a Z0 Y1) (.m 5 (.a Z1 Y1)) 1 (.a Z0 Y1) (.a (.m 5 Z1) (.k 5)) rfl this.2⟩
theorem nt:∀{i:Nat},(jE tb sL 5 i).Pairwise (· < ·)
 | 0=>by simp [jE]
 | i+1=>by
  rw[jV];refine qX.mpr (eP nt qB (λa ha b hb=>?_));have:=AN ha;have:=ro hb;exact eV [a,b,i] 1 (.a Z0 Y1) Z1 1 (.m 5 Z2) Z1 1 (.a Z0 Y1) (.m 5 Z2) rfl this.1 ((‹0≤a∧a<5*(↑i:Int)›).2)
theorem A0{tb:Nat→Nat→Bool}:∀{j:Nat},(sF tb sL i j).length≤j
 | 0=>by simp [sF]
 | j+1=>by
  rw[oO];have z:(sF tb sL i j).length≤j:=A0
  split
  .rw[aU,di];exact fh z 1
  .exact dO z
theorem wI:∀{i:Nat},(jE tb sL 5 i).length≤5*i
 | 0=>by simp [jE]
 | i+1=>by
  rw[jV,aU];have y:(jE tb sL 5 i).length≤5*i:=wI;have z:(sF tb sL i 5).length≤5:=A0;exact nU (eV [↑((jE tb sL 5 i).length),↑((sF tb sL i 5).length),i] 1 (.a Z0 Z1) (.m 5 (.a Z2 Y1)) 1 Z1 (.k 5) 1 Z0 (.m 5 Z2) rfl (ef z) (ef y))
theorem BO:(jE tb sL 5 i).Nodup:=nt.imp λh e=>absurd (e▸h) (oh _)
end
noncomputable def gK(i:Nat):List Int:=jE (zh [(i:Int),i,i,i,i]) (λi j=>5*(i:Int)+(j:Int)) 5 4
theorem AL(i:Nat):(gK i).length≤32∧(gK i).Nodup:=⟨aw wI (by decide),BO⟩
noncomputable def sA(Rw:List (Addr×List Int)):List Value:=Rw.map λq=>.ref q.1
structure qo(n:Ns)(i:Nat)(out:List Value)(n1:Ns)(Rw:List (Addr×List Int))(Wn:Ns):Prop where
 ho:out=sA Rw
 hl:Rw.map (·.2)=(aV i).map gK
 hr:∀q∈Rw,jq Wn q
 hp:Rw.Pairwise (λa b=>@aR Nat _ a.1 b.1)
 hn:n1=Wn++n
 hf:∀p∈Wn,∀q∈n,@aR Nat _ q.1 p.1
theorem qo.start:qo n 0 [] n [] []:=⟨rfl,rfl,(λ_ h=>nomatch h),.nil,rfl,(λ_ h=>nomatch h)⟩
theorem qo.len(h:qo n i out n1 Rw Wn):out.length=i:=by
 have:=congrArg eK h.hl;simp only[aE,de] at this;rw[h.ho,sA,aE,this]
theorem qo.add(h:qo n i out n1 Rw Wn)(e:au ys (gK i))(hl:∀p∈n1,@aR Nat _ p.1 W):
  qo n (i+1) (out++[.ref W]) ((W,bB ys)::n1) (Rw++[(W,gK i)]) ((W,bB ys)::Wn) where
 ho:=by rw[h.ho,sA,sA,aX];rfl
 hl:=by rw[aX,h.hl,gA,aX];rfl
 hr:=λq hq=>by
  rcases aC.mp hq with hq|hq
  .refine hZ (h.hr q hq) λva ep h1 h2 h3 h4=>?_
   exact(sh va ep (zT h1) h2 h3 h4)
  .rw[az.mp hq]
   exact(sh ys ys.length (zH) e ((AL i).1) ((AL i).2))
 hp:=qX.mpr (eP h.hp (gU ..) (λa ha b hb=>by
  rw[az.mp hb];obtain ⟨va,ep,h1,_⟩:=h.hr a ha
  exact hl _ (by rw[h.hn];exact zL h1)))
 hn:=by rw[h.hn];rfl
 hf:=λp hp q hq=>by
  rcases ak.mp hp with rfl|hp
  .exact hl q (by rw[h.hn];exact zR hq)
  .exact h.hf p hp q hq
theorem GO{cs:Scope}{c:Fm W0 cs}{sc:Scope}{k:Cx c sc}{m:Lo}{n:Ns}{f e:PE}{i kk:Nat}{p z u H:Pos}(hf:Ev k m n f (.val (.ref 352)))(hx:Ev k m n e (.int i))(hd:c.dp+9<aH)(hu:c.un+100<cX)(J:autoParam (∀r,SE k.env e r) zAb)
  (c1:autoParam (CC k.env f [.BinOp (.List [e] p) .Mult (.Constant (.int 5) kk z) u] H) zAa) (c2:autoParam (bW [.BinOp (.List [e] p) .Mult (.Constant (.int 5) kk z) u] k.env=(false,eval (.BinOp (.List [e] p) .Mult (.Constant (.int 5) kk z) u) k.env)::bW [] k.env) zAa):
  Er k m n (.Call f [.BinOp (.List [e] p) .Mult (.Constant (.int 5) kk z) u] [] H) (λv n'=>∃W ys p q,v=.ref W∧n'=(W,bB ys)::p::q::n∧au ys (gK i)∧(∀p∈n,@aR Nat _ p.1 W)∧∀a∈k.exA,@aR Nat _ a W):=
 fB (OI (P1:=λv n'=>∃A B t o,v=.ref A∧n'=(A,listOf [eY i t,.int i t,.int i t,.int i t,.int i t].toArray 0)::(B,o)::n) (U:=λo=>∃ys,o=bB ys∧au ys (gK i)) hf (Fb hx J) (λv1 n1 n2 O sub=>by
  obtain ⟨A,B,t,o,rfl,rfl⟩:=O
  exact Ax (bs:=[(i:Int),i,i,i,i]) (sub _ (zH)) (.cons _ _ (.cons _ _ (.cons _ _ (.cons _ _ (.cons _ _ .nil))))) rfl) (by with_unfolding_all rfl) hd hu c1 c2) λv n' h=>by
  obtain ⟨_,_,W,_,⟨A,B,t,o,_,rfl⟩,rfl,⟨ys,rfl,G⟩,rfl,Y,lx⟩:=h;exact⟨W,ys,_,_,rfl,rfl,G,λp hp=>Y p (zT (zT hp)),lx⟩
theorem Oh{c:Fm W0 lawS}{m:Lo}{N:Ns}{R:Re}{rest:List Stmt}(hc:LawC c)
  (B:∀(S:Addr) (Rw:List (Addr×List Int)) (Wn n1:Ns),qo N 16 (sA Rw) n1 Rw Wn→(∀p∈n1,p.1≠S)→(∀p∈N,@aR Nat _ p.1 S)→cN c (cj m (ae "sets") (.ref S)) ((S,bB (sA Rw))::n1) rest R):
  cN c m N (bp 2::rest) R:=by
 refine rx (P:=λv n'=>∃S Rw Wn n1,v=.ref S∧n'=(S,bB (sA Rw))::n1∧qo N 16 (sA Rw) n1 Rw Wn∧(∀p∈n1,p.1≠S)∧(∀p∈N,@aR Nat _ p.1 S)) rfl (jd (a:=0) (b:=16) (ry cR bf)) (λv N1 s1 h i1=>?_) λv n' h=>?_
 .obtain ⟨rfl,r,t,u,z,rfl,hr⟩:=h
  refine⟨16,_,_,λi out n1=>∃Rw Wn,qo N1 i out n1 Rw Wn,jD hr (by decide),⟨[],[],.start⟩,λi out n1 h=>?_,?_,λout n1 D hJ e l2=>?_,by decide⟩
  .obtain ⟨Rw,Wn,h⟩:=h
   exact⟨(λ_ h=>nomatch h),fz h.len⟩
  .intro i v out n1 C I D oI E' mC hi hv hJ Y G O U J aa hex
   obtain ⟨t,rfl⟩:=hv;obtain ⟨Rw,Wn,hJ⟩:=hJ;refine⟨true,λQ s hi hq=>pg (hq s hi),λ_=>?_,λh=>nomatch h⟩;refine fB (GO Jh (ag Y) (aK (bu (by decide) _) hc.hd) (aK (bu (by decide) _) hc.hu)) λv n' h=>?_;obtain ⟨W,ys,p,q,rfl,rfl,H,e,lx⟩:=h;exact⟨(W,bB ys)::n1,iB [3,4,0] 5 rfl,FC ⟨Ne.symm (aB (lx _ (zR (zH)))),Ne.symm (aB (e _ (zH))),Ne.symm (aB (e _ (zT (zH))))⟩ G,_,_,hJ.add H λp hp=>e p (zT (zT hp))⟩
  .obtain ⟨Rw,Wn,hJ⟩:=hJ
   obtain rfl:=hJ.ho;exact⟨D,Rw,Wn,n1,rfl,rfl,hJ,l2,e⟩
 .obtain ⟨S,Rw,Wn,n1,rfl,rfl,hJ,l2,e⟩:=h
  exact B S Rw Wn n1 hJ l2 e
theorem kw_LW11_0:True:=by
 k_with_none
 k_with "zeval Subscript"=>(k_here;refine sj ?_)
 trivial
theorem km_LW11:True:=by
 k_with "zmm"=>first|with_reducible assumption|exact a8 0 rfl|exact a8 1 rfl|exact a8 2 rfl|exact a8 3 rfl|exact a8 4 rfl|exact a8 5 rfl|exact a8 6 rfl|exact a8 7 rfl|exact a8 8 rfl|exact a8 9 rfl|(refine bk 1 ?_;assumption)|(refine bk 2 ?_;assumption)|(refine bk 3 ?_;assumption)|(refine bk 4 ?_;assumption)|(refine bk 5 ?_;assumption)|(refine bk 6 ?_;assumption)|(refine bk 7 ?_;assumption)|(refine bk 8 ?_;assumption)|(refine bk 9 ?_;assumption)|k_extra "zmt"
 k_with "zsu"=>first|exact FN|(refine FC ?_ ?_;(focus k_extra "zmm");k_extra "zsu")|(refine FA ?_ ?_;(focus k_extra "zsu");k_extra "zsu")|(intro p9 hp9;k_extra "zmm")
 trivial
open PyProof.Rows.LCg
theorem Nb(hl:@aR Nat _ 366 L)(u:b9 L n0):
  xf (L+1+1) o2 (bN L o1 o2 o3 o4 o5 ps qs++n0) (λo'=>bN L o1 o' o3 o4 o5 ps qs++n0):=by
 refine BR u.all λU z O J H G B=>?_;refine .tail (jA (aW (aW (aJ _)))) (.tail (jA (aW (aJ _))) (.tail (jA (aJ _)) (.head ?_)));intro p hp;have e:p∈(L+1,o1)::(364,bS ps)::(256,bS qs)::n0:=hp;simp only[ak] at e
 rcases e with rfl|rfl|rfl|hp
 .exact lc (aJ _)
 .exact lc (aP (aP (by decide:(364:Nat)<366) hl) (aO (aJ _) (bA (L+1) 1)))
 .exact lc (aP (aP (by decide:(256:Nat)<366) hl) (aO (aJ _) (bA (L+1) 1)))
 .exact z p hp
theorem Fo{vs:List Int}{sv:List Value}{i:Nat}(h:pW vs (i:Int)=true):jW vs sv (i+1)=jW vs sv i++[sv.getD i .none]:=by
 unfold jW;rw[gA,cJ,aX,fH,if_pos h];rfl
theorem Io{vs:List Int}{sv:List Value}{i:Nat}(h:pW vs (i:Int)=false):jW vs sv (i+1)=jW vs sv i:=by
 unfold jW;rw[gA,cJ,aX,fH,if_neg (by rw[h];decide)];exact iq _
theorem Fp{sv:List Value}(i:Nat):(jW vs sv i).length≤i:=by
 unfold jW;rw[aE];exact aw (bU ..) (by rw[de];exact aS _)
theorem Ly(vs:List Int)(c:Int):decide (uC vs c++pD vs c=[])=pW vs c:=by
 unfold pW;generalize uC vs c=a;generalize pD vs c=b;cases a<;>cases b<;>rfl
theorem tY(h:t∈dJ vs):t∈eD vs 4:=gE h
theorem tZ:(dJ vs).length≤4:=by
 unfold dJ;rw[dn,(jU (vs:=vs) (i:=4) (aS 4)).1];exact jB 4 (fS (λj=>!decide (2<nv vs j)) (eD vs 4) 4 0 4)
theorem KO{c:Fm W0 lawS}{m:Lo}{n0:Ns}{R:Re}{rest:List Stmt}
  (u:∀(ra:Addr),(∀p∈n0,@aR Nat _ p.1 ra)→cN c (cj m (ae "due") (.ref ra)) ((ra,listOf ([]:List Value).toArray 0)::n0) rest R):
  cN c m n0 (bp 15::rest) R:=by
 refine dL (Fd) ?_;intro v n' e;refine fM e λra B z h=>?_;clear e;subst B;subst z;exact u ra h
structure Pj(L dl:Addr)(o1 o3 o4 o5:Obj)(ps qs:Array Value)(n0:Ns)(vs:List Int)(sv:List Value)(m:Lo)(i:Nat)(m1:Lo)(n1:Ns):Prop where
 hm:∀x,x≠ae "lacking"→m1 x=m x
 hn:∃oC v0 ed,oC.data=.cell v0∧n1=bN L o1 oC o3 o4 o5 ps qs++(dl,listOf (jW vs sv i).toArray ed)::n0
theorem KN{c:Fm W0 lawS}{m:Lo}{n0:Ns}{R:Re}{rest:List Stmt}(hc:LawC c){o1 o2 o3 o4 o5:Obj}{ps qs:Array Value}{v2:Option Value}{ra wa sa dl:Addr}{va wv sv:List Value}{ea ew es:Nat}{vs:List Int}{th' tl':Tok}(d2:o2.data=.cell v2)(hof:b9 c.L ((dl,listOf ([]:List Value).toArray 0)::n0))(hdl:∀p∈n0,p.1≠dl)
  (hra:(ra,listOf va.toArray ea)∈n0) (hia:au va (eD vs 4)) (hwa:(wa,listOf wv.toArray ew)∈n0) (hiw:au wv (dJ vs)) (hsa:(sa,listOf sv.toArray es)∈n0) (hsl:sv.length=16)
  (m1:m (ae "row")=some (.ref ra)) (m2:m (ae "wanted")=some (.ref wa)) (m3:m (ae "sets")=some (.ref sa)) (m4:m (ae "due")=some (.ref dl)) (m5:m (ae "high")=some (.int (gv vs:Nat) th')) (m6:m (ae "low")=some (.int (jl vs:Nat) tl'))
  (hnext:∀(m':Lo) (oC:Obj) (v0:Option Value) (ed:Nat),(∀x,x≠ae "lacking"→m' x=m x)→oC.data=.cell v0→cN c m' (bN c.L o1 oC o3 o4 o5 ps qs++(dl,listOf (jW vs sv 16).toArray ed)::n0) rest R):
  cN c m (bN c.L o1 o2 o3 o4 o5 ps qs++(dl,listOf ([]:List Value).toArray 0)::n0) (bp 16::rest) R:=by
 refine qD (a:=0) (b:=16) (k:=16) (ca:=c.L+1+1) (by rw[hc.cl];rfl) ?hr rfl (by decide) (λI=>Pj c.L dl o1 o3 o4 o5 ps qs n0 vs sv m) ?h0 ?turn ?done
 case hr=>exact ry cR bf
 case h0=>
  intro I hI;exact⟨λ_ _=>rfl,o2,v2,0,d2,rfl⟩
 case done=>
  rintro I m' n1 hI ⟨hm',oC,v0,ed,hd,rfl⟩;exact hnext m' oC v0 ed hm' hd
 case turn=>
  rintro i t m' n1 I oI hi16 hI ⟨hm',oC,v0,ed,hd,rfl⟩
  have hIa:∀p∈bN c.L o1 oC o3 o4 o5 ps qs++(dl,listOf (jW vs sv i).toArray ed)::n0,p.1≠I:=λp hp=>by
   rcases aC.mp hp with h|h
   .exact kZ (P:=λa=>a≠I) (λp hp=>lc (hI p (zL hp))) p h
   .rcases ak.mp h with rfl|h
    .exact lc (hI (dl,listOf ([]:List Value).toArray 0) (by k_extra "zmm"))
    .exact lc (hI p (by k_extra "zmm"))
  have hof':b9 c.L ((dl,listOf (jW vs sv i).toArray ed)::n0):=λp hp=>by
   rcases ak.mp hp with rfl|hp
   .exact hof (dl,listOf ([]:List Value).toArray 0) (zH)
   .exact hof.tail p hp
  refine(nV oC (λo'=>(I,oI)::(bN c.L o1 o' o3 o4 o5 ps qs++(dl,listOf (jW vs sv i).toArray ed)::n0)) v0 (.tail (Ne.symm (hIa (c.L+1+1,oC) (by k_extra "zmm"))) (Nb hc.lo hof')) hd (λo' ho'=>?_));rw[fQ] at ho'
  have hIb:∀p∈bN c.L o1 o' o3 o4 o5 ps qs++(dl,listOf (jW vs sv i).toArray ed)::n0,p.1≠I:=λp hp=>by
   rcases aC.mp hp with h|h
   .exact kZ (P:=λa=>a≠I) (λp hp=>hIa p (zL hp)) p h
   .exact hIa p (zR h)
  refine(?_:cN c m' ((I,oI)::(bN c.L o1 o' o3 o4 o5 ps qs++(dl,listOf (jW vs sv i).toArray ed)::n0)) _ _)
  have mc:(c.L+1+1,o')∈(I,oI)::(bN c.L o1 o' o3 o4 o5 ps qs++(dl,listOf (jW vs sv i).toArray ed)::n0):=by k_extra "zmm"
  have mra:(ra,listOf va.toArray ea)∈(I,oI)::(bN c.L o1 o' o3 o4 o5 ps qs++(dl,listOf (jW vs sv i).toArray ed)::n0):=by k_extra "zmm"
  have mwa:(wa,listOf wv.toArray ew)∈(I,oI)::(bN c.L o1 o' o3 o4 o5 ps qs++(dl,listOf (jW vs sv i).toArray ed)::n0):=by k_extra "zmm"
  have msa:(sa,listOf sv.toArray es)∈(I,oI)::(bN c.L o1 o' o3 o4 o5 ps qs++(dl,listOf (jW vs sv i).toArray ed)::n0):=by k_extra "zmm"
  have hnl:∀x,x≠ae "lacking"→m' x=m x:=hm';refine b8 (jU (vs:=vs) (i:=4) (aS 4)) λhr1 hr2=>?_
  have hvl:va.length≤1000:=by rw[hia.length,hr1];decide
  generalize hNN:(I,oI)::(bN c.L o1 o' o3 o4 o5 ps qs++(dl,listOf (jW vs sv i).toArray ed)::n0)=NN at mc mra mwa msa ⊢;have e1:m' (ae "row")=some (.ref ra):=(hm' _ (by decide)).trans m1;have e2:m' (ae "wanted")=some (.ref wa):=(hm' _ (by decide)).trans m2;have e3:m' (ae "sets")=some (.ref sa):=(hm' _ (by decide)).trans m3;have e4:m' (ae "due")=some (.ref dl):=(hm' _ (by decide)).trans m4;have e5:m' (ae "high")=some (.int (gv vs:Nat) th'):=(hm' _ (by decide)).trans m5;have e6:m' (ae "low")=some (.int (jl vs:Nat) tl'):=(hm' _ (by decide)).trans m6;have hfr:=sf hia (gv vs);have hup:=B1 hia (jl vs);have hwl:=tZ (vs:=vs);refine rx (cl:=[(ae "choice",c.L+1+1)]) (PS:=λv n1 _=>∃l zs,v=.ref l∧(l,listOf zs.toArray 0)∈n1∧au zs ((eD vs 4).drop (gv vs)++dJ vs)∧∀p∈NN,p∈n1) (P:=λv n'=>∃Lk zs,v=.ref Lk∧au zs (uC vs i)∧∀p∈(Lk,bB zs)::NN,p∈n') rfl (so (P:=λv n1=>∃l zs,v=.ref l∧(l,listOf zs.toArray 0)∈n1∧au zs ((eD vs 4).drop (gv vs)++dJ vs)∧∀p∈NN,p∈n1) ?it) ?h1 ?k1 (by rfl) (kx hc rfl)
  case it=>
   refine wT (P:=λv n1=>∃D,v=.ref D∧n1=(D,listOf (jI va.toArray.toList (some ((gv vs:Nat):Int)) none).toArray 0)::NN∧∀q∈NN,@aR Nat _ q.1 D) (P2:=λv n2=>v=.ref wa) (oR (ao e1) mra hvl (oG (ag e5)) mK rfl) (λv n1 p1=>fB (iM (ao e2)) λv5 n5 h5=>⟨h5.1,λp hp=>h5.2▸hp⟩) ?_;intro v n1 v2 n2 zo51 zo54 hsub;refine fM zo51 λD zo52 zo53 hlt=>?_;clear zo51;subst zo52;subst zo53;subst zo54;refine(K9 D wa _ wv 0 ew rfl rfl (zH) (hsub _ (zT mwa)) ?_ (λD2 hlt2=>⟨D2,_,rfl,zH,hfr.append hiw,λp hp=>zT (hsub p (zT hp))⟩));rw[hfr.length,hiw.length,dn];exact nU (ia [↑((eD vs 4).length-gv vs),↑((dJ vs).length),↑((eD vs 4).length)] 1 (.a Z0 Z1) (.k 1000) 1 Z1 (.k 4) 1 Z2 (.k 4) 1 Z0 Z2 rfl (ef hwl) (vX hr1) PU)
  case h1=>
   intro v n1 s1 zo55 i1;refine hZ zo55 λl zs zo56 hml hzs hsub=>?_;clear zo55;subst zo56;have hS:=pC i1 hml hzs (by rw[aU,dn];exact nU (ia [↑((eD vs 4).length-gv vs),↑((dJ vs).length),↑((eD vs 4).length)] 1 (.a Z0 Z1) (.k 1000) 1 Z1 (.k 4) 1 Z2 (.k 4) 1 Z0 Z2 rfl (ef hwl) (vX hr1) PU));refine(vq _ _ _ _ hS.p (wN (g:=λy=>!bt (i:Int) y) rfl hS ?_ ?_))
   .intro C E' mC n2 y t hy hmC hs2
    have y0:0≤y:=(hr2 y ((aC.mp hy).elim (λh=>gE h) tY)).1;rw[← tI y0];exact qt (kh (qG (qE (qj (eN (a:=c.L+1+1) (o:=o') rfl (hs2 _ (hsub _ mc)) ho')) (ag hmC) y0) bf))
   .intro D zs2 hz2 hlt
    refine(iw D zs2 rfl hz2 (λp hp=>?_))
    rcases ak.mp hp with h|h
    .rw[h];exact zH
    .exact zT (hsub p h)
  case k1=>
   intro v n' zo57;refine gL zo57 λLk zs zo58 hzs hsub=>?_;clear zo57;subst zo58;refine cO (n':=(Lk,bB zs)::NN) ?_ hsub;have f1:cj m' (ae "lacking") (.ref Lk) (ae "row")=some (.ref ra):=e1;have f6:cj m' (ae "lacking") (.ref Lk) (ae "low")=some (.int (jl vs:Nat) tl'):=e6
   have hzl:zs.length≤8:=by
    rw[hzs.length];refine aw (bU ..) ?_;rw[aU,dn];exact nU (ia [↑((eD vs 4).length-gv vs),↑((dJ vs).length),↑((eD vs 4).length)] 1 (.a Z0 Z1) (.k 8) 1 Z1 (.k 4) 1 Z2 (.k 4) 1 Z0 Z2 rfl (ef hwl) (vX hr1) PU)
   have hul:(pD vs (i:Int)).length≤4:=aw (bU ..) (by rw[eO];exact nU (eV [↑(min (jl vs) (eD vs 4).length),↑((eD vs 4).length)] 1 Z0 (.k 4) 1 Z1 (.k 4) 1 Z0 Z1 rfl (vX hr1) Q8));refine tC (P:=λb n'=>b=pW vs (i:Int)∧∀p∈NN,p∈n') (GR (P:=λv n1=>∃a xs',v=.ref a∧(a,listOf xs'.toArray 0)∈n1∧au xs' (uC vs (i:Int)++pD vs (i:Int))∧∀p∈NN,p∈n1) (P2:=λv n2=>∃D,v=.ref D∧(D,listOf (([]:List Value)).toArray 0)∈n2) (by have:=hc.hu;exact zE this (bR true)) ?el (λv n1 p1=>fB (Fd) ?er) ?cmp) ?yes ?no
   case er=>
    intro v2 n2 zo59;refine fM zo59 λD zo60 zo61 h=>?_;clear zo59;subst zo60;subst zo61;exact⟨(db D rfl (zH)),λp hp=>zT hp⟩
   case cmp=>
    intro v n1 v2 n2 zo62 zo64 hsub2;refine hZ zo62 λa xs' zo63 hma hxs hs1=>?_;clear zo62;subst zo63;refine fN zo64 λD zo65 hmD=>?_;clear zo64;subst zo65;exact(Ot a D xs' [] _ [] 0 0 rfl rfl hma hmD hxs (.nil) (Ly vs i) (λp hp=>hsub2 _ (hs1 p hp)))
   case el=>
    refine wT (P:=λv n1=>v=.ref Lk∧n1=(Lk,bB zs)::NN) (P2:=λv2 n2=>∃Ex zs2,v2=.ref Ex∧(Ex,bB zs2)∈n2∧au zs2 (pD vs (i:Int))) (iM (ao rfl)) (λv n1 p1=>?_) ?_
    .refine b8 p1 λ_ e9=>?_
     try clear p1
     subst e9;refine nB (cl:=[(ae "choice",c.L+1+1)]) (PS:=λv n1 _=>∃D,v=.ref D∧n1=(D,listOf (jI va.toArray.toList none (some ((jl vs:Nat):Int))).toArray 0)::(Lk,bB zs)::NN∧∀q∈(Lk,bB zs)::NN,@aR Nat _ q.1 D) rfl (so (oR (ao f1) (zT mra) hvl mK (oG (ag f6)) rfl)) ?_ (kx hc rfl);intro v n1 s1 zo66 i1;refine fM zo66 λD zo67 zo68 hlt=>?_;clear zo66;subst zo67;subst zo68;have hS:=pC i1 (zH) hup (by rw[eO];exact nU (eV [↑(min (jl vs) (eD vs 4).length),↑((eD vs 4).length)] 1 Z0 (.k 1000) 1 Z1 (.k 4) 1 Z0 Z1 rfl (vX hr1) Q8));refine(vq _ _ _ _ hS.p (wN (g:=bt (i:Int)) rfl hS ?_ ?_))
     .intro C E' mC n2 y t hy hmC hs2
      have y0:0≤y:=(hr2 y (gD hy)).1;rw[← tI y0];exact kh (qG (qE (qj (eN (a:=c.L+1+1) (o:=o') rfl (hs2 _ (zT (zT mc))) ho')) (ag hmC) y0) bf)
     .intro D2 zs2 hz2 hlt2
      exact⟨(iw D2 zs2 rfl (zH) hz2),λp hp=>zT (zT hp)⟩
    .intro v n1 v2 n2 zo69 zo72 hsub2
     refine b8 zo69 λzo70 zo71=>?_;clear zo69;subst zo70;subst zo71;refine gL zo72 λEx zs2 zo73 hmE hz2=>?_;clear zo72;subst zo73;refine(K9 Lk Ex zs zs2 zs.length zs2.length rfl rfl (zH) hmE (by rw[hz2.length];exact r8 (Nat.add_le_add hzl hul) (bR true)) (λD hlt=>⟨D,_,rfl,zH,hzs.append hz2,λp hp=>zT (hsub2 p (zT hp))⟩))
   case no=>
    intro n' zo74;refine b8 zo74 λhb hsub2=>?_;clear zo74;refine bQ (cb ⟨hsub2 _ (by rw[← hNN];exact zH),bN c.L o1 o' o3 o4 o5 ps qs++(dl,listOf (jW vs sv i).toArray ed)::n0,λp hp=>⟨hsub2 p (by rw[← hNN];exact zT hp),hIb p hp⟩,λx hx=>(if_neg hx).trans (hm' x hx),o',_,ed,ho',?_⟩);rw[Io hb.symm]
   case yes=>
    intro n' zo75;refine b8 zo75 λhb hsub2=>?_;clear zo75;refine cO (n':=NN) ?_ hsub2;subst hNN;have hkk:=mT (m:=cj m' (ae "lacking") (.ref Lk)) (ks:=[(ae "due",.ref dl),(ae "sets",.ref sa)]) (eP e4 e3 trivial);refine⟨λQ s hi hq=>?_⟩;rw[← hkk] at hi;obtain ⟨h1,tk1,rfl,F1,N1⟩:=hi;have BB:=c.B;have XX:=c.X;have TT:=c.T;dsimp only [Fm.cx,Fm.A,Fm.env]
    k_steps
    refine iH ?_;refine' Ev.run (k:=c.cx) (uM (x:=sv.getD i .none) (ao (v:=.ref sa) rfl) (qj (eN (a:=c.L+1+1) (o:=o') (by refine(?_:c.cl.lookup _=_);rw[hc.cl];rfl) mc ho')) msa (by rw[bM,ay,am (pV hsl hi16)];rfl) (ce i) (cW [i] 1 (.a Z0 Y1) (.k (2 ^ 63)) 1 (.a Z0 Y1) (.k 16) rfl (ef hi16))) _ _ ⟨_,_,rfl,F1,N1⟩ ?_;rintro v s2 rfl i2;obtain ⟨h2,tk2,rfl,F2,N2⟩:=i2
    k_steps
    refine iH ?_;have hK:=uA (o1:=o1) (o2:=o') (o3:=o3) (o4:=o4) (o5:=o5) (ps:=ps) (qs:=qs) hof';have hIdl:I≠dl:=Ne.symm (hIb (dl,listOf (jW vs sv i).toArray ed) (by k_extra "zmm"));have N3:ba c.h₀ c.L h2 ((dl,listOf (jW vs sv i).toArray ed)::(I,oI)::(bN c.L o1 o' o3 o4 o5 ps qs++n0)):=cm N2 (by k_extra "zsu");refine append_K F2 N3 (.head (λp hp=>?_)) (λh3 F3 N4=>?_) (by rw[aL];exact aw (Fp i) (aw (aN hi16) (by decide)))
    .rcases ak.mp hp with rfl|hp
     .exact hIdl
     .rcases aC.mp hp with h|h
      .exact hK p h
      .exact hdl p h
    rw[List.push_toArray,← Fo hb.symm] at N4
    k_steps
    rw[hkk] at F3;refine hq .next _ ((I,oI)::(bN c.L o1 o' o3 o4 o5 ps qs++(dl,listOf (jW vs sv (i+1)).toArray (ed+1))::n0)) _ (cb (R:=FR (md c rest R) I oI (Pj c.L dl o1 o3 o4 o5 ps qs n0 vs sv m) (i+1)) ⟨zH,bN c.L o1 o' o3 o4 o5 ps qs++(dl,listOf (jW vs sv (i+1)).toArray (ed+1))::n0,λp hp=>⟨zT hp,?_⟩,λx hx=>(if_neg hx).trans (hm' x hx),o',_,ed+1,ho',rfl⟩) ⟨_,_,rfl,F3,cm N4 λp hp=>?_⟩
    .rcases aC.mp hp with h|h
     .exact hIb p (zL h)
     .rcases ak.mp h with rfl|h
      .exact Ne.symm hIdl
      .exact hIb p (by k_extra "zmm")
    .revert p;k_extra "zsu"
end
section
open W PyProof Rows
open PyProof.Rows.LCg
noncomputable def OM:List Stmt:=vg P0.main.body 25
noncomputable def LB:Scope:=tw P0.main.body 25
theorem Fs{c:Fm W0 LB}(aD:c.cl=fT (c.L+1) LB.names []){m:Lo}{N:Ns}{o1 o2:Obj}{vt ta:Addr}{vv tv:List Value}{vs ts:List Int}{ep et:Nat}(d1:o1.data=.cell (some (.ref vt)))(d2:o2.data=.cell (some (.ref ta)))(aM:(vt,listOf vv.toArray ep)∈N)(aQ:(ta,listOf tv.toArray et)∈N)(hv:au vv vs)(hl:vs.length=4)(ht:au tv ts):
  cN c m ((c.L+1+1,o2)::(c.L+1,o1)::N) OM (λf m' n'=>∃t,f=.ret (.int (jp vs ts) t)∧(∀p∈N,p∈n')):=by
 have ax:∀mm nn pos,Ev c.cx mm nn (.Name (ae "sum") pos) (.val (.builtin "sum")):=λmm nn pos=>cR
 have mt:(vt,listOf vv.toArray ep)∈(c.L+1+1,o2)::(c.L+1,o1)::N:=by k_extra "zmm"
 have as:(ta,listOf tv.toArray et)∈(c.L+1+1,o2)::(c.L+1,o1)::N:=by k_extra "zmm"
 have m1:(c.L+1,o1)∈(c.L+1+1,o2)::(c.L+1,o1)::N:=by k_extra "zmm"
 have m2:(c.L+1+1,o2)∈(c.L+1+1,o2)::(c.L+1,o1)::N:=by k_extra "zmm"
 have U:∀p∈N,p∈(c.L+1+1,o2)::(c.L+1,o1)::N:=λp hp=>zT (zT hp);generalize (c.L+1+1,o2)::(c.L+1,o1)::N=NN at mt as m1 m2 U ⊢;refine uI (P:=λv n'=>(∃t,v=.int (jp vs ts) t)∧∀p∈NN,p∈n') (Fc (P:=λv n'=>∃D Y,v=.ref D∧n'=(D,bB Y)::NN∧au Y ([0,1,2,3].map λt=>if t∈ts then 5-nv vs t else nv vs t)) (ax _ _ _) (nB (cl:=[(ae "votes",c.L+1),(ae "things",c.L+1+1)]) rfl (jd (a:=0) (b:=4) ?hr) ?hc (wM aD rfl)) ?hs) ?hret
 case hret=>
  intro v n' O;refine b8 O λJ h=>?_;clear O;refine cp J λt ar=>?_
  try clear J
  subst ar;exact(db t rfl (λp hp=>h p (U p hp)))
 case hs=>
  intro v n' H;refine gL H λD Y ah ab hz=>?_;clear H;subst ah;subst ab;refine(EQ D Y _ Y.length rfl (zH) hz (λt=>⟨⟨t,?_⟩,λp hp=>zT hp⟩));unfold jp;rw[mU]
 case hr=>exact ry cR bf
 case hc=>
  intro v n1 s1 G i1;refine b8 G λaa B=>?_;clear G;subst aa;refine BQ B λr t u z ap hr=>?_
  try clear B
  subst ap;have hS:=qC (k:=c.cx) (m:=m) (n:=n1) hr (by decide) (by decide);refine(vq _ _ _ _ hS.p (Ey (f:=λt=>if t∈ts then 5-nv vs t else nv vs t) rfl hS ?_ ?_))
  .intro C E' mC n2 y t hy aj hs2
   rw[r6] at hy
   have e:0≤y∧y<4:=by simp only[ak,bT,or_false] at hy;lia
   refine yh (Nd (ag aj) (eN (a:=c.L+1+1) (o:=o2) rfl (hs2 _ m2) d2) (hs2 _ as) ht) (λhb=>?_) (λhb=>?_)
   .rw[if_pos (of_decide_eq_true hb)]
    exact jo bf (ft (eN (a:=c.L+1) (o:=o1) rfl (hs2 _ m1) d1) (ag aj) (hs2 _ mt) hv e.1 (by exact eV [y,vs.length] 1 (.a Z0 Y1) Z1 1 (.a Z0 Y1) (.k 4) 1 (.k 4) Z1 rfl e.2 (l9 hl)) (by exact cW [y] 1 (.a Z0 Y1) (.k (2 ^ 63)) 1 (.a Z0 Y1) (.k 4) rfl e.2))
   .rw[if_neg (of_decide_eq_false hb)]
    exact ft (eN (a:=c.L+1) (o:=o1) rfl (hs2 _ m1) d1) (ag aj) (hs2 _ mt) hv e.1 (by exact eV [y,vs.length] 1 (.a Z0 Y1) Z1 1 (.a Z0 Y1) (.k 4) 1 (.k 4) Z1 rfl e.2 (l9 hl)) (by exact cW [y] 1 (.a Z0 Y1) (.k (2 ^ 63)) 1 (.a Z0 Y1) (.k 4) rfl e.2)
  .intro D Y hz a0
   rw[r6] at hz;exact(iw D Y rfl rfl hz)
theorem Fq(e:(vt,listOf vv.toArray ep)∈n)(u:(ta,listOf G.toArray J)∈n)(hv:au vv vs)(hl:vs.length=4)(ht:au G H):fk W0 362 [.ref vt,.ref ta] n 9 100 (λv n'=>(∃t,v=.int (jp vs H) t)∧∀p∈n,p∈n'):=
 tH (body:=OM) (scope:=LB) (binds:=[("votes",.ref vt),("things",.ref ta)]) (by with_unfolding_all rfl) (by with_unfolding_all rfl) (λs X=>dG rfl) rfl (by decide +kernel) rfl rfl rfl λc m B hd hu z Y off _=>by
  obtain ⟨o2,o1,rfl,e2,e1⟩:=Jz (n:=ae "things") (c:=c.L+1+1) (n':=ae "votes") (c':=c.L+1) Y
  exact lg (Fs z e1 e2 e u hv hl ht) λf m' n' h=>by
   obtain ⟨t,rfl,h⟩:=h;exact⟨n',⟨⟨t,rfl⟩,h⟩,λ_ h=>h⟩
end
section
theorem EA:∀{a b:List Int},a.Pairwise (· < ·)→b.Pairwise (· < ·)→(∀x,x∈a↔x∈b)→a=b
 | [],[],_,_,_=>rfl
 | [],y::q,_,_,h=>nomatch (h y).mpr (zH)
 | x::r,[],_,_,h=>nomatch (h x).mp (zH)
 | x::r,y::q,ha,hb,h=>by
  refine b8 (dZ.mp ha) λa1 a2=>?_;refine b8 (dZ.mp hb) λb1 b2=>?_
  have e:x=y:=by
   rcases ak.mp ((h x).mp (zH)) with h1|h1
   .exact h1
   .rcases ak.mp ((h y).mpr (zH)) with h2|h2
    .exact h2.symm
    .have:=b1 x h1
     have:=a1 y h2;lia
  subst e;rw[EA a2 b2 λz=>⟨λhz=>?_,λhz=>?_⟩]
  .rcases ak.mp ((h z).mp (zT hz)) with h1|h1
   .have:=a1 z hz;exact pd (PA this (Eq.symm h1))
   .exact h1
  .rcases ak.mp ((h z).mpr (zT hz)) with h1|h1
   .have:=b1 z hz;exact pd (PA this (Eq.symm h1))
   .exact h1
theorem ux{a:List Int}(h:a.Pairwise (·≤·))(n:a.Nodup):a.Pairwise (· < ·):=by
 induction a with
 | nil=>exact .nil
 | cons x r z=>
  refine b8 (dZ.mp h) λh1 h2=>?_;refine b8 (wy.mp n) λn1 n2=>?_
  exact .cons (λy u=>by
   have:=h1 y u;have:x≠y:=λe=>n1 (e▸u)
   exact Int.lt_iff_le_and_ne.mpr ⟨h1 y u,this⟩) (z h2 n2)
theorem JR(ws:List Int):(Dy ws).Pairwise (· < ·):=List.Pairwise.filter _ (by decide)
theorem Hc{ws:List Int}(h4:∀t∈ws,0≤t∧t<4)(x:Int):x∈Dy ws↔x∈ws:=by
 unfold Dy;rw[bZ];constructor
 .intro h;exact of_decide_eq_true h.2
 .intro h
  have:=h4 x h;refine⟨?_,decide_eq_true h⟩;simp only[ak,bT,or_false];lia
theorem Ku{ns ws:List Int}(hp:ns.Perm ws)(hs:ns.Pairwise (·≤·))(hn:ws.Nodup)(h4:∀t∈ws,0≤t∧t<4):ns=Dy ws:=
 EA (ux hs (hp.nodup_iff.mpr hn)) (JR ws) λx=>by rw[Hc h4,hp.mem_iff]
end
section
open W PyProof Rows
open PyProof.Rows.LCg
theorem vz(hc:LawC c)(G:(c.L+1+1+1+1+1,o5)∈N)(H:o5.data=.cell (some (.ref vt)))(e:(vt,listOf vv.toArray ep)∈N)(u:(ta,listOf z.toArray et)∈N)(hv:au vv vs)(hl:vs.length=4)(ht:au z B)(hm:m (ae "things")=some (.ref ta)):
  Er c.cx m N (.Call (.Name (ae "_law_differences") Y) [.Name (ae "votes") U,.Name (ae "things") O] [] J) (λv n'=>(∃t,v=.int (jp vs B) t)∧∀p∈N,p∈n'):=
 fB (Fi (Fq e u hv hl ht) fV (eN (a:=c.L+1+1+1+1+1) (o:=o5) (by refine(?_:c.cl.lookup _=_);rw[hc.cl];rfl) G H) (ao hm) (by with_unfolding_all rfl) (aK (bu (by decide) _) hc.hd) (aK (bu (by decide) _) hc.hu)) λv n' h=>h
theorem vy(hc:LawC c)(G:(c.L+1+1+1+1+1,o5)∈N)(H:o5.data=.cell (some (.ref vt)))(e:(vt,listOf vv.toArray ep)∈N)(u:(ta,listOf z.toArray et)∈N)(hv:au vv vs)(hl:vs.length=4)(ht:au z B)(hm:m (ae "wanted")=some (.ref ta)):
  Er c.cx m N (.Call (.Name (ae "_law_differences") Y) [.Name (ae "votes") U,.Name (ae "wanted") O] [] J) (λv n'=>(∃t,v=.int (jp vs B) t)∧∀p∈N,p∈n'):=
 fB (Fi (Fq e u hv hl ht) fV (eN (a:=c.L+1+1+1+1+1) (o:=o5) (by refine(?_:c.cl.lookup _=_);rw[hc.cl];rfl) G H) (ao hm) (by with_unfolding_all rfl) (aK (bu (by decide) _) hc.hd) (aK (bu (by decide) _) hc.hu)) λv n' h=>h
theorem uz{c:Fm W0 lawS}(e:Lo)(nn:Ns)(pos:Pos):Ev c.cx e nn (.Name (ae "sorted") pos) (.val (.builtin "sorted")):=cR
theorem BG{c:Fm W0 lawS}{m:Lo}{N:Ns}{e:PE}{p1 p2:Pos}{ta:Addr}{Y:List Value}{G:List Int}{et:Nat}(he:Ev c.cx m N e (.val (.ref ta)))(H:(ta,listOf Y.toArray et)∈N)(ht:au Y G)(hz:G.length<64)
  (h2:autoParam (SE c.env e []) zAa):Er c.cx m N (.Call (.Name (ae "sorted") p1) [e] [] p2) (λv n'=>∃D B ns ez,v=.ref D∧n'=(D,listOf B.toArray ez)::N∧au B ns∧ns.Perm G∧ns.Pairwise (·≤·)):=
 oU (P:=λv n'=>v=.ref ta∧n'=N) (uz _ _ _) (fB (iM he) λv n' h=>⟨h.1,h.2⟩) (λv n' p Q s hi hq=>by
  refine b8 p λz u=>?_
  try clear p
  subst z;subst u;have hg:=hi.at.2 _ H;refine sorted_N hi.at.1 hi.at.2 (c9 _ hg.1 rfl ⟨et,rfl⟩) ht (by rw[ht.length];exact hz) λh5 B ns e5 F5 N5 U O J=>?_
  exact hq _ _ _ (zQ _ B ns e5 rfl rfl U O J) (hi.to (tk:=s.toks) F5 N5)) rfl h2
theorem KJ{c:Fm W0 lawS}{m:Lo}{n0:Ns}{R:Re}{rest:List Stmt}(hc:LawC c){o1 o2 o3 o4 o5:Obj}{ps qs:Array Value}{v2:Option Value}{vt wa:Addr}{vv wv:List Value}{ew:Nat}{vs:List Int}(d2:o2.data=.cell v2)(c4:b9 c.L n0)
  (d5:o5.data=.cell (some (.ref vt))) (cU:(vt,bB vv)∈n0) (hv:au vv vs) (hl:vs.length=4) (dj:(wa,listOf wv.toArray ew)∈n0) (cw:au wv (dJ vs)) (cM:(dJ vs).Nodup)
  (m2:m (ae "wanted")=some (.ref wa)) (cz:∀i:Nat,i<16→th (i:Int)=Dy (dJ vs)∨jp vs (dJ vs)<jp vs (th (i:Int)))
  (b0:∀(m':Lo) (oC:Obj) (v0:Option Value),(∀x,x≠ae "things"→m' x=m x)→oC.data=.cell v0→cN c m' (bN c.L o1 oC o3 o4 o5 ps qs++n0) rest R):
  cN c m (bN c.L o1 o2 o3 o4 o5 ps qs++n0) (bp 18::rest) R:=by
 refine qD (a:=0) (b:=16) (k:=16) (ca:=c.L+1+1) (by rw[hc.cl];rfl) ?hr rfl (by decide) (λI _ m' n'=>(∀x,x≠ae "things"→m' x=m x)∧∃oC v0,oC.data=.cell v0∧n'=bN c.L o1 oC o3 o4 o5 ps qs++n0) ?h0 ?turn ?done
 case hr=>exact ry cR bf
 case h0=>
  intro I hI;exact⟨λ_ _=>rfl,o2,v2,d2,rfl⟩
 case done=>
  intro I m' n1 hI ax;refine b8 ax λaM as=>?_;clear ax;refine pU as λoC v0 hd b6=>?_
  try clear as
  subst b6;exact b0 m' oC v0 aM hd
 case turn=>
  intro i t m' n1 I oI cy hI ar;refine b8 ar λaM ap=>?_;clear ar;refine pU ap λoC v0 hd b5=>?_
  try clear ap
  subst b5
  have cD:∀o':Obj,∀p∈bN c.L o1 o' o3 o4 o5 ps qs++n0,p.1≠I:=λo' p hp=>by
   rcases aC.mp hp with h|h
   .exact kZ (P:=λa=>a≠I) (λp hp=>lc (hI p (zL hp))) p h
   .exact lc (hI p (zR h))
  refine(nV oC (λo'=>(I,oI)::(bN c.L o1 o' o3 o4 o5 ps qs++n0)) v0 (.tail (Ne.symm (cD oC (c.L+1+1,oC) (by k_extra "zmm"))) (Nb hc.lo c4)) hd (λo' bv=>?_));rw[fQ] at bv;have dg:=cD o';refine(?_:cN c m' ((I,oI)::(bN c.L o1 o' o3 o4 o5 ps qs++n0)) _ _)
  have mc:(c.L+1+1,o')∈(I,oI)::(bN c.L o1 o' o3 o4 o5 ps qs++n0):=by k_extra "zmm"
  have m5:(c.L+1+1+1+1+1,o5)∈(I,oI)::(bN c.L o1 o' o3 o4 o5 ps qs++n0):=by k_extra "zmm"
  have bo:(wa,listOf wv.toArray ew)∈(I,oI)::(bN c.L o1 o' o3 o4 o5 ps qs++n0):=by k_extra "zmm"
  have br:(vt,listOf vv.toArray vv.length)∈(I,oI)::(bN c.L o1 o' o3 o4 o5 ps qs++n0):=zT (zR cU);have dp:∀x,x≠ae "things"→m' x=m x:=aM;generalize cC:(I,oI)::(bN c.L o1 o' o3 o4 o5 ps qs++n0)=NN at mc m5 bo br ⊢;refine rx (cl:=[(ae "choice",c.L+1+1)]) (P:=λv n'=>∃Th O,v=.ref Th∧n'=(Th,bB O)::NN∧au O (th (i:Int))) rfl (jd (a:=0) (b:=4) ?hr2) ?hc1 ?k1 (by rfl) (kx hc rfl)
  case hr2=>exact ry cR bf
  case hc1=>
   intro v n1 s1 aj i1;refine b8 aj λbl ah=>?_;clear aj;subst bl;refine BQ ah λr t u z b4 hr=>?_
   try clear ah
   subst b4;have hS:=qC (k:=c.cx) (m:=m') (n:=n1) hr (by decide) (by decide);refine(vq _ _ _ _ hS.p (wN (g:=bt (i:Int)) rfl hS ?_ ?_))
   .intro C E' mC n2 y t hy c6 hs2
    rw[r6] at hy
    have y0:0≤y:=by simp only[ak,bT,or_false] at hy;lia
    rw[← tI y0];exact kh (qG (qE (qj (eN (a:=c.L+1+1) (o:=o') rfl (hs2 _ mc) bv)) (ag c6) y0) bf)
   .intro D O hz dd
    rw[r6] at hz;exact(iw D O rfl rfl hz)
  case k1=>
   intro v n' ab;refine gL ab λTh O bj bi cn=>?_;clear ab;subst bj;subst bi;have cd:(Th,bB O)∈(Th,bB O)::NN:=zH;have B:∀p∈NN,p∈(Th,bB O)::NN:=λp hp=>zT hp;have c5:∀p∈NN,p∈(Th,bB O)::NN:=B;have cc:cj m' (ae "things") (.ref Th) (ae "wanted")=some (.ref wa):=(aM _ (by decide)).trans m2;have cQ:(dJ vs).length≤4:=tZ;refine tC (P:=λb n'=>b=false∧∀p∈NN,p∈n') ?test ?yes ?no
   case yes=>
    intro n' aa;refine b8 aa λh _=>?_;clear aa;cases h
   case no=>
    intro n' Y;refine b8 Y λ_ aD=>?_;clear Y;exact bQ (cb ⟨aD _ (by rw[← cC];exact zH),bN c.L o1 o' o3 o4 o5 ps qs++n0,λp hp=>⟨aD p (by rw[← cC];exact zT hp),dg p hp⟩,λx hx=>(if_neg hx).trans (aM x hx),o',_,bv,rfl⟩)
   case test=>
    refine AC (P1:=λb n'=>b = !decide (th (i:Int)=Dy (dJ vs))∧∀p∈(Th,bB O)::NN,p∈n') ?c1 (λn' G=>?c2) (λn' G=>⟨rfl,λp hp=>G.2 p (B p hp)⟩)
    case c1=>
     refine AB (P:=λv n1=>v=.ref Th∧n1=(Th,bB O)::NN) (P2:=λv n1 v2 n2=>∃D J ez,v2=.ref D∧n2=(D,listOf J.toArray ez)::n1∧au J (Dy (dJ vs))) (iM (ao rfl)) (λv n1 G=>?_) (λv n1 v2 n2 G p2 Q s hi hq=>?_)
     .refine b8 G λ_ bh=>?_
      try clear G
      subst bh;refine fB (BG (ao cc) (B _ bo) cw (uu cQ (bR true))) ?_;intro v2 n2 U;refine zA U λD J ns ez bb a7 aQ c3 c0=>?_;clear U;subst bb;subst a7;rw[Ku c3 c0 cM (λt ht=>(jU (vs:=vs) (i:=4) (aS 4)).2 t (tY ht))] at aQ;exact(nV D J ez rfl rfl aQ)
     .refine b8 G λa6 a5=>?_
      try clear G
      subst a6;subst a5;refine zB p2 λD J ez a4 a0 aQ=>?_
      try clear p2
      subst a4;subst a0;exact ne_intsK (c9 _ ((hi.at.2 _ (zT cd)).1) rfl ⟨_,rfl⟩) cn (c9 _ ((hi.at.2 _ (zH)).1) rfl ⟨_,rfl⟩) aQ (by have:=hc.hu;refine(?_:c.un+64<cX);exact zE this (bR true)) (hq _ s ⟨rfl,λp hp=>zT hp⟩ hi)
    case c2=>
     refine b8 G λcB H=>?_
     try clear G
     have cA:¬th (i:Int)=Dy (dJ vs):=by
      intro e;rw[decide_eq_true e] at cB;cases cB
     have dd:=(cz i cy).resolve_left cA;refine AC (P1:=λb bm=>b=false∧∀p∈NN,p∈bm) ?_ (λbm p2=>by cases p2.1) (λbm p2=>⟨rfl,p2.2⟩);refine AB (P:=λv n1=>(∃t,v=.int (jp vs (th (i:Int))) t)∧∀p∈n',p∈n1) (P2:=λv n1 v2 n2=>(∃t,v2=.int (jp vs (dJ vs)) t)∧∀p∈n1,p∈n2) (vz hc (H _ (B _ m5)) d5 (H _ (B _ br)) (H _ cd) hv hl cn rfl) (λv n1 G=>vy hc (G.2 _ (H _ (B _ m5))) d5 (G.2 _ (H _ (B _ br))) (G.2 _ (H _ (B _ bo))) hv hl cw cc) (λv n1 v2 n2 G p2 Q s hi hq=>?_);obtain ⟨⟨t1,rfl⟩,G⟩:=G;obtain ⟨⟨t2,rfl⟩,p2⟩:=p2;refine le_int ?_;rw[decide_eq_false (by lia)];exact hq false s ⟨rfl,λp hp=>p2 p (G p (H p (B p hp)))⟩ hi
end
section
open W PyProof Rows
open PyProof.Rows.LCg
section
variable {cs:Scope}{c:Fm W0 cs}{sc:Scope}{k:Cx c sc}{m:Lo}{n:Ns}{R:Re}
theorem E6{pos}(hl:Ev k m n l (.int a))(hr:Ev k m n r (.flt x))(hm:a.natAbs<2 ^ 1023):Ev k m n (.BinOp l .Sub r pos) (.flt (mz (bF a) x)):=
 ⟨λ_ s hi hq=>d9 (hl.run _ s hi λv s1 hv h1=>hr.run _ s1 h1 λv2 s2 B h2=>by
  refine cp hv λt z=>?_
  try clear hv
  subst z;refine cp B λu e=>?_
  try clear B
  subst e
  exact sub_if_fits hm (hq _ _ ⟨_,rfl⟩ h2.toks))⟩
theorem GW{pos wh}(hl:Ev k m n l (.flt x))(hr:Ev k m n r (.int a))(hm:autoParam (eR .NotEq r=false) zAc):Tw k m n (.Compare l [.NotEq] [r] pos) wh (fL x a != some dk):=
 ⟨λ_ s hi hq=>bY (hl.run _ s hi λv s1 hv h1=>hr.run _ s1 h1 λv2 s2 B h2=>by
  refine cp hv λt z=>?_
  try clear hv
  subst z;refine cp B λu e=>?_
  try clear B
  subst e
  exact ne_fi (aY (hq _ h2))) hm⟩
end
noncomputable def Hn(k:Nat):UInt64:=if (2:Int)<(k:Int) then mz (bF 3) (xq k) else xq k
noncomputable def sK(k:Nat):Int:=if 5-(k:Int)<(k:Int) then 5-(k:Int) else (k:Int)
theorem Kc:∀k,k<6→(fL (fY (fY (bF 2) (Hn k)) (bF (5-sK k))) (3*sK k) != some dk)=false:=by decide +kernel
theorem Lm(h:k<6):0≤sK k∧sK k≤5:=by
 unfold sK
 split<;>lia
theorem Ll{c:Fm W0 lawS}{m:Lo}{N:Ns}(hc:LawC c){o5:Obj}{vt:Addr}{vv:List Value}{vs:List Int}{ep:Nat}{i k:Nat}{J:Tok}{p1 p2 p3 p4 p5 p6 Y U O z:Pos}{kk:Nat}(m5:(c.L+1+1+1+1+1,o5)∈N)(d5:o5.data=.cell (some (.ref vt)))(B:(vt,listOf vv.toArray ep)∈N)(hv:au vv vs)(hl:vs.length=4)(u:i<4)(hk:vs.getD i 0=(k:Int))(hm:m (ae "thing")=some (.int (i:Int) J)):
  Er c.cx m N (.Call (.Name (ae "min") p1) [.Subscript (.Name (ae "votes") p2) (.Name (ae "thing") p3) p4,.BinOp (.Constant (.int 5) kk p5) .Sub (.Subscript (.Name (ae "votes") p6) (.Name (ae "thing") Y) U) O] [] z) (λv n'=>(∃t,v=.int (sK k) t)∧n'=N):=by
 have e:∀pa H G,Ev c.cx m N (.Subscript (.Name (ae "votes") pa) (.Name (ae "thing") H) G) (.int (k:Int)):=λpa H G=>by
  rw[← hk];exact ft (eN (a:=c.L+1+1+1+1+1) (o:=o5) (by refine(?_:c.cl.lookup _=_);rw[hc.cl];rfl) m5 d5) (ag hm) B hv (ce i) (K8 (pV hl u)) (cW [i] 1 (.a Z0 Y1) (.k (2 ^ 63)) 1 (.a Z0 Y1) (.k 4) rfl (ef u))
 exact iM (E8 cR (e _ _ _) (jo bf (e _ _ _)))
theorem Lr(hf:Ev k m n f (.val (.builtin "isinstance")))(h1:Ev k m n e1 (.flt x))(h2:Ev k m n e2 (.val (.type "float")))
  (c1:autoParam (CC k.env f [e1,e2] pos) zAa) (c2:autoParam (SE k.env e1 [e2]) zAa) (c3:autoParam (SE k.env e2 []) zAa):Ev k m n (.Call f [e1,e2] [] pos) (.val (.bool true)):=
 ⟨λQ s hi hQ=>gu (hf.run _ s hi λv s1 u i1=>by
  cases u;refine callWith_builtin1 (aI (h1.run _ s1 i1 λv1 s2 d2 i2=>aI (h2.run _ s2 i2 λv2 z e i3=>bK ?_) c3) c2) c2 (hplain:=by rw[show _=_ from c3];rfl);obtain ⟨t1,rfl⟩:=d2;cases e
  exact PySem.IsiPair.float_float (hQ _ _ rfl i3)) c1⟩
theorem K0{c:Fm W0 lawS}{m:Lo}{N:Ns}{f:UInt64}{e:PE}{u:Pos}{z H G B:Pos}(he:Ev c.cx m N (.Subscript (.Name (ae "points") z) e u) (.flt f)):
  Tw c.cx m N (.Call (.Name (ae "isinstance") H) [.Subscript (.Name (ae "points") z) e u,.Name (ae "float") G] [] B) (eval (.Call (.Name (ae "isinstance") H) [.Subscript (.Name (ae "points") z) e u,.Name (ae "float") G] [] B) c.env) true:=nq (Lr cR he cR)
theorem KI{c:Fm W0 lawS}{m:Lo}{n0:Ns}{R:Re}{rest:List Stmt}(hc:LawC c){o1 o2 o3 o4 o5:Obj}{ps qs:Array Value}{vt pa:Addr}{vv vp:List Value}{vs:List Int}{ks:List Nat}
  (d4:o4.data=.cell (some (.ref pa))) (d5:o5.data=.cell (some (.ref vt))) (bl:(vt,bB vv)∈n0) (bo:(pa,bB vp)∈n0) (hp:jr vp ks) (bh:ks.length=4) (a7:vs=ks.map oZ) (br:∀k∈ks,k≤5) (hv:au vv vs)
  (aM:∀(m':Lo),(∀x,x≠ae "thing"→x≠ae "fewer"→x≠ae "off"→m' x=m x)→cN c m' (bN c.L o1 o2 o3 o4 o5 ps qs++n0) rest R):
  cN c m (bN c.L o1 o2 o3 o4 o5 ps qs++n0) (bp 19::rest) R:=by
 have bb:vs.length=4:=by rw[a7,aE,bh]
 refine uJ (a:=0) (b:=4) (k:=4) ?hr rfl (by decide) (λI _ m' n'=>(∀x,x≠ae "thing"→x≠ae "fewer"→x≠ae "off"→m' x=m x)∧n'=bN c.L o1 o2 o3 o4 o5 ps qs++n0) ?h0 ?turn ?done
 case hr=>exact ry cR bf
 case h0=>
  intro I hI;exact⟨λ_ _ _ _=>rfl,rfl⟩
 case done=>
  intro I m' n1 hI J;refine b8 J λaQ ar=>?_;clear J;subst ar;exact aM m' aQ
 case turn=>
  intro i t m' n1 I oI U hI H;refine b8 H λaQ ap=>?_;clear H;subst ap;rw[fQ];refine b8 (EG a7 br i) λk6 a0=>?_;refine cp (hp.at bh (t:=(i:Int)) (ce i) (cW [i] 1 (.a Z0 Y1) (.k 4) 1 (.a Z0 Y1) (.k 4) rfl (ef U))) λtp aD=>?_;rw[bM] at aD;generalize ks.getD i 0=k at k6 a0 aD
  have m5:(c.L+1+1+1+1+1,o5)∈(I,oI)::(bN c.L o1 o2 o3 o4 o5 ps qs++n0):=by k_extra "zmm"
  have m4:(c.L+1+1+1+1,o4)∈(I,oI)::(bN c.L o1 o2 o3 o4 o5 ps qs++n0):=by k_extra "zmm"
  have as:(vt,listOf vv.toArray vv.length)∈(I,oI)::(bN c.L o1 o2 o3 o4 o5 ps qs++n0):=zT (zR bl);have a6:(pa,listOf vp.toArray vp.length)∈(I,oI)::(bN c.L o1 o2 o3 o4 o5 ps qs++n0):=zT (zR bo)
  have bj:∀p∈bN c.L o1 o2 o3 o4 o5 ps qs++n0,p∈(I,oI)::(bN c.L o1 o2 o3 o4 o5 ps qs++n0)∧p.1≠I:=λp hp=>⟨zT hp,lc (hI p hp)⟩
  have mI:(I,oI)∈(I,oI)::(bN c.L o1 o2 o3 o4 o5 ps qs++n0):=zH;generalize (I,oI)::(bN c.L o1 o2 o3 o4 o5 ps qs++n0)=NN at m5 m4 as a6 bj mI ⊢
  have bm:∀mm (O:mm (ae "thing")=some (.int (i:Int) t)) pa pb pc,Ev c.cx mm NN (.Subscript (.Name (ae "votes") pa) (.Name (ae "thing") pb) pc) (.int (k:Int)):=λmm O pa pb pc=>by
   rw[← a0];exact ft (eN (a:=c.L+1+1+1+1+1) (o:=o5) (by refine(?_:c.cl.lookup _=_);rw[hc.cl];rfl) m5 d5) (ag O) as hv (ce i) (K8 (pV bb U)) (cW [i] 1 (.a Z0 Y1) (.k (2 ^ 63)) 1 (.a Z0 Y1) (.k 4) rfl (ef U))
  have ax:∀mm (O:mm (ae "thing")=some (.int (i:Int) t)) a5 pb pc,Ev c.cx mm NN (.Subscript (.Name (ae "points") a5) (.Name (ae "thing") pb) pc) (.flt (xq k)):=λmm O a5 pb pc=>
   uN (eN (a:=c.L+1+1+1+1) (o:=o4) (by refine(?_:c.cl.lookup _=_);rw[hc.cl];rfl) m4 d4) (ag O) a6 ⟨tp,by rw[bM];exact aD⟩ (ce i) (cW [i] 1 (.a Z0 Y1) (.k (2 ^ 63)) 1 (.a Z0 Y1) (.k 4) rfl (ef U))
  have bi:=Lm k6;have bv:(5-sK k).natAbs<2 ^ 1023:=aK (Rv (cW [sK k] 1 Y0 (.s (.k 5) Z0) 1 Z0 (.k 5) rfl bi.2) (cW [sK k] 1 (.s (.k 5) Z0) (.k 5) 1 Y0 Z0 rfl bi.1):(5-sK k).natAbs≤5) (by decide +kernel);refine dL (Ll hc m5 d5 as hv bb U a0 rfl) ?_;intro v n' G;refine b8 G λB aj=>?_;clear G;refine cp B λtf a4=>?_
  try clear B
  subst a4;subst aj;refine ru (y:=Hn k) (yh (eJ qk (bm _ rfl _ _ _) bf) (λhb=>?_) (λhb=>?_)) λto=>?_
  .unfold Hn
   rw[if_pos (of_decide_eq_true hb)];exact E6 bf (ax _ rfl _ _ _) (by decide +kernel)
  .unfold Hn
   rw[if_neg (of_decide_eq_false hb)];exact ax _ rfl _ _ _
  refine tC (P:=λb e=>b=false∧e=n') ?test ?yes ?no
  case yes=>
   intro e z;refine b8 z λh _=>?_;clear z;cases h
  case no=>
   intro e u;refine b8 u λ_ ah=>?_;clear u;subst ah;exact bQ (cb ⟨mI,bN c.L o1 o2 o3 o4 o5 ps qs++n0,bj,λx h1 h2 h3=>(if_neg h3).trans ((if_neg h2).trans ((if_neg h1).trans (aQ x h1 h2 h3))),rfl⟩)
  case test=>
   refine Dj (P1:=λb e=>b=false∧e=n') (xE (Di (qt (K0 (ax _ rfl _ _ _)))) λb e h=>⟨h.1,h.2⟩) (λe Y=>?_) (λe Y=>by cases Y.1);refine b8 Y λ_ ab=>?_
   try clear Y
   subst ab;refine Dj (P1:=λb n'=>b=false∧n'=e) (xE (Di (GW (yg (yf bf (mY rfl) (by decide +kernel)) (jo bf (ag (i:=sK k) rfl)) bv) (km bf (ag (i:=sK k) rfl) (fO (by decide))))) λb n' h=>⟨h.1.trans (Kc k k6),h.2⟩) (λn' Y=>?_) (λn' Y=>by cases Y.1);refine b8 Y λ_ aa=>?_
   try clear Y
   subst aa;exact zd ⟨rfl,rfl⟩
end
section
open W PyProof.Rows
noncomputable def oE(a:Addr):Sem PySem.Fin:=do
 let items ← mD (.ref a)
 lX (.ref a) λ_=>#[]
 let before ← seqEpoch a
 let fP ← newTuple items.toList
 let keyStore ← newList []
 gr [fP,keyStore] do
  rule "list.sort.reverse"
  let kind ← if items.size<2 then ck general' else keyKind' items
  let ((),s) ← (if items.size<2 then ck () else sortRuns').run (oq kind (items.zip items).reverse #[] 7 none)
  let sorted:=(arrOf s).map (·.2)
  let touched:=(← seqEpoch a) != before
  lX (.ref a) λ_=>sorted.reverse
  if let some e:=failedOf s then rule "list.sort.comparison-raised";throw e
  if touched then rule "list.sort.modified";raiseError "ValueError" "list modified during sort"
  ret .none
theorem J0(a:Addr):Builtin.«list.sort» ⟨[.ref a],[(PySem.Str.ofString "reverse",.bool true)]⟩=oE a:=rfl
theorem JZ(a:Addr):Builtin.«list.sort» ⟨[.ref a],[(PySem.Str.ofString "key",.none),(PySem.Str.ofString "reverse",.bool true)]⟩=oE a:=rfl
section
variable {prog:Program}{w:World}{A:Around}{E:VP}{s:Shared}{h₀:Heap}{L a:Addr}{m:Lo}{news:Ns}{vs:List Value}
theorem DG{n:Nat}{P:PySem.Fin→Shared→Prop}(F:Fr h₀ L s.heap m)(N:ba h₀ L s.heap news)(ho:s.heap.get? a=some (cG "list" vs.toArray n))(ab:a≠L)(ah:h₀.get? a=none)(ar:∀p∈news,p.1≠a)(O:vs.length<64)
  (h1:vs.length<2→∀c h',Fr h₀ L h' m→ba h₀ L h' ((a,cG "list" vs.toArray c)::news)→P (.done (.ret .none)) {s with heap:=h'})
  (h2:2≤vs.length→∀e1 h',Fr h₀ L h' m→ba h₀ L h' ((a,cG "list" #[] e1)::news)→aA (aq prog w) A (keyKind' vs.toArray) (λκ s'=>(kas_sort vs.length).kasWp (kas_ask prog w A κ vs.reverse)
   (λp aa=>KasFin h₀ L m a e1 ((p.toList.map λi=>vs.reverse.getD i Value.none).reverse) (λs3=>P (.done (.ret .none)) s3) aa) s') (λ_ _=>False) {s with heap:=h'}):
  aA (aq prog w) A (oE a) P E s:=by
 have s1:=cE s.heap a (bJ λ_=>(#[]:Array Value))
 obtain ⟨e1,ap⟩:∃e1,(s.heap.update a (bJ λ_=>(#[]:Array Value))).get? a=some (cG "list" #[] e1):=⟨_,fF ho λ_=>#[]⟩
 have F3:Fr h₀ L (((s.heap.update a (bJ λ_=>(#[]:Array Value))).push (cG "tuple" vs.toArray 0)).push (cG "list" #[] 0)) m:=((kas_fr F s1 ab ah).push _).push _
 have N2:ba h₀ L (((s.heap.update a (bJ λ_=>(#[]:Array Value))).push (cG "tuple" vs.toArray 0)).push (cG "list" #[] 0)) news:=
  (kas_news N s1 ar).grown λb x e=>aG _ (aG _ e)
 have N3:ba h₀ L (((s.heap.update a (bJ λ_=>(#[]:Array Value))).push (cG "tuple" vs.toArray 0)).push (cG "list" #[] 0)) ((a,cG "list" #[] e1)::news):=λp hp=>by
  rcases ak.mp hp with rfl|hp
  .exact(eP (aG _ (aG _ ap)) ab ah)
  .exact N2 p hp
 unfold oE;refine af (listItems_at ho rfl ?_);refine af (pY ho rfl ?_ (by rw[aL,eQ];exact r8 (aN O) (bR true)) (cr _));refine af (sX ap rfl ?_);refine af (wpAny_newTuple ?_ (by refine(?_:vs.length≤_);rw[eQ];exact r8 (aN O) (bR true)));refine af (vh ?_ (cr _));refine bC ?_;refine(?_:aA (aq prog w) A _ P E {s with heap:=((s.heap.update a (bJ λ_=>(#[]:Array Value))).push (cG "tuple" vs.toArray 0)).push (cG "list" #[] 0)});refine af (gy ?_)
 by_cases J:vs.length<2
 .have H:vs.toArray.size<2:=by rw[aL];exact J
  rw[if_pos H,if_pos H];refine af (ai ?_);refine af (ai ?_);dsimp only
  have G:((arrOf (oq general' (vs.toArray.zip vs.toArray).reverse #[] 7 none)).map (·.2)).reverse=vs.toArray:=by
   refine(?_:((vs.toArray.zip vs.toArray).reverse.map (·.2)).reverse=vs.toArray);apply oo.mp;rw[kO,ve,kO,om,vj,C8];exact JD (aS _)
  rw[G];have na:=N3 (a,cG "list" #[] e1) (zH);have s2:=cE (((s.heap.update a (bJ λ_=>(#[]:Array Value))).push (cG "tuple" vs.toArray 0)).push (cG "list" #[] 0)) a (bJ λ_=>vs.toArray)
  obtain ⟨c2,hc2⟩:∃c2,((((s.heap.update a (bJ λ_=>(#[]:Array Value))).push (cG "tuple" vs.toArray 0)).push (cG "list" #[] 0)).update a (bJ λ_=>vs.toArray)).get? a=some (cG "list" vs.toArray c2):=⟨_,fF na.1 λ_=>vs.toArray⟩
  refine af (sX na.1 rfl ?_);refine af (pY na.1 rfl ?_ (cr _) (by rw[aL,eQ];exact r8 (aN J) (bR true)));simp only[bne_self_eq_false,hU,if_false];refine ai (h1 J c2 _ (F3.change s2 na.2.1 na.2.2) λp hp=>?_)
  rcases ak.mp hp with rfl|hp
  .exact(eP hc2 ab ah)
  .exact⟨s2.extBut _ _ (ar p hp) (N2 p hp).1,(N2 p hp).2⟩
 .have aj:2≤vs.length:=cL J
  have H:¬vs.toArray.size<2:=by rw[aL];exact J
  rw[if_neg H,if_neg H];refine af (ci (h2 aj e1 _ F3 N3) (λκ s0 ask=>?_) λ_ _ x=>x.elim);have aD:vs.reverse.length=vs.length:=bg
  have ax:(vs.toArray.zip vs.toArray).reverse=rO vs.reverse:=by
   unfold rO;apply oo.mp;rw[kO,om,om];rw[Gm,Gm,List.reverse_zipWith rfl]
  rw[ax];rw[kas_ask_eq] at ask
  have aQ:oq κ (rO vs.reverse) #[] 7 none=kas_st κ (rO vs.reverse) (bP (aV vs.reverse.length)):=by
   have e:=kas_range (rO vs.reverse);rw[pairsOf_size] at e;refine(?_:oq κ (rO vs.reverse) #[] 7 none=oq κ ((bP (aV vs.reverse.length)).map (kas_item (rO vs.reverse))) #[] 7 none);rw[e]
  rw[← aD] at ask aj O
  have run:=kas_runs (E:=E) (Q:=λ_ B s'=>∃p:Array Nat,p.size=vs.reverse.length∧arrOf B=p.map (kas_item (rO vs.reverse))∧failedOf B=none∧KasFin h₀ L m a e1 ((p.toList.map λi=>vs.reverse.getD i Value.none).reverse) (λaa=>P (.done (.ret .none)) aa) s')
   aj O (λp' B s' a1 a2 a3 a4=>(Oz p' a1 a2 a3 a4)) ask
  rw[← aQ] at run;refine af (ci run ?_ λ_ _ e=>e);intro Y s' z;obtain ⟨⟨⟩,B⟩:=Y;refine sJ z λp hp aM hf u=>?_;clear z;refine hZ u λas g F' N' U k=>?_
  try clear u
  dsimp only;refine hZ U.split λpre post e0 hg x1 x2=>?_;rw[e0] at N';have na:=N' (a,cG "list" #[] e1) (zR (.head _))
  have G:((arrOf B).map (·.2)).reverse=bP ((p.toList.map λi=>vs.reverse.getD i Value.none).reverse):=by
   apply oo.mp;rw[aM,kO,Array.map_map,ve]
   congr 1
   exact rT λi _=>by refine(?_:(kas_item (rO vs.reverse) i).2=_);rw[kas_item_eq]
  have hsz:(bP ((p.toList.map λi=>vs.reverse.getD i Value.none).reverse)).size=vs.reverse.length:=by rw[aL,bg,aE,Db,hp]
  rw[G];have s2:=cE s'.heap a (bJ λ_=>bP ((p.toList.map λi=>vs.reverse.getD i Value.none).reverse))
  obtain ⟨c2,hc2⟩:∃c2,(s'.heap.update a (bJ λ_=>bP ((p.toList.map λi=>vs.reverse.getD i Value.none).reverse))).get? a=some (cG "list" (bP ((p.toList.map λi=>vs.reverse.getD i Value.none).reverse)) c2):=⟨_,fF na.1 λ_=>bP ((p.toList.map λi=>vs.reverse.getD i Value.none).reverse)⟩
  refine af (sX na.1 rfl ?_);refine af (pY na.1 rfl ?_ (cr _) (aw (fz hsz) (by rw[eQ];exact r8 (aN O) (bR true))));rw[hf];simp only[bne_self_eq_false,hU,if_false];refine ai (k _ c2 (kas_fr F' s2 na.2.1 na.2.2) ?_);rw[hg];exact Mp N' x1 x2 s2 hc2
theorem zS(l:List Value):((aV l.length).map λi=>l.getD i Value.none)=l:=by
 refine ot (by simp) λi h1 h2=>?_;simp only[cI,mF,ay,am h2,GF]
theorem uf(F:Fr h₀ L s.heap m)(N:ba h₀ L s.heap news)(hl:s.heap.IsList l vs.toArray)(J:vs.length<64)
  (aj:g5 "sorted" ⟨[.ref l],kw⟩) (ah:∀x,g5 "list.sort" ⟨[.ref x],kw⟩) (ht:∀x,Builtin.«list.sort» ⟨[.ref x],kw⟩=oE x)
  (hk:2≤vs.length→∀h' (Q':SortKind→Shared→Prop),Fr h₀ L h' m→ba h₀ L h' news→Q' κ {s with heap:=h'}→aA (aq prog w) A.in1.in1 (keyKind' vs.toArray) Q' (λ_ _=>False) {s with heap:=h'})
  (hc:∀i j h' tk (C:Bool→Shared→Prop),i<vs.length→j<vs.length→Fr h₀ L h' m→ba h₀ L h' news→(∀b tk',R i j b→C b {s with heap:=h',toks:=tk'})→
   aA (aq prog w) A.in1.in1 (IZ κ (vs.reverse.getD i Value.none) (vs.reverse.getD j Value.none)) C (λ_ _=>False) {s with heap:=h',toks:=tk})
  (h:∀D p c h' tk,P vs.length p→(2≤vs.length→Good R lt vs.length→tL lt p vs.length)→(∀q∈news,q.1<D)→Fr h₀ L h' m→ba h₀ L h' ((D,listOf ((p.toList.map λi=>vs.reverse.getD i Value.none).reverse).toArray c)::news)→Q (.ref D) {s with heap:=h',toks:=tk}):
  aA (aq prog w) A (call (.builtin "sorted") [.ref l] kw) Q E s:=by
 refine call_function_entry_kw kind_sorted plain_sorted entry_sorted aj ?_;unfold Builtin.«sorted»;refine af (m:=checkCount "sorted" 1 1 _) (ai ?_);refine af (collect_list hl ?_ (by rw[eQ];exact r8 (aN J) (bR true)));refine af (vh ?_ (by rw[eQ];exact r8 (aN J) (bR true)))
 have hsz:((s.heap.push (cG "list" #[] 0)).update s.heap.objs.size (bJ (·++vs.toArray))).objs.size=s.heap.objs.size+1:=by
  rw[Heap.size_update,size_push']
 have Y:(((s.heap.push (cG "list" #[] 0)).update s.heap.objs.size (bJ (·++vs.toArray))).push (cG "list" vs.toArray 0)).get? (s.heap.objs.size+1)=some (cG "list" vs.toArray 0):=by
  rw[← hsz];exact a9 _ rfl
 have keep:∀b o,s.heap.get? b=some o→(((s.heap.push (cG "list" #[] 0)).update s.heap.objs.size (bJ (·++vs.toArray))).push (cG "list" vs.toArray 0)).get? b=some o:=λb o q=>by
  have u:b<s.heap.objs.size:=bO q;rw[IX _ _ _ (by rw[hsz];exact aB (aW u)),Heap.get?_update_ne _ _ _ _ (aB u),IX _ _ _ (aB u)];exact q
 have hL:L<s.heap.objs.size:=F.ns.lt;have hD:∀q∈news,q.1<s.heap.objs.size+1:=λq hq=>aW (bO (N q hq).1);refine(?_:aA _ _ _ _ _ {s with heap:=((s.heap.push (cG "list" #[] 0)).update s.heap.objs.size (bJ (·++vs.toArray))).push (cG "list" vs.toArray 0)});rw[hsz];refine af (bC (wpAny_call_entry_kw Bs (db _ Y rfl) Av ?body (ah _)))
 case body=>
  have ab:=ht (s.heap.objs.size+1);refine(?_:aA (aq prog w) A.in1.in1 (Builtin.«list.sort» ⟨[.ref (s.heap.objs.size+1)],kw⟩) _ _ _);rw[ab]
  refine DG (s:={s with heap:=((s.heap.push (cG "list" #[] 0)).update s.heap.objs.size (bJ (·++vs.toArray))).push (cG "list" vs.toArray 0)})
   (F.kept keep) (N.grown keep) Y (aF (aW hL)) (C6 (aw F.above (dO (aN hL))))
   (λp hp=>aB (hD p hp)) J (λu c h' F' N'=>?_) (λh2 e1 h' F' N'=>?_)
  .refine(db _ rfl (ai (db _ rfl (h _ (bP (aV vs.length)) c h' s.toks (CZ _) (λh2=>by exact pd (uH u h2)) hD F' ?_))))
   have e:((bP (aV vs.length)).toList.map λi=>vs.reverse.getD i Value.none).reverse=vs:=by
    have e2:=zS vs.reverse;rw[bg] at e2;rw[List.toList_toArray,e2,C8]
   rw[e];exact N'
  .refine ci (hk h2 h' (λU s'=>U = κ∧s' = {s with heap:=h'}) F' (λp hp=>N' p (.tail _ hp)) ⟨rfl,rfl⟩) (λU s' aa=>?_) λ_ _ x=>x
   refine b8 aa λH G=>?_
   try clear aa
   subst H;subst G;refine tl (n:=vs.length) (R:=R) (I:=λs'=>∃O tk,s' = {s with heap:=O,toks:=tk}∧Fr h₀ L O m∧ba h₀ L O ((s.heap.objs.size+1,cG "list" #[] e1)::news)) (λi j hi hj C s1 hI hC=>?_) (λp s1 hp hI=>?_) (uD (lt:=lt) h2) (iw h' s.toks rfl F' N')
   .refine gL hI λh1 tk B F1 N1=>?_
    try clear hI
    subst B;exact hc i j h1 tk C hi hj F1 (λp hp=>N1 p (.tail _ hp)) λb tk' hR=>hC b _ hR (iw h1 tk' rfl F1 N1)
   .refine gL hI λh1 tk z F1 N1=>?_
    try clear hI
    subst z;refine KasFin.intro F1 N1 (UpdF.head (λq hq=>aB (hD q hq))) λh3 c F3 N3=>?_;exact(db _ rfl (ai (db _ rfl (h _ p c h3 tk hp.1 (λ_=>hp.2) hD F3 N3))))
end
noncomputable def jF:List Int→List Int→Bool
 | [],[]=>false
 | [],_::_=>true
 | _::_,[]=>false
 | x::xs,y::ys=>if x=y then jF xs ys else decide (x<y)
theorem rm:∀{vs:List Value}{xs:List Int},au vs xs→∀i:Nat,(vs[i]?=none∧xs[i]?=none)∨∃(n:Int) (t:Tok),vs[i]?=some (eY n t)∧xs[i]?=some n
 | _,_,.nil,i=>.inl ⟨rfl,rfl⟩
 | _,_,.cons k t r,0=>.inr (vu k t rfl rfl)
 | _,_,.cons k t r,i+1=>by
  have:=rm r i;simpa using this
open AutoSeq1 (wpAny_loadPart') in
open MeetsSeq in
theorem Hx(l b:Addr)(vs us:List Value)(xs ys:List Int)(n n2:Nat)(hx:au vs xs)(hy:au us ys)(k:Nat):
  ∀i:Nat,xs.length-i=k→i≤xs.length→i≤ys.length→GD (Builtin.«list.__eq__.loop» ⟨[.ref l,.ref b,n4 i,n4 0],[]⟩)
   (λ_ R s=>s.heap.get? l=some {cls:=.type "list",dict:=none,data:=.seq vs.toArray n,slots:=#[]}∧s.heap.get? b=some {cls:=.type "list",dict:=none,data:=.seq us.toArray n2,slots:=#[]}∧
    R (.ok (.ret (.bool (jF (xs.drop i) (ys.drop i))))) s):=by
 have U:=hx.length;have ap:=hy.length
 induction k with
 | zero=>
  intro i hk h1 h2 prog w A R s h;obtain ⟨hp,g,d,tk,os⟩:=s;obtain ⟨hl,hb,h⟩:=h;have hi:i=xs.length:=Po hk h1;subst hi
  wp_walk using bq hl,bq hb
  have J:vs.toArray[((xs.length:Nat):Int).toNat]?=none:=by simp;exact Qm U h1
  rw[J];rw[ou] at h
  have hd:jF [] (ys.drop xs.length)=decide (vs.toArray.size<us.toArray.size):=by
   rw[aL,aL,U,ap]
   cases e:ys.drop xs.length with
   | nil=>
    have:(ys.drop xs.length).length=0:=by rw[e];rfl
    rw[dn] at this
    symm
    exact decide_eq_false (λhh=>uH hh (Q4 this))
   | cons a r=>
    have:(ys.drop xs.length).length=r.length+1:=by rw[e];rfl
    rw[dn] at this
    symm
    exact decide_eq_true (Ni this)
  rw[hd] at h
  wp_walk using bq hl,bq hb
  exact h
 | succ k ih=>
  intro i hk h1 h2 prog w A R s h;obtain ⟨hp,g,d,tk,os⟩:=s;obtain ⟨hl,hb,h⟩:=h
  wp_walk using bq hl,bq hb
  have G:i<xs.length:=Ni hk
  have hc:((i:Int)+1)=((i+1:Nat):Int):=by push_cast;rfl
  obtain ⟨_,aj⟩|⟨x,t,hv,ab⟩:=rm hx i
  .rw[am G] at aj;cases aj
  have J:vs.toArray[((i:Nat):Int).toNat]?=some (.int x t):=by simpa using hv
  have ah:xs.drop i=x::xs.drop (i+1):=by
   rw[gw G];rw[am G] at ab;rw[cS ab]
  rw[J]
  rcases rm hy i with ⟨hu,B⟩|⟨y,u,hu,B⟩
  .have H:us.toArray[((i:Nat):Int).toNat]?=none:=by simpa using hu
   rw[H];have aa:ys.length≤i:=iW.mp B;have O:ys.drop i=[]:=By aa;rw[ah,O] at h
   have hd:jF (x::xs.drop (i+1)) []=decide (vs.toArray.size<us.toArray.size):=by
    rw[aL,aL,U,ap]
    symm
    exact decide_eq_false (λhh=>Sh h1 hh aa)
   rw[hd] at h
   wp_walk using bq hl,bq hb
   exact h
  .have H:us.toArray[((i:Nat):Int).toNat]?=some (.int y u):=by simpa using hu
   have z:i<ys.length:=(bz.mp B).1
   have O:ys.drop i=y::ys.drop (i+1):=by
    rw[gw z];rw[am z] at B;rw[cS B]
   rw[H];rw[ah,O] at h;refine af (ib ?_)
   by_cases e:x=y
   .have Y:(x==y)=true:=by simp [e]
    rw[Y]
    have h':R (.ok (.ret (.bool (jF (xs.drop (i+1)) (ys.drop (i+1)))))) {heap:=hp,gens:=g,drawn:=d,toks:=tk,os:=os}:=by
     have:jF (x::xs.drop (i+1)) (y::ys.drop (i+1))=jF (xs.drop (i+1)) (ys.drop (i+1)):=by simp [jF,e]
     rw[this] at h;exact h
    wp_walk
    rw[hc]
    exact⟨gZ eh _,eu je (by
     rw[dm eh _]
     exact ih (i+1) (PR hk) (fy G) (fy z) prog w A R _ (eP hl hb h'))⟩
   .have Y:(x==y)=false:=by simp [e]
    rw[Y]
    have h':R (.ok (.ret (.bool (decide (x<y))))) {heap:=hp,gens:=g,drawn:=d,toks:=tk,os:=os}:=by
     have:jF (x::xs.drop (i+1)) (y::ys.drop (i+1))=decide (x<y):=by simp [jF,e]
     rw[this] at h;exact h
    wp_walk using bq hl,bq hb
    rw[J,H];refine af (wpAny_lt_int ?_:aA _ _ (fo .Lt (.int x t) (.int y u)) _ _ _);exact ai h'
open AutoSeq1 (wpAny_loadPart') in
open MeetsSeq in
theorem AU(l b:Addr)(vs us:List Value)(xs ys:List Int)(n n2:Nat)(u:au vs xs)(e:au us ys):GD (Builtin.«list.__lt__» ⟨[.ref l,.ref b],[]⟩)
   (λ_ R s=>s.heap.get? l=some {cls:=.type "list",dict:=none,data:=.seq vs.toArray n,slots:=#[]}∧s.heap.get? b=some {cls:=.type "list",dict:=none,data:=.seq us.toArray n2,slots:=#[]}∧
    R (.ok (.ret (.bool (jF xs ys)))) s):=by
 intro prog w A R s h;obtain ⟨hp,g,d,tk,os⟩:=s;obtain ⟨hl,hb,h⟩:=h;have z:=xw
 wp_walk using bq hl,bq hb
 exact⟨gZ eh _,eu je (by
  rw[dm eh _]
  exact Hx l b vs us xs ys n n2 u e _ 0 rfl (cr _) (cr _) prog w A R _ (eP hl hb h))⟩
section
variable {prog:Program}{w:World}{A:Around}{E:VP}{s:Shared}{l b:Addr}{vs us:List Value}{xs ys:List Int}{n n2:Nat}
theorem LH(hu:A.units<cX)(hl:s.heap.get? l=some (listOf vs.toArray n))(hb:s.heap.get? b=some (listOf us.toArray n2))(u:au vs xs)(e:au us ys)(h:Q (.bool (jF xs ys)) s):
  aA (aq prog w) A (fo .Lt (.ref l) (.ref b)) Q E s:=by
 refine(?_:aA (aq prog w) A (jh .Lt (.ref l) (.ref b)) Q E s);exact IN (db _ hl rfl) (db _ hb rfl) PySem.F.slot_list_lt PySem.F.entry_list_lt (PySem.F.args_list_lt_2 _ _) (AU l b vs us xs ys n n2 u e) (nA hl hb (λz=>nomatch z) h) hu
theorem Ka(hu:A.units<cX)(hl:s.heap.get? l=some (listOf vs.toArray n))(hb:s.heap.get? b=some (listOf us.toArray n2))(u:au vs xs)(e:au us ys)(h:Q (jF xs ys) s):
  aA (aq prog w) A (oneLt' true (.ref l) (.ref b)) Q E s:=by
 rw[oneLt'_eq];refine af (wpAny_cRoomFor hu ?_);refine af (ic (T:="list") (db _ hl rfl) PySem.F.slot_list_lt (call_meets PySem.F.slot_list_lt (db _ hl rfl) PySem.F.entry_list_lt (PySem.F.args_list_lt_2 _ _) (AU l b vs us xs ys n n2 u e) (eP hl hb ?_)));exact aY h
end
end
section
open W PyProof.Rows
noncomputable def AK(K:Frag):Bool:=match K.lookup n9 with
 | some ⟨_,_,.dict es _,_⟩=>(nsFind es gR).isNone
 | _=>false
theorem ug{K:Frag}{h:Heap}(X:K.In h)(hN:h.NoLimit)(hk:AK K=true):∃mc,h.Ns n9 mc∧mc gR=none:=by
 unfold AK at hk
 split at hk
 .rename_i es ep sl hl
  refine fN hN λmc hn _=>?_
  try clear hN
  refine(db mc hn ?_);refine Hp hn λo es' e ho hd _ hf=>?_
  try clear hn
  have:=X _ _ hl;rw[ho] at this;cases this;cases hd;rw[← hf];exact Option.isNone_iff_eq_none.mp hk
 .cases hk
section
variable {prog:Program}{w:World}{A:Around}{E:VP}{s:Shared}{mc:Lo}
theorem told(hn:s.heap.Ns n9 mc)(hm:mc gR=none)(h:Q false s):aA (aq prog w) A (sharingNotTold t) Q E s:=by
 unfold sharingNotTold;refine af (wpAny_nsGet hn ?_);rw[hm];exact ai h
theorem zo(hn:s.heap.Ns n9 mc)(hm:mc gR=none)(ht:t≠0)(hu:u≠0)(h:∀e,Q e s):aA (aq prog w) A (isSame (.float p t) (.float q u)) Q E s:=by
 refine(?_:aA (aq prog w) A (qp (p==q&&!Float64.isNaN p) t u) Q E s);unfold qp
 have h0:¬((t==0||u==0)=true):=by simp [ht,hu]
 rw[if_neg h0]
 by_cases e:(t==u)=true
 .rw[if_pos e];exact ai (h _)
 .rw[if_neg e]
  by_cases e2:(!(p==q&&!Float64.isNaN p))=true
  .rw[if_pos e2];exact ai (h _)
  .rw[if_neg e2]
   refine af (told hn hm ?_);refine af (told hn hm ?_);refine af (gy ?_);exact af (qN (ai (h _)))
theorem wn(hn:s.heap.Ns n9 mc)(hm:mc gR=none)(ht:t≠0)(hu:u≠0)(h:∀e,(a=b→cY a a=some dk→e=true)→Q e s):
  aA (aq prog w) A (yN (.float a t) (.float b u)) Q E s:=by
 unfold yN;refine(?_:aA _ _ (if (jx a t==jx b u)=true then _ else _) Q E s)
 by_cases z:(jx a t==jx b u)=true
 .rw[if_pos z]
  exact af (gy (ai (h true λ_ _=>rfl)))
 .rw[if_neg z]
  refine af (zo hn hm ht hu λe=>?_)
  cases e with
  | true=>exact ai (h true λ_ _=>rfl)
  | false=>
   refine af (yT ?_:aA _ _ (fo .Eq (.float a t) (.float b u)) _ _ _);exact aY (h _ λe1 e2=>by rw[← e1,e2];rfl)
theorem yn(hu:A.units+64<cX)(hl:s.heap.get? x=some (listOf vs.toArray n))(hb:s.heap.get? y=some (listOf us.toArray n2))(G:au vs xs)(B:au us ys)
  (h:∀e,(x=y→e=true)→(x≠y→e=decide (xs=ys))→Q e s):aA (aq prog w) A (yN (.ref x) (.ref y)) Q E s:=by
 unfold yN;refine bC ?_;refine(?_:aA _ _ (if (bG x==bG y)=true then _ else _) Q E s)
 by_cases u:x=y
 .subst u
  rw[if_pos (by simp)];exact af (gy (ai (h true (λ_=>rfl) λz=>absurd rfl z)))
 .rw[if_neg (by simpa using u)]
  refine af (eq_intsK (c9 _ hl rfl ⟨n,rfl⟩) G (c9 _ hb rfl ⟨n2,rfl⟩) B hu ?_:aA _ _ (fo .Eq (.ref x) (.ref y)) _ _ _);exact aY (h _ (λz=>absurd z u) λ_=>rfl)
theorem BP(h:∀e,Q e s):aA (aq prog w) A (oneLt' true (.float a t) (.float b u)) Q E s:=by
 rw[oneLt'_eq];refine af (rG rfl ?_);refine af (ic (sV s a t) PySem.F.slot_float_lt (call_meets PySem.F.slot_float_lt (sV s a t) PySem.F.entry_float_lt (PySem.F.args_float_lt_2 _ _) (AutoFloatG5.float___lt___float_float_0 a t b u).meets ?_));exact aY (h _)
noncomputable def Dl(f:UInt64)(t:Tok)(a:Addr):Obj:={cls:=.type "tuple",data:=.seq #[.float f t,.ref a]}
theorem JI(hu:A.units+64<cX)(hn:s.heap.Ns n9 mc)(hm:mc gR=none)(h1:k1≠0)(h2:k2≠0)
  (H:s.heap.get? x=some (Dl u k1 a1)) (G:s.heap.get? y=some (Dl B k2 a2)) (hl:s.heap.get? a1=some (listOf vs.toArray n)) (hb:s.heap.get? a2=some (listOf us.toArray n2)) (hi:au vs xs) (hj:au us ys)
  (h:∀b,(u=B→cY u u=some dk→(a1=a2→b=false)∧(a1≠a2→xs≠ys→b=jF xs ys))→Q b s):aA (aq prog w) A (IZ (tuples' true) (.ref x) (.ref y)) Q E s:=by
 refine kat_lt H rfl G rfl ?_;refine(?_:KatLex prog w A true _ Q [(jx u k1,jx B k2),(bG a1,bG a2)] 0 s);refine Mr (wn hn hm h1 h2 λe he=>?_)
 cases e with
 | false=>exact kat_no (BP λb=>h b λe1 e2=>absurd (he e1 e2) (by decide))
 | true=>
  refine kat_yes (Mr (yn hu hl hb hi hj λe h3 h4=>?_))
  cases e with
  | false=>
   have hne:a1≠a2:=λz=>absurd (h3 z) (by decide);refine kat_no (kat_one _ _ (LH (C3 hu) hl hb hi hj (h _ λ_ _=>⟨λz=>absurd z hne,λ_ _=>rfl⟩)))
  | true=>
   refine kat_yes (kat_nil (h _ λ_ _=>⟨λ_=>rfl,λz1 z2=>absurd (of_decide_eq_true (h4 z1).symm) z2⟩))
theorem G3{h:Heap}{outs:List (Addr×(Addr×List Int))}{scr:Addr×List Int→UInt64}(ho:∀o∈outs,∃tk,h.get? o.1=some (Dl (scr o.2) tk o.2.1)):∃fs,KatTups h (refsOf outs) fs∧(∀v∈fs,∃f t,v=jx f t)∧fs.length=outs.length:=by
 induction outs with
 | nil=>exact(c9 [] (.nil) (λ_ h=>nomatch h) rfl)
 | cons o r z=>
  refine fM (z λo u=>ho o (zT u)) λfs h1 h2 h3=>?_;refine cp (ho o (zH)) λtk e=>?_;exact(c9 (.float (scr o.2) tk::fs) (.cons e rfl rfl rfl h1) (zC ⟨(rp _ _ rfl),h2⟩) (by simp [h3]))
end
theorem qA:∀xs:List Int,jF xs xs=false
 | []=>rfl
 | x::xs=>by simp [jF,qA xs]
theorem sd:∀{xs ys:List Int},xs≠ys→jF xs ys=false→jF ys xs=true
 | [],[],h,_=>absurd rfl h
 | [],_::_,_,h=>by simp [jF] at h
 | _::_,[],_,_=>rfl
 | x::xs,y::ys,h,h2=>by
  unfold jF at h2 ⊢
  by_cases e:x=y
  .subst e
   simp only[if_true] at h2 ⊢;exact sd (λz=>h (by rw[z])) h2
  .rw[if_neg e] at h2
   rw[if_neg (Ne.symm e)];have:=of_decide_eq_false h2;exact decide_eq_true (by omega)
theorem pu:∀{xs ys u:List Int},jF xs ys=true→jF ys u=true→jF xs u=true
 | [],[],_,h,_=>by simp [jF] at h
 | [],_::_,[],_,h=>by simp [jF] at h
 | [],_::_,_::_,_,_=>rfl
 | _::_,[],_,h,_=>by simp [jF] at h
 | _::_,_::_,[],_,h=>by simp [jF] at h
 | x::xs,y::ys,z::u,h1,h2=>by
  unfold jF at h1 h2 ⊢
  by_cases e:x=y
  .subst e
   rw[if_pos rfl] at h1
   by_cases e2:x=z
   .subst e2
    rw[if_pos rfl] at h2 ⊢;exact pu h1 h2
   .rw[if_neg e2] at h2 ⊢
    exact h2
  .rw[if_neg e] at h1
   have G:=of_decide_eq_true h1
   by_cases e2:y=z
   .subst e2
    rw[if_neg e];exact h1
   .rw[if_neg e2] at h2
    have B:=of_decide_eq_true h2;rw[if_neg (by exact λhh=>(qz (ia [z,x,y] 2 Y0 (.k (-1)) 1 Z0 Z1 1 (.a Z2 Y1) Z0 1 (.a Z1 Y1) Z2 rfl (iu hh) B G)))];exact decide_eq_true (by exact j6 G B)
theorem mH(l:List (Addr×α)):(refsOf l).reverse=refsOf l.reverse:=by unfold refsOf;rw[vj]
noncomputable abbrev vC:=Addr×(Addr×List Int)
noncomputable def rl(outs:List vC)(i:Nat):List Int:=((outs[i]?).map (·.2.2)).getD []
theorem Nr(hp:P outs.length p)(h:tL (λi j=>jF (rl outs i) (rl outs j)) p outs.length)(d:vC):(p.toList.map λi=>outs.getD i d).Pairwise (λa b=>jF a.2.2 b.2.2=true):=by
 rw[cf];intro i j hi hj H
 have u:p.toList.length=outs.length:=by rw[hp.list.length_eq,de]
 simp only[aE] at hi hj
 have e:∀(k:Nat) (hk:k<(p.toList.map λi=>outs.getD i d).length),((p.toList.map λi=>outs.getD i d)[k]).2.2=rl outs (p.getD k 0):=by
  intro k hk;simp only[aE] at hk;have z:k<outs.length:=pV (Eq.symm u) hk
  have B:k<p.size:=by rw[hp.size];exact z
  have G:=hp.lt z
  have e1:p.toList[k]'hk=p.getD k 0:=by
   rw[qV];simp [Gp,B]
  rw[cI,e1];unfold rl;rw[ay,am G];rfl
 rw[e i (by simpa using hi),e j (by simpa using hj)];exact h i j H (pV (Eq.symm u) hj)
noncomputable def wt(scr:Addr×List Int→UInt64)(outs outs2:List vC):Prop:=
 outs2.Perm outs∧((∀o∈outs,∀o'∈outs,scr o.2=scr o'.2)→(∀o∈outs,cY (scr o.2) (scr o.2)=some dk)→(outs.map (·.2.1)).Nodup→(∀o∈outs,∀o'∈outs,o.2.1≠o'.2.1→o.2.2≠o'.2.2)→
  outs2.Pairwise (λa b=>jF b.2.2 a.2.2=true))
noncomputable def RA(scr:Addr×List Int→UInt64)(outs:List vC)(i j:Nat)(b:Bool):Prop:=
 i<outs.length∧j<outs.length∧∀o o',outs[i]?=some o→outs[j]?=some o'→(scr o.2=scr o'.2→cY (scr o.2) (scr o.2)=some dk→(o.2.1=o'.2.1→b=false)∧(o.2.1≠o'.2.1→o.2.2≠o'.2.2→b=jF o.2.2 o'.2.2))
theorem Lc(h1:∀o∈outs,∀o'∈outs,scr o.2=scr o'.2)(h2:∀o∈outs,cY (scr o.2) (scr o.2)=some dk)(h3:(outs.map (·.2.1)).Nodup)(h4:∀o∈outs,∀o'∈outs,o.2.1≠o'.2.1→o.2.2≠o'.2.2):
  Good (RA scr outs) (λi j=>jF (rl outs i) (rl outs j)) outs.length:=by
 have B:∀i j (hi:i<outs.length) (hj:j<outs.length),i≠j→outs[i].2.1≠outs[j].2.1:=by
  intro i j hi hj hne e;have:=cf.mp h3
  rcases sZ hne with z|z
  .exact this i j (by simpa using hi) (by simpa using hj) z (by simp [e])
  .exact this j i (by simpa using hj) (by simpa using hi) z (by simp [e])
 have u:∀i (hi:i<outs.length),rl outs i=outs[i].2.2:=λi hi=>by unfold rl;rw[am hi];rfl
 refine⟨⟨λi j hi hj hne hf=>?_,λi j k a b=>pu a b⟩,?_⟩
 .try dsimp only at hf ⊢
  rw[u i hi,u j hj] at hf;rw[u i hi,u j hj];exact sd (h4 _ (bH hi) _ (bH hj) (B i j hi hj hne)) hf
 .rintro i j b ⟨hi,hj,h⟩
  have:=h _ _ (am hi) (am hj) (h1 _ (bH hi) _ (bH hj)) (h2 _ (bH hi))
  try dsimp only
  rw[u i hi,u j hj]
  by_cases e:i=j
  .subst e
   rw[this.1 rfl,qA]
  .exact this.2 (B i j hi hj e) (h4 _ (bH hi) _ (bH hj) (B i j hi hj e))
theorem BH{its:List Value}{n:Nat}(h:its.length≤n):(slicePick its.toArray none (some (n:Int)) none).toList=its:=by
 have e:sliceBounds none (some (n:Int)) none its.toArray.size=(((0:Nat):Int),((its.length:Nat):Int),1):=by
  rw[aL];unfold sliceBounds;simp;lia
 rw[kmk_pick_nat its.toArray e];simp
section
variable {prog:Program}{A:Around}{E:VP}{s:Shared}{h₀:Heap}{L:Addr}{m:Lo}{news:Ns}
theorem Hl{t2:Tok}{t3:Tok}(z:s.heap.get? x=some (dU #[.int a t1,.int b t2]))(u:s.heap.get? y=some (dU #[.int c t3,.int d t4]))(h:Q (uj (a,b) (c,d)) s):aA (aq prog W0) A (IZ (tuples' true) (.ref x) (.ref y)) Q E s:=by
 refine kat_lt z rfl u rfl ?_;refine Mr (ib ?_)
 by_cases e:a=c
 .subst e
  rw[beq_self_eq_true];refine kat_yes (Mr (ib ?_))
  by_cases e2:b=d
  .subst e2
   rw[beq_self_eq_true];refine kat_yes (kat_nil ?_)
   have:uj (a,b) (a,b)=false:=by simp [uj]
   rw[this] at h;exact h
  .rw[beq_eq_false_iff_ne.mpr e2]
   refine kat_no (kat_one _ _ (lt_int ?_))
   have:uj (a,b) (a,d)=decide (b<d):=by simp [uj]
   rw[this] at h;exact h
 .rw[beq_eq_false_iff_ne.mpr e]
  refine kat_no (oneLt_int ?_)
  have:uj (a,b) (c,d)=decide (a<c):=by simp [uj,e]
  rw[this] at h;exact h
theorem DL(h1:uj p q=true)(h2:uj q r=true):uj p r=true:=by
 unfold uj at *;simp only[gB,dI,decide_eq_true_eq] at *
 rcases h1 with a|⟨a,b⟩<;>rcases h2 with c|⟨c,d⟩
 .exact .inl (j6 a c)
 .exact .inl (c▸a)
 .exact .inl (a▸c)
 .exact .inr ⟨a.trans c,j6 b d⟩
theorem Hk(hne:p≠q)(h:uj p q=false):uj q p=true:=by
 obtain ⟨a,b⟩:=p;obtain ⟨c,d⟩:=q;unfold uj at *;simp only[Bool.or_eq_false_iff,Bool.and_eq_false_iff,decide_eq_false_iff_not,gB,dI,decide_eq_true_eq] at *;have:¬(a=c∧b=d):=λe=>hne (by rw[e.1,e.2])
 rcases JE c a with g|g|g
 .exact .inl g
 .exact .inr ⟨g,(JE d b).resolve_right λz=>z.elim (λe=>this ⟨g.symm,e.symm⟩) λz=>h.2.elim (λw=>w g.symm) λw=>w z⟩
 .exact absurd g h.1
noncomputable def dP:Addr×(Int×Int):=(0,(0,0))
noncomputable def MI(ps:List (Addr×(Int×Int)))(i j:Nat):Bool:=uj (ps.getD i dP).2 (ps.getD j dP).2
theorem OE(hn:(ps.map (·.2)).Nodup):Good (λi j b=>b=MI ps i j) (MI ps) ps.length:=by
 refine⟨⟨λi j hi hj hne hf=>?_,λi j k a b=>DL a b⟩,λi j b h=>h⟩;refine Hk (λe=>?_) hf;rw[ay,ay,am hi,am hj] at e;have z:ps[i].2=ps[j].2:=e;have:=cf.mp hn
 rcases sZ hne with u|u
 .exact this i j (by simpa using hi) (by simpa using hj) u (by simpa using z)
 .exact this j i (by simpa using hj) (by simpa using hi) u (by simpa using z.symm)
theorem RO(hp:P ps.length p)(h:tL (MI ps) p ps.length):(p.toList.map λi=>ps.getD i dP).Pairwise (λa b=>uj a.2 b.2=true):=by
 rw[cf];intro i j hi hj B
 have z:p.toList.length=ps.length:=by rw[hp.list.length_eq,de]
 simp only[aE] at hi hj
 have e:∀(k:Nat) (hk:k<p.toList.length),p.toList[k]'hk=p.getD k 0:=by
  intro k hk
  have u:k<p.size:=by simpa using hk
  rw[qV];simp [Gp,u]
 rw[cI,cI,e i hi,e j hj];exact h i j B (pV (Eq.symm z) hj)
theorem zt{h:Heap}{ps:List (Addr×(Int×Int))}(ho:∀o∈ps,∃t u,h.get? o.1=some (dU #[.int o.2.1 t,.int o.2.2 u])):∃fs,KatTups h (refsOf ps) fs∧(∀v∈fs,∃i t,v=eY i t)∧fs.length=ps.length:=by
 induction ps with
 | nil=>exact(c9 [] (.nil) (λ_ h=>nomatch h) rfl)
 | cons o r B=>
  refine fM (B λo z=>ho o (zT z)) λfs h1 h2 h3=>?_;refine uq (ho o (zH)) λt u e=>?_;exact(c9 (.int o.2.1 t::fs) (.cons e rfl rfl rfl h1) (zC ⟨(rp _ _ rfl),h2⟩) (by simp [h3]))
theorem wG{l:Addr}{ps:List (Addr×(Int×Int))}{Q:VP}(F:Fr h₀ L s.heap m)(N:ba h₀ L s.heap news)(hl:s.heap.IsList l (refsOf ps).toArray)(h2:2≤ps.length)(Y:ps.length<64)
  (ho:∀o∈ps,∃t u,(o.1,dU #[.int o.2.1 t,.int o.2.2 u])∈news) (hn:(ps.map (·.2)).Nodup)
  (h:∀D ps' c h' tk,ps'.Perm ps→ps'.Pairwise (λa b=>uj a.2 b.2=true)→(∀q∈news,q.1<D)→Fr h₀ L h' m→ba h₀ L h' ((D,listOf (refsOf ps').toArray c)::news)→Q (.ref D) {s with heap:=h',toks:=tk}):
  aA (aq prog W0) A (call (.builtin "sorted") [.ref l]) Q E s:=by
 have hz:(refsOf ps).length=ps.length:=by simp [refsOf]
 refine kat_sorted F N hl (C4 hz h2) (Hy hz Y) λD e1 h' F' N' hD=>?_;refine fM (zt (h:=h') (ps:=ps) (λo U=>let ⟨t,u,hm⟩:=ho o U;⟨t,u,(N' _ (zT hm)).1⟩)) λfs t1 t2 t3=>?_;refine kat_kind (T:=.type "int") (fs:=fs) t1 (C3 (Hy (mu 0 1) (pV t3 (bD h2)))) (λv hv=>?_) (by decide) ?_
 .refine uq (t2 v hv) λi t G=>?_
  subst G;exact .now
 .rw[hz]
  refine tl (n:=ps.length) (R:=λi j b=>b=MI ps i j) (I:=λs'=>∃H tk,s' = {s with heap:=H,toks:=tk}∧Fr h₀ L H m∧ba h₀ L H ((D,cG "list" #[] e1)::news)) (λi j hi hj C s1 J hC=>?_) (λp s1 hp J=>?_) (uD (lt:=MI ps) h2) (iw h' s.toks rfl F' N')
  .refine gL J λh1 tk B F1 O=>?_
   try clear J
   subst B;refine(?_:aA (aq prog W0) _ (IZ (tuples' true) ((refsOf ps).getD i Value.none) ((refsOf ps).getD j Value.none)) C (λ_ _=>False) _);rw[g8 ps hi,g8 ps hj];refine uq (ho _ (bH hi)) λu1 u2 e=>?_;refine uq (ho _ (bH hj)) λu3 u4 e'=>?_;refine Hl (O _ (zT e)).1 (O _ (zT e')).1 (hC _ _ ?_ (iw h1 tk rfl F1 O));unfold MI;rw[ay,ay,am hi,am hj];rfl
  .refine gL J λh1 tk z F1 O=>?_
   try clear J
   subst z;rw[pj ps dP hp.1];exact KasFin.intro F1 O (UpdF.head (λq hq=>aB (hD q hq))) λh3 c F3 N3=>h D _ c h3 tk (po ps _ hp.1) (RO hp.1 (hp.2 (OE hn))) hD F3 N3
end
end
section
theorem zW{α:Type}{r:α→α→Prop}(u:∀x y,r x y→¬r y x):∀{a b:List α},a.Pairwise r→b.Pairwise r→(∀x,x∈a↔x∈b)→a=b
 | [],[],_,_,_=>rfl
 | [],y::q,_,_,h=>nomatch (h y).mpr (zH)
 | x::s,[],_,_,h=>nomatch (h x).mp (zH)
 | x::s,y::q,ha,hb,h=>by
  refine b8 (dZ.mp ha) λa1 a2=>?_;refine b8 (dZ.mp hb) λb1 b2=>?_
  have e:x=y:=by
   rcases ak.mp ((h x).mp (zH)) with h1|h1
   .exact h1
   .rcases ak.mp ((h y).mpr (zH)) with h2|h2
    .exact h2.symm
    .exact absurd (a1 y h2) (u _ _ (b1 x h1))
  subst e;rw[zW u a2 b2 λz=>⟨λhz=>?_,λhz=>?_⟩]
  .rcases ak.mp ((h z).mp (zT hz)) with h1|h1
   .rw[h1] at hz;exact absurd (a1 x hz) (λk=>u _ _ k k)
   .exact h1
  .rcases ak.mp ((h z).mpr (zT hz)) with h1|h1
   .rw[h1] at hz;exact absurd (b1 x hz) (λk=>u _ _ k k)
   .exact h1
theorem J5(p q:Int×Int)(h:uj p q=true):¬uj q p=true:=by
 unfold uj at *;simp only[gB,dI,decide_eq_true_eq] at *;lia
theorem A3:∀{l:List (Int×Int)},zP l=true→l.Pairwise (λp q=>uj p q=true)
 | [],_=>.nil
 | [x],_=>gU ..
 | p::q::r,h=>by
  unfold zP at h;rw[dI] at h;have e:=A3 h.2;refine .cons (λz hz=>?_) e
  rcases ak.mp hz with rfl|hz
  .exact h.1
  .exact DL h.1 ((dZ.mp e).1 z hz)
theorem nw(xs:List Int)(i:Nat)(x:Int):(uF xs i x).Perm (x::xs):=by
 unfold uF;refine List.perm_middle.trans (List.Perm.cons _ ?_);rw[CR]
theorem vR(vs:List Int):(eD vs 4).Perm [3,2,1,0]:=
 (nw _ _ _).trans (.cons _ ((nw _ _ _).trans (.cons _ ((nw _ _ _).trans (.cons _ (nw _ _ _))))))
theorem row_end{vs:List Int}{P:List (Int×Int)}(hi:zP ((eD vs 4).map λt=>(nv vs t,-t))=true)(hp:P.Perm (xM vs))(hs:P.Pairwise (λp q=>uj p q=true)):P.map (λp=>-p.2)=eD vs 4:=by
 have e:P=(eD vs 4).map λt=>(nv vs t,-t):=by
  refine zW J5 hs (A3 hi) λx=>?_;rw[hp.mem_iff];have h2:((eD vs 4).map λt=>(nv vs t,-t)).Perm ([3,2,1,0].map λt=>(nv vs t,-t)):=(vR vs).map _;rw[h2.mem_iff];unfold xM;simp only[kL,List.map_nil,ak,bT,or_false];constructor<;>(rintro (h|h|h|h)<;>simp [h])
 rw[e,iU]
 have:((λp:Int×Int=>-p.2) ∘ λt=>(nv vs t,-t))=id:=by funext t;simp
 rw[this,List.map_id]
theorem xO(vs:List Int):(xM vs).Nodup:=by
 unfold xM;simp [wy]
theorem zp(vs:List Int):(eD vs 4).Nodup:=(vR vs).nodup_iff.mpr (by decide)
theorem wB(vs:List Int):(dJ vs).Nodup:=(zp vs).sublist (List.drop_sublist ..)
end
section
open W PyProof Rows
theorem kw_LW14_0:True:=by
 k_with_none
 k_with "zeval ListComp"=>(k_here;refine sj ?_)
 trivial
theorem km_LW14:True:=by
 k_with "zmt"=>first|with_reducible assumption|with_reducible exact zH|(with_reducible refine zR ?_;k_extra "zmt")|(with_reducible refine zL ?_;k_extra "zmt")|(with_reducible refine zT ?_;k_extra "zmt")
 k_with "zmm"=>first|with_reducible assumption|exact a8 0 rfl|exact a8 1 rfl|exact a8 2 rfl|exact a8 3 rfl|exact a8 4 rfl|exact a8 5 rfl|exact a8 6 rfl|exact a8 7 rfl|exact a8 8 rfl|exact a8 9 rfl|(refine bk 1 ?_;assumption)|(refine bk 2 ?_;assumption)|(refine bk 3 ?_;assumption)|(refine bk 4 ?_;assumption)|(refine bk 5 ?_;assumption)|(refine bk 6 ?_;assumption)|(refine bk 7 ?_;assumption)|(refine bk 8 ?_;assumption)|(refine bk 9 ?_;assumption)|k_extra "zmt"
 k_with "zsu"=>first|exact FN|(refine FC ?_ ?_;(focus k_extra "zmm");k_extra "zsu")|(refine FA ?_ ?_;(focus k_extra "zsu");k_extra "zsu")|(intro p9 hp9;k_extra "zmm")
 trivial
open PyProof.Rows.LCg
section
variable {cs:Scope}{c:Fm W0 cs}{sc:Scope}{k:Cx c sc}{m:Lo}{n:Ns}{R:Re}
theorem Ie(h1:Ev k m n e1 (.int a))(h2:Ev k m n e2 (.int b))
  (J:autoParam (∀r,SE k.env e1 r) zAb) (H:autoParam (∀r,SE k.env e2 r) zAb):
  Er k m n (.Tuple [e1,e2] kk pos) (λv n'=>∃D t1 t2,v=.ref D∧n'=(D,dU #[.int a t1,.int b t2])::n∧(∀p∈n,@aR Nat _ p.1 D)∧(∀x∈k.exA,@aR Nat _ x D)):=
 ⟨λQ s hi hq=>vM (uO h1 h2 J H hi λv1 v2 s1 G d2 i1=>by
  refine cp G λt1 z=>?_
  try clear G
  subst z;refine cp d2 λt2 u=>?_
  try clear d2
  subst u;refine hZ (k.opn i1) λm0 ex O F N cl=>?_;refine iF F N (λD h' Y U hl=>hq _ _ _ (HP D t1 t2 rfl rfl (λp hp=>hl p (zR hp)) (λx B=>?_)) (cl h' s1.toks _ Y (cm U λp hp=>?_))) (by decide:(2:Nat)≤ec)
  .rw[← O] at B
   refine fN (eA.mp B) λp hp e=>?_;subst e;exact hl p (zL hp)
  .revert p;k_extra "zsu")⟩
end
noncomputable def MF(vs:List Int)(i:Nat):List (Int×Int):=(aV i).map λt:Nat=>(nv vs (t:Int),-(t:Int))
structure Sq(N:Ns)(vs:List Int)(i:Nat)(out:List Value)(n3:Ns)(ps:List (Addr×(Int×Int)))(Wn:Ns):Prop where
 o:out=refsOf ps
 v:ps.map (·.2)=MF vs i
 t:∀o∈ps,∃t u,(o.1,dU #[.int o.2.1 t,.int o.2.2 u])∈Wn
 n:n3=Wn++N
theorem DP(he:e=ch (ch (ch (sE (bp 20)) 1) 0) 0)(hc:LawC c)(d5:o5.data=.cell (some (.ref vt)))(m5:(c.L+1+1+1+1+1,o5)∈N)(ap:(vt,bB vv)∈N)(hv:au vv vs)(hl:vs.length=4):
  Er c.cx m N e (λv n'=>∃D ps Wn,v=.ref D∧(∀p∈(D,bB (refsOf ps))::(Wn++N),p∈n')∧ps.map (·.2)=MF vs 4∧(∀o∈ps,∃t u,(o.1,dU #[.int o.2.1 t,.int o.2.2 u])∈Wn)):=by
 subst he;refine nB (cl:=[(ae "votes",c.L+1+1+1+1+1)]) rfl (jd (a:=0) (b:=4) ?hr) ?h (kx hc rfl)
 case hr=>exact ry cR bf
 case h=>
  intro v N1 s1 O i1;refine b8 O λe J=>?_;clear O;refine BQ J λr t u z ab hr=>?_
  try clear J
  subst ab;have e':=e.symm;subst e';refine⟨4,_,_,λi out n3=>∃ps Wn,Sq N vs i out n3 ps Wn,jD hr (by decide),⟨[],[],rfl,rfl,(λ_ h=>nomatch h),rfl⟩,λi out n3 h=>?_,?_,λout n3 D hJ l1 l2=>?_,by decide⟩
  .obtain ⟨ps,Wn,h⟩:=h
   refine⟨(λ_ h=>nomatch h),?_⟩;have:=congrArg eK h.v;rw[aE] at this;unfold MF at this;rw[aE,de] at this;rw[h.o,refsOf,aE,this];exact aS _
  .intro i v out n3 C I D oI E' mC aj H G hx ah ax aD as aM hex
   refine cp H λt aa=>?_;clear H;subst aa;refine uq G λps Wn hJ=>?_;clear G
   have h5:(c.L+1+1+1+1+1,o5)∈(I,oI)::(D,bB out)::n3:=by rw[hJ.n];simp [m5]
   have ht:(vt,listOf vv.toArray vv.length)∈(I,oI)::(D,bB out)::n3:=zT (zT (by rw[hJ.n];exact zR ap));refine(c9 true (λQ s hi hq=>pg (hq s hi)) (λ_=>?_) (λh=>nomatch h));refine fB (Ie (ft (eN (a:=c.L+1+1+1+1+1) (o:=o5) rfl h5 d5) (ag hx) ht hv (ce i) (K8 (pV hl aj)) (cW [i] 1 (.a Z0 Y1) (.k (2 ^ 63)) 1 (.a Z0 Y1) (.k 4) rfl (ef aj))) (E7 (ag hx))) ?_;intro v n' B;refine Hp B λW t1 t2 Y U hW hX=>?_;clear B;subst Y;subst U;have ar:@aR Nat _ C W:=hX C (zR (az.mpr rfl));refine⟨(W,dU #[.int (vs.getD (MD i) 0) t1,.int (-(i:Int)) t2])::n3,λp hp=>?_,λp hp=>?_,ps++[(W,(nv vs (i:Int),-(i:Int)))],(W,dU #[.int (vs.getD (MD i) 0) t1,.int (-(i:Int)) t2])::Wn,?_,?_,λo ho=>?_,?_⟩
   .revert p;k_extra "zsu"
   .rcases ak.mp hp with rfl|hp
    .exact(eP (jA ar) (jA (hW (I,oI) (by k_extra "zmm"))) (jA (hW (D,bB out) (by k_extra "zmm"))))
    .exact ah p hp
   .rw[hJ.o,refsOf,refsOf,aX]
    rfl
   .rw[aX,hJ.v,MF,MF,gA,aX]
    rfl
   .rcases aC.mp ho with ho|ho
    .refine uq (hJ.t o ho) λt u h=>?_
     exact(rp t u (zT h))
    .rw[az.mp ho]
     exact(rp t1 t2 (zH))
   .rw[hJ.n];rfl
  .obtain ⟨ps,Wn,hJ⟩:=hJ
   refine⟨D,ps,Wn,rfl,λp hp=>?_,hJ.v,hJ.t⟩;rw[← hJ.n,← hJ.o] at hp;exact hp
theorem vT(vs:List Int):MF vs 4=xM vs:=rfl
theorem Eo{prog:Program}{A:Around}{h₀:Heap}{L:Addr}{m:Lo}{env:Env}{x z:Str}{px pos:Pos}{scope:Scope}{cl:List (Str×Addr)}{s:Shared}{ax:Addr}{its:Array Value}{Fin:List Value→Ns→Prop}{news:Ns}{ps:List (Addr×(Int×Int))}
  (H:its=(refsOf ps).toArray) (ho:∀o∈ps,∃t u,(o.1,dU #[.int o.2.1 t,.int o.2.2 u])∈news) (S:MW h₀ ax its news) (Y:∀C,(fq scope cl C env).scope.kind=.function) (aa:∀C,(fq scope cl C env).kindOf z=some .local)
  (hd:(z==("__debug__" : Sr))=false) (hF:∀ys,au ys (ps.map λo=>-o.2.2)→Fin ys news):
  ∀(k i:Nat) (ys:List Value),i+k=ps.length→au ys ((ps.take i).map λo=>-o.2.2)→LCp.CompRestP prog W0 A h₀ L m env (.UnaryOp .USub (.Name z px) pos) x z scope cl s (MW h₀ ax its) (λi v=>its[i]?=some v) Fin k i ys news:=by
 intro k
 induction k with
 | zero=>
  intro i ys hi J;have e:i=ps.length:=vm (cW [i,ps.length] 1 Z0 Z1 1 (.a Z0 Y0) Z1 rfl (vX hi)) (cW [ps.length,i] 1 Z0 Z1 1 Z0 (.a Z1 Y0) rfl (l9 hi));subst e;rw[cT] at J;exact hF ys J
 | succ k ih=>
  intro i ys hi J;refine xn λv hv=>?_
  have U:(refsOf ps)[i]?=some v:=by rw[H] at hv;simpa using hv
  refine fN (mJ U) λo G B=>?_;subst B;refine uq (ho o (cq G)) λt u hm=>?_;refine(EP o.1 _ _ _ _ rfl hm rfl rfl (λI oI C oC D m₂ h tk E' hC hx O F N off ne=>?_));refine wpAny_UnaryOp (LCgL.ld_own N (zT (zH)) hC O ?_ (Y C) (aa C) hd);refine neg_int ?_;refine CompEnd.intro F N news (λp hp=>hp) off S (ih (i+1) _ (O6 hi) ?_);rw[fu,G,Option.toList_some,aX];exact J.append (.cons _ _ .nil)
theorem KH{c:Fm W0 lawS}{m:Lo}{n0:Ns}(hc:LawC c){o1 o2 o3 o4 o5:Obj}{ps qs:Array Value}{vt ra:Addr}{vv va:List Value}{ea:Nat}{vs:List Int}
  (d5:o5.data=.cell (some (.ref vt))) (hvt:(vt,bB vv)∈n0) (hv:au vv vs) (hl:vs.length=4) (hra:(ra,listOf va.toArray ea)∈n0) (hia:au va (eD vs 4)) (hm:m (ae "row")=some (.ref ra)) (hinc:zP ((eD vs 4).map λt=>(nv vs t,-t))=true):
  cN c m (bN c.L o1 o2 o3 o4 o5 ps qs++n0) (bp 20::[]) (λf m' n'=>f=.ret (.bool true)∧∀p∈bN c.L o1 o2 o3 o4 o5 ps qs++n0,p∈n'):=by
 refine(?_:cN c m _ (.Return (some (.Compare (.Name _ _) [.Eq] [.ListComp (.UnaryOp .USub (.Name _ _) _) [⟨.Tuple [.Name _ _,.Name _ _] _ _,.Call (.Name _ _) [_] [] _,[],0⟩] _ _] _)) _::[]) _);have hkk:=mT (m:=m) (ks:=[(ae "row",.ref ra)]) ⟨hm,trivial⟩;refine⟨λQ s hi hq=>?_⟩;rw[← hkk] at hi;obtain ⟨h1,tk1,rfl,F1,N1⟩:=hi;have BB:=c.B;have XX:=c.X;have TT:=c.T;dsimp only [Fm.cx,Fm.A,Fm.env]
 k_steps
 refine iH ?_;refine LCp.ListComp_P (cl:=[]) F1 (by rfl) (by decide) (by rfl) (by decide) (by rfl) (by rfl) (by decide) ?_;refine' Er.run (k:=c.cx) (P:=λv n'=>∃(D:Addr) (ps':List (Addr×(Int×Int))) (ez:Nat) (Wn:Ns),v=.ref D∧(∀p∈(D,listOf (refsOf ps').toArray ez)::(Wn++(bN c.L o1 o2 o3 o4 o5 ps qs++n0)),p∈n')∧(∀o∈ps',∃t u,(o.1,dU #[.int o.2.1 t,.int o.2.2 u])∈Wn)∧ps'.length=4∧ps'.map (λo=>-o.2.2)=eD vs 4) (oU (uz _ _ _) (DP (m:=zN [(ae "row",.ref ra)] m) (N:=bN c.L o1 o2 o3 o4 o5 ps qs++n0) rfl hc d5 (zL (by k_extra "zmm")) (zR hvt) hv hl) ?hcall) _ _ ⟨_,_,rfl,F1,N1⟩ ?kk
 case hcall=>
  intro v n' zo305 Q s hi hq;refine Hp zo305 λD pp Wn zo306 hsub hpp htt=>?_;clear zo305;subst zo306
  have hp4:pp.length=4:=by
   have:=congrArg eK hpp;rw[aE] at this;exact this
  refine wG hi.at.1 hi.at.2 ⟨_,(hi.at.2 _ (hsub _ (zH))).1,rfl,_,rfl⟩ (C4 hp4 (gC 2 2)) (RR hp4 (bR true)) (λo ho=>let ⟨t,u,h⟩:=htt o ho;⟨t,u,hsub _ (zT (zL h))⟩) (by rw[hpp,vT];exact xO vs) λD2 ps' ez h' tk' hperm hpw hD F' N'=>?_;refine hq _ ((D2,listOf (refsOf ps').toArray ez)::n') _ (zQ D2 ps' ez Wn rfl (λp hp=>?_) (λo ho=>htt o (hperm.mem_iff.mp ho)) (by rw[hperm.length_eq,hp4]) ?_) (hi.to F' N')
  .rcases ak.mp hp with h|h
   .rw[h];exact zH
   .exact zT (hsub p (zT h))
  .have e:=row_end (vs:=vs) (P:=ps'.map (·.2)) hinc (by rw[← vT,← hpp];exact hperm.map _) (jQ.mpr hpw)
   rw[iU] at e;exact e
 intro v n' s' zo307 i2;refine zA zo307 λD ps' ez Wn zo308 hsub htt hp4 hrow=>?_;clear zo307;subst zo308;obtain ⟨h2,tk2,rfl,F2,N2⟩:=i2;have hmD:=hsub (D,listOf (refsOf ps').toArray ez) (zH);refine' CL (its:=(refsOf ps').toArray) (k:=ez) rfl F2 N2 hmD (by rw[aL,refsOf,aE,hp4];decide) ?_;intro g7;refine' Eo rfl (λo ho=>let ⟨t,u,h⟩:=htt o ho;⟨t,u,hsub _ (zT (zL h))⟩) (Or.inr ⟨listOf (refsOf ps').toArray ez,hmD,rfl,_,rfl⟩) (by intro _;rfl) (by intro _;rfl) (by decide) ?_ _ 0 [] (by simp [refsOf]) .nil;intro ys hys OUT h7 tk7 F7 N7 off7;rw[hrow] at hys;have hmr:(ra,listOf va.toArray ea)∈n':=hsub _ (zT (zR (zR hra)));rw[hkk] at F7
 have hlib:c.Is m ((OUT,bB ys)::n') {c.s with heap:=h7,toks:=tk7}:=⟨_,_,rfl,F7,N7⟩
 refine eq_intsK (vs:=va) (us:=ys) (ns:=eD vs 4) (ms:=eD vs 4) (c9 _ ((N7 _ (zT hmr)).1) rfl ⟨ea,rfl⟩) hia (c9 _ ((N7 _ (zH)).1) rfl ⟨_,rfl⟩) hys (by have:=hc.hu;refine(?_:c.un+64<cX);exact zE this (bR true)) ?_;rw[decide_eq_true rfl];exact hq (.ret (.bool true)) m ((OUT,bB ys)::n') _ ⟨rfl,λp hp=>zT (hsub p (zT (zR hp)))⟩ hlib.lib
end
section
noncomputable def nH(t n:Nat):UInt64:=jk (fY 4611686018427387904 (bF (t:Int))) (bF (n:Int))
noncomputable def J3(t n:Nat):UInt64:=lH false (2*t) n
noncomputable def sv(x:UInt64):Nat:=match vH x with
 | .fin false m e=>m*2 ^ (e+1074).toNat
 | _=>0
noncomputable def K3(x:UInt64):Bool:=match vH x with
 | .fin false _ e=>decide (-1074≤e)
 | _=>false
theorem tu(h:K3 x=true):∃m e,vH x=.fin false m e∧-1074≤e:=by
 unfold K3 at h
 split at h
 .rename_i m e hd
  exact⟨m,e,hd,of_decide_eq_true h⟩
 .cases h
theorem Nf(h1:c≤e)(h0 : -1074≤c):(e+1074).toNat=(e-c).toNat+(c+1074).toNat:=by
 rw[← Int.toNat_add (dX h1) (by exact cW [c] 1 Y0 (.a Z0 (.k 1074)) 1 (.k (-1074)) Z0 rfl h0),← kU,nh]
theorem LG(z:K3 x=true)(u:K3 y=true):cY x y=some (compare (sv x) (sv y)):=by
 obtain ⟨m,e,ex,z⟩:=tu z;obtain ⟨k,f,B,u⟩:=tu u;unfold sv cY;rw[ex,B];simp only[Float64.align,MT,hU,if_false]
 congr 1
 have h1:=Nf (Int.min_le_left e f) (Int.le_min.mpr ⟨z,u⟩);have h2:=Nf (Int.min_le_right e f) (Int.le_min.mpr ⟨z,u⟩);rw[h1,h2,Nat.pow_add,Nat.pow_add,← eM,← eM];generalize m*2 ^ (e-min e f).toNat=a;generalize k*2 ^ (f-min e f).toNat=b;have hp:0<2 ^ (min e f+1074).toNat:=Nat.pow_pos (by decide);generalize 2 ^ (min e f+1074).toNat=p at hp
 rcases j4 a b with h|h|h
 .have:=fi h hp
  rw[Int.compare_eq_lt.mpr (by omega),gI.mpr this]
 .subst h
  rw[Int.compare_eq_eq.mpr rfl,eF.mpr rfl]
 .have:=fi h hp
  rw[JF.mpr (by omega),nN.mpr this]
noncomputable def xP:List (Nat×Nat):=[(0,1),(0,2),(0,3),(0,4),(0,5),(0,6),(0,7),(0,8),(0,9),(0,10),(0,11),(0,12),(0,13),(0,14),(0,15),(0,16),(0,17),(0,18),(0,19),(0,20),(0,21),(0,22),(0,23),(0,24),(0,25),(0,26),(0,27),(0,28),(0,29),(0,30),(0,31),(0,32),(0,33),(0,34),(0,35),(0,36),(0,37),(0,38),(0,39),(0,40),(1,40),(1,39),(1,38),(1,37),(1,36),(1,35),(1,34),(1,33),(1,32),(1,31),(1,30),(1,29),(1,28),(1,27),(1,26),(1,25),(1,24),(1,23),(1,22),(1,21),(1,20),(2,40),(2,39),(1,19),(2,38),(2,37),(1,18),(2,36),(2,35),(1,17),(2,34),(2,33),(1,16),(2,32),(2,31),(1,15),(2,30),(2,29),(1,14),(2,28),(2,27),(3,40),(1,13),(2,26),(3,39),(3,38),(2,25),(3,37),(1,12),(2,24),(3,36),(3,35),(2,23),(3,34),(1,11),(2,22),(3,33),(3,32),(2,21),(3,31),(1,10),(2,20),(3,30),(4,40),(4,39),(3,29),(2,19),(4,38),(3,28),(4,37),(1,9),(2,18),(3,27),(4,36),(4,35),(3,26),(2,17),(4,34),(3,25),(4,33),(1,8),(2,16),(3,24),(4,32),(5,40),(5,39),(4,31),(3,23),(5,38),(2,15),(4,30),(5,37),(3,22),(4,29),(5,36),(1,7),(2,14),(3,21),(4,28),(5,35),(5,34),(4,27),(3,20),(6,40),(5,33),(2,13),(4,26),(6,39),(5,32),(3,19),(6,38),(4,25),(5,31),(6,37),(1,6),(2,12),(3,18),(4,24),(5,30),(6,36),(6,35),(5,29),(4,23),(7,40),(3,17),(6,34),(5,28),(7,39),(2,11),(4,22),(6,33),(7,38),(5,27),(3,16),(6,32),(7,37),(4,21),(5,26),(6,31),(7,36),(1,5),(2,10),(3,15),(4,20),(5,25),(6,30),(7,35),(8,40),(8,39),(7,34),(6,29),(5,24),(4,19),(8,38),(7,33),(3,14),(6,28),(8,37),(5,23),(7,32),(2,9),(4,18),(6,27),(8,36),(9,40),(7,31),(5,22),(8,35),(3,13),(6,26),(9,39),(7,30),(4,17),(8,34),(9,38),(5,21),(6,25),(7,29),(8,33),(9,37),(1,4),(2,8),(3,12),(4,16),(5,20),(6,24),(7,28),(8,32),(9,36),(10,40),(10,39),(9,35),(8,31),(7,27),(6,23),(5,19),(10,38),(9,34),(4,15),(8,30),(7,26),(10,37),(3,11),(6,22),(9,33),(11,40),(8,29),(5,18),(10,36),(7,25),(9,32),(11,39),(2,7),(4,14),(6,21),(8,28),(10,35),(11,38),(9,31),(7,24),(5,17),(10,34),(8,27),(11,37),(3,10),(6,20),(9,30),(12,40),(10,33),(7,23),(11,36),(4,13),(8,26),(12,39),(9,29),(5,16),(10,32),(11,35),(6,19),(12,38),(7,22),(8,25),(9,28),(10,31),(11,34),(12,37),(13,40),(1,3),(2,6),(3,9),(4,12),(5,15),(6,18),(7,21),(8,24),(9,27),(10,30),(11,33),(12,36),(13,39),(13,38),(12,35),(11,32),(10,29),(9,26),(8,23),(7,20),(14,40),(13,37),(6,17),(12,34),(11,31),(5,14),(10,28),(14,39),(9,25),(13,36),(4,11),(8,22),(12,33),(11,30),(7,19),(14,38),(10,27),(13,35),(3,8),(6,16),(9,24),(12,32),(15,40),(14,37),(11,29),(8,21),(13,34),(5,13),(10,26),(15,39),(12,31),(7,18),(14,36),(9,23),(11,28),(13,33),(15,38),(2,5),(4,10),(6,15),(8,20),(10,25),(12,30),(14,35),(16,40),(15,37),(13,32),(11,27),(9,22),(16,39),(7,17),(14,34),(12,29),(5,12),(10,24),(15,36),(13,31),(8,19),(16,38),(11,26),(14,33),(17,40),(3,7),(6,14),(9,21),(12,28),(15,35),(16,37),(13,30),(10,23),(17,39),(7,16),(14,32),(11,25),(15,34),(4,9),(8,18),(12,27),(16,36),(17,38),(13,29),(9,20),(18,40),(14,31),(5,11),(10,22),(15,33),(16,35),(11,24),(17,37),(6,13),(12,26),(18,39),(13,28),(7,15),(14,30),(15,32),(8,17),(16,34),(17,36),(9,19),(18,38),(19,40),(10,21),(11,23),(12,25),(13,27),(14,29),(15,31),(16,33),(17,35),(18,37),(19,39),(1,2),(2,4),(3,6),(4,8),(5,10),(6,12),(7,14),(8,16),(9,18),(10,20),(11,22),(12,24),(13,26),(14,28),(15,30),(16,32),(17,34),(18,36),(19,38),(20,40)]
noncomputable def RL(p q:Nat×Nat):Prop:=(p.1*q.2<q.1*p.2∧sv (nH p.1 p.2)<sv (nH q.1 q.2))∨(p.1*q.2=q.1*p.2∧nH p.1 p.2=nH q.1 q.2)
noncomputable def PW(p q:Nat×Nat):Bool:=(pZ (p.1*q.2) (q.1*p.2)&&pZ (sv (nH p.1 p.2)) (sv (nH q.1 q.2)))||(im (p.1*q.2) (q.1*p.2)&&im (nH p.1 p.2).toNat (nH q.1 q.2).toNat)
noncomputable def Pp(p:Nat×Nat):Bool:=pZ 0 p.2&&K3 (nH p.1 p.2)&&im (nH p.1 p.2).toNat (J3 p.1 p.2).toNat
noncomputable def Bh:Nat×Nat→List (Nat×Nat)→Bool
 | _,[]=>true
 | p,q::r=>PW p q&&Pp q&&Bh q r
theorem yz:Bh (0,1) xP=true:=by decide +kernel
theorem L1:((aV 41).all λn=>(aV 21).all λt=>!(pZ 0 n&&CQ (2*t) n)||xP.any λx=>im x.1 t&&im x.2 n)=true:=by decide +kernel
theorem Np(h:PW p q=true):RL p q:=by
 unfold PW at h;rw[gB,dI,dI] at h
 rcases h with ⟨a,b⟩|⟨a,b⟩
 .exact .inl ⟨jC.mp a,jC.mp b⟩
 .exact .inr ⟨ev a,Gw.mp (ev b)⟩
theorem DT(h:Pp p=true):0<p.2∧K3 (nH p.1 p.2)=true∧nH p.1 p.2=J3 p.1 p.2:=by
 unfold Pp at h;rw[dI,dI] at h;exact⟨jC.mp h.1.1,h.1.2,Gw.mp (ev h.2)⟩
theorem DF(hp:0<p.2)(hq:0<q.2)(hr:0<r.2)(h1:RL p q)(h2:RL q r):RL p r:=by
 obtain ⟨a,b⟩:=p;obtain ⟨c,d⟩:=q;obtain ⟨e,f⟩:=r;unfold RL at *;dsimp only at *
 have J:a*d≤c*b→c*f≤e*d→(a*f)*d≤(e*b)*d:=λx y=>by
  calc (a*f)*d=(a*d)*f:=by rw[eM,mq f d,← eM]
   _≤(c*b)*f:=ll f x
   _=(c*f)*b:=by rw[eM,mq b f,← eM]
   _≤(e*d)*b:=ll b y
   _=(e*b)*d:=by rw[eM,mq d b,← eM]
 have e1:(a*f)*d=(a*d)*f:=by rw[eM,mq f d,← eM]
 have e2:(c*b)*f=(c*f)*b:=by rw[eM,mq b f,← eM]
 have e3:(e*d)*b=(e*b)*d:=by rw[eM,mq d b,← eM]
 rcases h1 with ⟨H,G⟩|⟨H,G⟩<;>rcases h2 with ⟨B,z⟩|⟨B,z⟩
 .refine .inl ⟨?_,aP G z⟩
  have u:=fi H hr;have v:=fi B hp;exact nb (a:=d) (by rw[e1,← e3];exact aP (e2▸u) v)
 .refine .inl ⟨?_,by rw[← z];exact G⟩
  have u:=fi H hr
  have v:(c*f)*b=(e*d)*b:=by rw[B]
  exact nb (a:=d) (by rw[e1,← e3,← v,← e2];exact u)
 .refine .inl ⟨?_,by rw[G];exact z⟩
  have u:(a*d)*f=(c*b)*f:=by rw[H]
  have v:=fi B hp;exact nb (a:=d) (by rw[e1,← e3,u,e2];exact v)
 .refine .inr ⟨?_,G.trans z⟩
  have u:(a*d)*f=(c*b)*f:=by rw[H]
  have v:(c*f)*b=(e*d)*b:=by rw[B]
  exact Nat.eq_of_mul_eq_mul_right hq (by rw[e1,← e3,u,e2];exact v)
theorem uU:∀(l:List (Nat×Nat)) (p:Nat×Nat),0<p.2→Bh p l=true→(∀q∈l,RL p q∧Pp q=true)∧l.Pairwise RL
 | [],_,_,_=>⟨(λ_ h=>nomatch h),qc⟩
 | q::r,p,hp,h=>by
  unfold Bh at h;rw[dI,dI] at h;obtain ⟨⟨h1,h2⟩,h3⟩:=h;have hq:=(DT h2).1;obtain ⟨B,G⟩:=uU r q hq h3;have u:=Np h1;refine⟨λz hz=>?_,List.Pairwise.cons (λz hz=>(B z hz).1) G⟩
  rcases ak.mp hz with e|hz
  .rw[e];exact⟨u,h2⟩
  .exact⟨DF hp hq (DT (B z hz).2).1 u (B z hz).1,(B z hz).2⟩
theorem wH(hn:0<n)(u:n≤40)(h2:2*t≤n):(t,n)∈xP:=by
 have:=gm.mp L1 n (bE.mpr (by omega));have:=gm.mp this t (bE.mpr (by omega));rw[jC.mpr hn,Nat.ble_eq.mpr h2,Bool.and_self,Bool.not_true,Bool.false_or] at this;obtain ⟨⟨a,b⟩,hm,e⟩:=List.any_eq_true.mp this;rw[dI] at e;have e1:=ev e.1;have e2:=ev e.2;dsimp only at e1 e2;subst e1;subst e2;exact hm
theorem DI:∀{l:List α},l.Pairwise R→∀x∈l,∀y∈l,R x y∨R y x∨x=y
 | _::_,h,x,z,y,u=>by
  rw[dZ] at h
  rcases ak.mp z with e|z
  .rcases ak.mp u with e2|u
   .exact .inr (.inr (e.trans e2.symm))
   .exact .inl (e▸h.1 y u)
  .rcases ak.mp u with e2|u
   .exact .inr (.inl (e2▸h.1 x z))
   .exact DI h.2 x z y u
theorem uh(hn:0<n)(e:n≤40)(h2:2*t≤n):K3 (nH t n)=true∧nH t n=J3 t n:=
 have h:=(uU xP (0,1) (by decide) yz).1 _ (wH hn e h2)
 (DT h.2).2
theorem pn(hn:0<n)(B:n≤40)(h2:2*t≤n)(z:0<n')(u:n'≤40)(G:2*H≤n'):
  cY (nH t n) (nH H n')=some (compare (t*n') (H*n))∧(t*n'=H*n→nH t n=nH H n'):=by
 have m1:=wH hn B h2;have J:=wH z u G;rw[LG (uh hn B h2).1 (uh z u G).1]
 rcases DI (uU xP (0,1) (by decide) yz).2 _ m1 _ J with h|h|h
 .rcases h with ⟨a,b⟩|⟨a,b⟩<;>dsimp only at a b
  .exact⟨by rw[gI.mpr a,gI.mpr b],λe=>absurd e (aB a)⟩
  .exact⟨by rw[b,a,eF.mpr rfl,eF.mpr rfl],λ_=>b⟩
 .rcases h with ⟨a,b⟩|⟨a,b⟩<;>dsimp only at a b
  .exact⟨by rw[nN.mpr a,nN.mpr b],λe=>absurd e.symm (aB a)⟩
  .exact⟨by rw[b,a,eF.mpr rfl,eF.mpr rfl],λ_=>b.symm⟩
 .cases h
  exact⟨by rw[eF.mpr rfl,eF.mpr rfl],λ_=>rfl⟩
end
section
noncomputable def Cq(a:Int):Bool:=(aV 6).all λb=>(aV 6).all λc=>(aV 6).all λd=>PD [a,b,c,d]
theorem OZ:Cq ((0:Nat):Int)=true:=by decide +kernel
theorem OY:Cq ((1:Nat):Int)=true:=by decide +kernel
theorem OX:Cq ((2:Nat):Int)=true:=by decide +kernel
theorem OW:Cq ((3:Nat):Int)=true:=by decide +kernel
theorem OV:Cq ((4:Nat):Int)=true:=by decide +kernel
theorem OU:Cq ((5:Nat):Int)=true:=by decide +kernel
theorem Iu:((aV 6).all λa=>(aV 6).all λb=>(aV 6).all λc=>(aV 6).all λd=>PD [a,b,c,d])=true:=
 gm.mpr λa ha=>match a,bE.mp ha with
  | 0,_=>OZ
  | 1,_=>OY
  | 2,_=>OX
  | 3,_=>OW
  | 4,_=>OV
  | 5,_=>OU
end
section
open W PyProof Rows
theorem AS{tb:Nat→Nat→Bool}{i n:Nat}{x:Int} : x∈sF tb sL i n↔∃j,j<n∧tb i j=true∧x=5*(i:Int)+(j:Int):=by
 unfold sF;rw[eA];constructor
 .intro u
  refine fN u λj hj B=>?_;clear u;subst B;refine b8 (bZ.mp hj) λh1 h2=>?_;exact(c9 j (bE.mp h1) h2 rfl)
 .intro e
  refine fM e λj h1 h2 z=>?_;clear e;subst z;exact(db j (bZ.mpr ⟨bE.mpr h1,h2⟩) rfl)
theorem xV{tb:Nat→Nat→Bool}{n:Nat}{x:Int} : x∈jE tb sL 5 n↔∃i j,i<n∧j<5∧tb i j=true∧x=5*(i:Int)+(j:Int):=by
 unfold jE;rw[List.mem_flatMap];constructor
 .intro u
  refine fN u λi hi h=>?_;clear u;refine fM (AS.mp h) λj h1 h2 h3=>?_;exact(sh i j (bE.mp hi) h1 h2 h3)
 .intro e
  refine hZ e λi j h1 h2 h3 h4=>?_;clear e;exact(db i (bE.mpr h1) (AS.mpr (c9 j h2 h3 h4)))
section
variable {bs:List Int}
noncomputable def bx(bs:List Int):List Int:=jE (zh bs) sL 5 4
noncomputable def aZ(bs:List Int):List Int:=(aV 4).map (jX bs)
theorem wq(hl:bs.length=5)(t:Nat):((aV 5).filter (zh bs t)).length=(bs.filter (jH t)).length:=by
 have e:bs=(aV 5).map (λj=>bs.getD j 0):=by
  refine ot (by simp [hl]) λi h1 h2=>?_;rw[cI,mF,ay,am h1];rfl
 rw[e,wA,aE,← e];rfl
theorem rn(hl:bs.length=5)(t:Nat):(sF (zh bs) sL t 5).length=(bs.filter (jH t)).length:=by
 unfold sF;rw[aE,wq hl]
theorem Nv(tb:Nat→Nat→Bool):jE tb sL 5 4=sF tb sL 0 5++sF tb sL 1 5++sF tb sL 2 5++sF tb sL 3 5:=by
 rw[jV,jV,jV,jV];refine(?_:[]++_++_++_++_=_);rw[ip]
theorem Ay(f:Nat→Int):gx ((aV 4).map f)=f 0+f 1+f 2+f 3:=by
 exact ny (kP [f 0,f 1,f 2,f 3] (.a (.a (.a (.a Y0 Z0) Z1) Z2) Z3) (.a (.a (.a Z0 Z1) Z2) Z3) rfl) (kP [f 0,f 1,f 2,f 3] (.a (.a (.a Z0 Z1) Z2) Z3) (.a (.a (.a (.a Y0 Z0) Z1) Z2) Z3) rfl)
theorem xB(hl:bs.length=5):((bx bs).length:Int)=gx (aZ bs):=by
 unfold bx aZ;rw[Ay,Nv,aU,aU,aU,rn hl,rn hl,rn hl,rn hl];unfold jX;exact ny (kP [↑((eU (jH 0) bs).length),↑((eU (jH 1) bs).length),↑((eU (jH 2) bs).length),↑((eU (jH 3) bs).length)] (.a (.a (.a Z0 Z1) Z2) Z3) (.a (.a (.a Z0 Z1) Z2) Z3) rfl) (kP [↑((eU (jH 0) bs).length),↑((eU (jH 1) bs).length),↑((eU (jH 2) bs).length),↑((eU (jH 3) bs).length)] (.a (.a (.a Z0 Z1) Z2) Z3) (.a (.a (.a Z0 Z1) Z2) Z3) rfl)
theorem HM(i j:Nat)(hi:i<4)(hj:j<5):decide ((5*(i:Int)+(j:Int))∈bx bs)=zh bs i j:=by
 by_cases h:zh bs i j=true
 .rw[h]
  exact decide_eq_true (xV.mpr (sh i j hi hj h rfl))
 .rw[Bool.not_eq_true] at h
  rw[h];refine decide_eq_false λhm=>?_;refine hZ (xV.mp hm) λu e h1 h2 h3 h4=>?_;have e1:i=u:=vm (ia [i,u,j,e] 5 Z0 Z1 1 (.a (.m 5 Z0) Z2) (.a (.m 5 Z1) Z3) 1 (.a Z3 Y1) (.k 5) 1 Y0 Z2 rfl (gX h4) (ef h2) j7) (ia [u,i,e,j] 5 Z0 Z1 1 (.a (.m 5 Z0) Z2) (.a (.m 5 Z1) Z3) 1 (.a Z3 Y1) (.k 5) 1 Y0 Z2 rfl (iu h4) (ef hj) j7);have e2:j=e:=vm (eV [j,e,u,i] 1 Z0 Z1 5 Z2 Z3 1 (.a (.m 5 Z3) Z0) (.a (.m 5 Z2) Z1) rfl (l9 e1) (gX h4)) (eV [e,j,i,u] 1 Z0 Z1 5 Z2 Z3 1 (.a (.m 5 Z3) Z0) (.a (.m 5 Z2) Z1) rfl (vX e1) (iu h4));subst e1 e2;rw[h] at h3;cases h3
theorem Dq{S i j:Nat}(hj:j<5):zh [(S:Int),S,S,S,S] i j=bt (S:Int) (i:Int):=by
 unfold zh;rw[← FI]
 have:([(S:Int),S,S,S,S]:List Int).getD j 0=S:=by
  match j,hj with
  | 0,_=>rfl
  | 1,_=>rfl
  | 2,_=>rfl
  | 3,_=>rfl
  | 4,_=>rfl
 rw[this]
theorem pB(hl:bs.length=5)(S i:Nat)(hi:i<4):((sF (zh [(S:Int),S,S,S,S]) sL i 5).filter λx=>decide (x∈bx bs)).length=if bt (S:Int) (i:Int) then (bs.filter (jH i)).length else 0:=by
 unfold sF;rw[wA,aE]
 have e:((aV 5).filter (zh [(S:Int),S,S,S,S] i))=if bt (S:Int) (i:Int) then aV 5 else []:=by
  by_cases h:bt (S:Int) (i:Int)=true
  .rw[if_pos h]
   refine rU.mpr λj hj=>?_;rw[Dq (bE.mp hj),h]
  .rw[if_neg h]
   refine Bx.mpr λj hj=>?_;rw[Dq (bE.mp hj)];exact h
 rw[e]
 by_cases h:bt (S:Int) (i:Int)=true
 .rw[if_pos h,if_pos h,← wq hl]
  refine congrArg eK (nF λj hj=>?_);exact HM i j hi (bE.mp hj)
 .rw[if_neg h,if_neg h]
  rfl
theorem te{i:Nat}(hi:i<4):nv (aZ bs) (i:Int)=((bs.filter (jH i)).length:Nat):=by
 unfold nv aZ;rw[bM,ay,eS,lO hi];rfl
theorem HV{p:Int→Bool}{f:Int→Int}{a:Int}{l:List Int} : (((a::l).filter p).map f).sum=(if p a then f a else 0)+((l.filter p).map f).sum:=by
 rw[fH];cases p a
 .exact(fQ _).symm
 .rfl
theorem Px{b:Bool}{a:Nat} : (((if b then a else 0):Nat):Int)=if b then (a:Int) else 0:=by cases b<;>rfl
theorem Qq{a b c d:Bool}{x y z w:Nat} : (((if a then x else 0)+(if b then y else 0)+(if c then z else 0)+(if d then w else 0):Nat):Int)=(if a then (x:Int) else 0)+(if b then (y:Int) else 0)+(if c then (z:Int) else 0)+(if d then (w:Int) else 0):=by
 rw[← Px,← Px,← Px,← Px];rfl
theorem B4(vs:List Int)(S:Int):fP vs S=(if bt S 0 then nv vs 0 else 0)+(if bt S 1 then nv vs 1 else 0)+(if bt S 2 then nv vs 2 else 0)+(if bt S 3 then nv vs 3 else 0):=by
 unfold fP th;rw[mU,HV,HV,HV,HV,kU,kU];exact congrArg _ (congrArg _ (congrArg _ (iY _)))
theorem rY(hl:bs.length=5)(S:Nat):(((gK S).filter λx=>decide (x∈bx bs)).length:Int)=fP (aZ bs) (S:Int):=by
 unfold gK;rw[B4];show (((jE (zh [(S:Int),S,S,S,S]) sL 5 4).filter λx=>decide (x∈bx bs)).length:Int)=_;rw[Nv,cJ,cJ,cJ,aU,aU,aU,pB hl S 0 (il 3),pB hl S 1 (uu (aS 1) (bR true)),pB hl S 2 (uu (aS 2) (bR true)),pB hl S 3 (aJ 3)];have v0:nv (aZ bs) 0=_:=te (i:=0) (by decide);have v1:nv (aZ bs) 1=_:=te (i:=1) (by decide);have v2:nv (aZ bs) 2=_:=te (i:=2) (by decide);have e:nv (aZ bs) 3=_:=te (i:=3) (by decide);rw[v0,v1,v2,e];exact Qq
theorem tg:∀S,S<16→(gK S).length=5*(th (S:Int)).length:=by decide +kernel
theorem He:∀i,i<16→∀j,j<16→gK i=gK j→i=j:=by decide +kernel
theorem kY(S:Nat):(gK S).Pairwise (· < ·):=nt
theorem iZ:(bx bs).Pairwise (· < ·):=nt
theorem td:(bx bs).length≤20:=wI
theorem y9(hl:bs.length=5):∀x∈aZ bs,0≤x∧x≤5:=by
 intro x u;refine fN (eA.mp u) λt _ e=>?_;subst e;unfold jX;have:=bU (jH t) bs;exact⟨cW [↑((eU (jH t) bs).length)] 1 Y0 Z0 1 Y0 Z0 rfl j7,eV [↑((eU (jH t) bs).length),bs.length] 1 Z0 (.k 5) 1 Z0 Z1 1 Z1 (.k 5) rfl (ef this) (vX hl)⟩
end
theorem LL(hl:vs.length=4)(h5:∀x∈vs,0≤x∧x≤5):PD vs=true:=by
 match vs,hl with
 | [a,b,c,d],_=>
  have ha:=h5 a (by k_extra "zmm");have hb:=h5 b (by k_extra "zmm");have hc:=h5 c (by k_extra "zmm");have hd:=h5 d (by k_extra "zmm");have z:=gm.mp (gm.mp (gm.mp (gm.mp Iu a.toNat (bE.mpr (ltN (eV [a.toNat,a] 1 (.a Z0 Y1) (.k 6) 1 Z1 (.k 5) 1 Z0 Z1 rfl ha.2 (jb (cW [a] 1 Y0 Z0 1 Y0 Z0 rfl ha.1)))))) b.toNat (bE.mpr (ltN (eV [b.toNat,b] 1 (.a Z0 Y1) (.k 6) 1 Z1 (.k 5) 1 Z0 Z1 rfl hb.2 (jb (cW [b] 1 Y0 Z0 1 Y0 Z0 rfl hb.1)))))) c.toNat (bE.mpr (ltN (eV [c.toNat,c] 1 (.a Z0 Y1) (.k 6) 1 Z1 (.k 5) 1 Z0 Z1 rfl hc.2 (jb (cW [c] 1 Y0 Z0 1 Y0 Z0 rfl hc.1)))))) d.toNat (bE.mpr (ltN (eV [d.toNat,d] 1 (.a Z0 Y1) (.k 6) 1 Z1 (.k 5) 1 Z0 Z1 rfl hd.2 (jb (cW [d] 1 Y0 Z0 1 Y0 Z0 rfl hd.1)))));rw[dF ha.1,dF hb.1,dF hc.1,dF hd.1] at z;exact z
structure VF(vs:List Int):Prop where
 m0:0<df vs
 z0:0≤sizeOf vs
 z4:sizeOf vs≤4
 mb:2*df vs≤dw vs
 due:∀S:Nat,S<16→pW vs (S:Int)=decide (df vs*(gx vs+5*((th (S:Int)).length:Int))=fP vs (S:Int)*dw vs)
 le:∀S:Nat,S<16→fP vs (S:Int)*dw vs≤df vs*(gx vs+5*((th (S:Int)).length:Int))
 dif:∀S:Nat,S<16→th (S:Int)=Dy (dJ vs)∨jp vs (dJ vs)<jp vs (th (S:Int))
 few:gx vs<4∨dw vs<2*gx vs*df vs
 inc:zP ((eD vs 4).map λt=>(nv vs t,-t))=true
theorem Na(hl:vs.length=4)(h5:∀x∈vs,0≤x∧x≤5)(h0:gx vs≠0):VF vs:=by
 have h:=LL hl h5;unfold PD at h;rw[decide_eq_false h0,Bool.false_or] at h;simp only[dI,gB,decide_eq_true_eq,gm,bE,beq_iff_eq] at h;refine b8 h λe _=>?_
 try clear h
 refine b8 e λu _=>?_
 try clear e
 obtain ⟨⟨⟨⟨⟨⟨a1,a2⟩,a3⟩,J⟩,B⟩,H⟩,G⟩:=u;exact⟨a1,a2,a3,J,λS z=>(B S z).1.1,λS z=>(B S z).1.2,λS z=>(B S z).2,H,G⟩
theorem tz(hn:0<n)(z:n≤40)(h2:2*t≤n)(hb:0<b)(e:b≤40)(u:2*m≤b):HX (nH t n) (nH m b)=decide (m*n≤t*b):=by
 unfold HX;rw[(pn hn z h2 hb e u).1]
 rcases j4 (t*b) (m*n) with h|h|h
 .rw[gI.mpr h,decide_eq_false (λhh=>uH h hh)];rfl
 .rw[eF.mpr h,decide_eq_true (fz (Eq.symm h))];rfl
 .rw[nN.mpr h,decide_eq_true (aN h)];rfl
theorem rq(t n:Nat):kq (t:Int) (n:Int)=nH t n:=rfl
theorem DH(hn:0<n)(e:n≤40)(h2:2*t≤n):cY (nH t n) (nH t n)=some dk:=by
 rw[(pn hn e h2 hn e h2).1,eF.mpr rfl]
theorem xA(hb:0<b)(u:b≤40)(z:2*m≤b):(cY 0 (nH m b)==some kf||cY 0 (nH m b)==some dk)=true:=by
 have e:(0:UInt64)=nH 0 1:=by decide +kernel
 rw[e,(pn (by decide) (by decide) (by decide) hb u z).1]
 rcases CM (0*b) (m*1) with h|h
 .rw[gI.mpr h];rfl
 .rw[eF.mpr (vm (cW [b,↑(m*1)] 1 (.m 0 Z0) Z1 1 Y0 Z1 rfl j7) (cW [↑(m*1),b] 1 Z0 (.m 0 Z1) 1 Z0 (.m 0 Z1) rfl (ef h)))];rfl
theorem zq(hb:0<b)(u:b≤40)(z:2*m≤b):(cY (nH m b) 4607182418800017408==some kf||cY (nH m b) 4607182418800017408==some dk)=true:=by
 have e:(4607182418800017408:UInt64)=nH 1 2:=by decide +kernel
 rw[e,(pn hb u z (by decide) (by decide) (by decide)).1]
 rcases CM (m*2) (1*b) with h|h
 .rw[gI.mpr h];rfl
 .rw[eF.mpr (by lia)];rfl
end
section
section
variable {xs ys:List Int}
noncomputable def sl(xs:List Int)(a b:Int):List Int:=(xs.drop a.toNat).take (b-a).toNat
theorem l0(h0:0≤a):x∈sl xs a b↔∃p:Nat,a≤p∧(p:Int)<b∧xs[p]?=some x:=by
 unfold sl;rw[List.mem_iff_getElem?];constructor
 .intro u
  refine cp u λi hi=>?_;clear u;rw[GH] at hi
  split at hi
  .rw[GI] at hi
   exact(c9 (a.toNat+i) (eV [a,a.toNat,i] 1 Z0 (.a Z1 Z2) 1 Z0 Z1 1 Y0 Z2 rfl tq j7) (by omega) hi)
  .cases hi
 .intro e
  refine fM e λp h1 h2 h3=>?_;clear e;refine⟨p-a.toNat,?_⟩;rw[GH,if_pos (ltN (yW [↑(p-a.toNat),↑((b-a).toNat),p,b,a,a.toNat] 1 (.a Z0 Y1) Z1 1 (.a Z2 Y1) Z3 1 (.s Z3 Z4) Z1 1 Z4 Z5 1 (.a Z0 Z5) Z2 rfl h2 tq tq (xK (eV [a.toNat,p,a] 1 Z0 Z1 1 Z2 Z1 1 Z0 Z2 rfl h1 (jb (cW [a] 1 Y0 Z0 1 Y0 Z0 rfl h0)))))),GI,show a.toNat+(p-a.toNat)=p by exact O5 (R4 h1)];exact h3
theorem xH(h0:0≤a)(h1:a≤i)(h2:i≤b):sl xs a b=sl xs a i++sl xs i b:=by
 unfold sl;have e:(b-a).toNat=(i-a).toNat+(b-i).toNat:=vm (ia [↑((b-a).toNat),↑((i-a).toNat),↑((b-i).toNat),i,a,b] 1 Z0 (.a Z1 Z2) 1 (.s Z3 Z4) Z1 1 (.s Z5 Z3) Z2 1 Z0 (.s Z5 Z4) rfl tq tq (jb (eV [b,a,i] 1 Y0 (.s Z0 Z1) 1 Z2 Z0 1 Z1 Z2 rfl h2 h1))) (ia [↑((i-a).toNat),↑((b-i).toNat),↑((b-a).toNat),b,a,i] 1 (.a Z0 Z1) Z2 1 (.s Z3 Z4) Z2 1 Z0 (.s Z5 Z4) 1 Z1 (.s Z3 Z5) rfl tq (jb (cW [i,a] 1 Y0 (.s Z0 Z1) 1 Z1 Z0 rfl h1)) (jb (cW [b,i] 1 Y0 (.s Z0 Z1) 1 Z1 Z0 rfl h2)));rw[e,List.take_add,List.drop_drop,show a.toNat+(i-a).toNat=i.toNat by exact vm (ia [a.toNat,↑((i-a).toNat),i.toNat,i,a] 1 (.a Z0 Z1) Z2 1 Z3 Z2 1 Z0 Z4 1 Z1 (.s Z3 Z4) rfl tq (jb (cW [a] 1 Y0 Z0 1 Y0 Z0 rfl h0)) (jb (cW [i,a] 1 Y0 (.s Z0 Z1) 1 Z1 Z0 rfl h1))) (ia [i.toNat,a.toNat,↑((i-a).toNat),a,i] 1 Z0 (.a Z1 Z2) 1 Z3 Z1 1 (.s Z4 Z3) Z2 1 Z0 Z4 rfl tq tq (jb (eV [i,a] 1 Y0 Z0 1 Z1 Z0 1 Y0 Z1 rfl h1 h0)))]
theorem JT{a b:Int}(h0:0≤a)(h1:a≤b)(h2:b≤xs.length):((sl xs a b).length:Int)=b-a:=by
 unfold sl;rw[eO,dn];exact ny (eV [↑(min (b-a).toNat (xs.length-a.toNat)),b,a,↑((b-a).toNat)] 1 Z0 (.s Z1 Z2) 1 Z0 Z3 1 Z3 (.s Z1 Z2) rfl Kx (jb (cW [b,a] 1 Y0 (.s Z0 Z1) 1 Z1 Z0 rfl h1))) (eV [b,a,↑(min (b-a).toNat (xs.length-a.toNat)),↑((b-a).toNat)] 1 (.s Z0 Z1) Z2 1 (.s Z0 Z1) Z3 1 Z3 Z2 rfl tq (Q7 (yW [↑((b-a).toNat),↑(xs.length-a.toNat),b,xs.length,a.toNat,a] 1 Z0 Z1 1 Z2 Z3 1 Z3 (.a Z1 Z4) 1 Z0 (.s Z2 Z5) 1 Z4 Z5 rfl h2 C1 (jb (cW [b,a] 1 Y0 (.s Z0 Z1) 1 Z1 Z0 rfl h1)) (jb (cW [a] 1 Y0 Z0 1 Y0 Z0 rfl h0)))))
theorem vP(z:xs.Pairwise (· < ·)){p q:Nat}{x y:Int}(h1:xs[p]?=some x)(h2:xs[q]?=some y)(h:p<q):x<y:=by
 refine cp (bz.mp h1) λhp u=>?_;subst u;refine cp (bz.mp h2) λhq e=>?_;subst e;exact cf.mp z p q hp hq h
theorem Dv(u:xs.Pairwise (· < ·)){p q:Nat}{x y:Int}(h1:xs[p]?=some x)(h2:xs[q]?=some y)(h:x<y):p<q:=by
 rcases j4 p q with e|e|e
 .exact e
 .subst e;rw[h1] at h2;cases h2;exact(qz (cW [x] 1 Y0 (.k (-1)) 1 (.a Z0 Y1) Z0 rfl h)).elim
 .have:=vP u h2 h1 e;exact(qz (eV [y,x] 2 Y0 (.k (-1)) 1 (.a Z0 Y1) Z1 1 (.a Z1 Y1) Z0 rfl this h)).elim
theorem BD(hx:xs.Pairwise (· < ·))(hy:ys.Pairwise (· < ·)){a b c d t:Int}(h:pM xs ys a b c d t):0≤a→a≤b→b≤xs.length→0≤c→c≤d→d≤ys.length→t=(((sl xs a b).filter (λx=>decide (x∈sl ys c d))).length:Nat):=by
 induction h with
 | none h=>
  intro e ab bl O cd dl;rw[Bx.mpr]
  .rfl
  .intro x u aj
   refine fM ((l0 e).mp u) λp p1 p2 p3=>?_;refine fM ((l0 O).mp (of_decide_eq_true aj)) λq Y U J=>?_;refine h p q p1 p2 Y U ?_;rw[bM,bM,p3,J]
 | @split alo ahi blo bhi i j k t1 t2 h1 h2 h3 h4 h5 dg _ _ ah aa=>
  intro e ab bl O cd dl;have ah:=ah e h1 (by exact ia [i,xs.length,ahi,k] 1 Z0 Z1 1 Z2 Z1 1 (.a Z0 Z3) Z2 1 Y1 Z3 rfl bl h4 h3) O h2 (by exact ia [j,ys.length,bhi,k] 1 Z0 Z1 1 Z2 Z1 1 (.a Z0 Z3) Z2 1 Y1 Z3 rfl dl h5 h3);have aa:=aa (by exact ia [i,k,alo] 1 Y0 (.a Z0 Z1) 1 Y0 Z2 1 Y1 Z1 1 Z2 Z0 rfl e h3 h1) h4 bl (by exact ia [j,k,blo] 1 Y0 (.a Z0 Z1) 1 Y0 Z2 1 Y1 Z1 1 Z2 Z0 rfl O h3 h2) h5 dl;refine fN (dg 0 (by exact cW [k] 1 (.a Y0 Y1) Z0 1 Y1 Z0 rfl h3)) λv0 x0 y0=>?_;refine fN (dg (k.toNat-1) (by exact eV [↑(k.toNat-1),k,k.toNat] 1 (.a Z0 Y1) Z1 1 (.a Z0 Y1) Z2 1 Z2 Z1 rfl (xK (eV [k.toNat,k] 1 Y1 Z0 1 Y1 Z1 1 Z1 Z0 rfl h3 tq)) (jb (cW [k] 1 Y0 Z0 1 Y1 Z0 rfl h3)))) λv1 x1 y1=>?_;rw[xH (i:=i) e h1 (by exact eV [i,ahi,k] 1 Z0 Z1 1 (.a Z0 Z2) Z1 1 Y1 Z2 rfl h4 h3),xH (xs:=xs) (a:=i) (i:=i+k) (by exact cF e h1) (by exact cW [i,k] 1 Z0 (.a Z0 Z1) 1 Y1 Z1 rfl h3) h4,cJ,cJ,aU,aU]
  have e1:(sl xs alo i).filter (λx=>decide (x∈sl ys blo bhi))=(sl xs alo i).filter (λx=>decide (x∈sl ys blo j)):=by
   refine nF λx u=>decide_eq_decide.mpr ?_;refine fM ((l0 e).mp u) λp p1 p2 p3=>?_;rw[l0 O,l0 O];constructor
   .intro H
    refine fM H λq Y U J=>?_;clear H;refine(c9 q Y ?_ J);have:=vP hx p3 x0 (by exact ltN (eV [p,↑((i+(↑0:Int)).toNat),i] 1 (.a Z0 Y1) Z1 1 (.a Z0 Y1) Z2 1 (.a Z2 Y0) Z1 rfl p2 tq));have:=Dv hy J y0 this;exact eV [q,j,↑((j+(↑0:Int)).toNat)] 1 (.a Z0 Y1) Z1 1 (.a Z0 Y1) Z2 1 Z2 (.a Z1 Y0) rfl (ef this) (jb (eV [j,blo] 1 Y0 (.a Z0 Y0) 1 Y0 Z1 1 Z1 Z0 rfl O h2))
   .intro G
    refine fM G λq Y U J=>?_;clear G;exact(c9 q Y (by exact ia [q,bhi,j,k] 1 (.a Z0 Y1) Z1 1 (.a Z0 Y1) Z2 1 (.a Z2 Z3) Z1 1 Y1 Z3 rfl U h5 h3) J)
  have e2:(sl xs i (i+k)).filter (λx=>decide (x∈sl ys blo bhi))=sl xs i (i+k):=by
   refine rU.mpr λx u=>decide_eq_true ?_;refine fM ((l0 (by exact cF e h1)).mp u) λp p1 p2 p3=>?_;refine fN (dg (p-i.toNat) (by exact ia [↑(p-i.toNat),k,p,i,i.toNat] 1 (.a Z0 Y1) Z1 1 (.a Z2 Y1) (.a Z3 Z1) 1 Z3 Z4 1 (.a Z0 Z4) Z2 rfl p2 tq (xK (eV [i.toNat,p,i] 1 Z0 Z1 1 Z2 Z1 1 Z0 Z2 rfl p1 (jb (eV [i,alo] 1 Y0 Z0 1 Y0 Z1 1 Z1 Z0 rfl e h1)))))) λv xv yv=>?_;rw[show (i+((p-i.toNat:Nat):Int)).toNat=p by exact vm (ia [↑((i+(↑(p-i.toNat):Int)).toNat),p,i,i.toNat,↑(p-i.toNat)] 1 Z0 Z1 1 Z2 Z3 1 Z0 (.a Z2 Z4) 1 (.a Z4 Z3) Z1 rfl tq (jb (ia [i,↑(p-i.toNat),alo] 1 Y0 (.a Z0 Z1) 1 Y0 Z2 1 Z2 Z0 1 Y0 Z1 rfl e h1 j7)) (xK (eV [i.toNat,p,i] 1 Z0 Z1 1 Z2 Z1 1 Z0 Z2 rfl p1 (jb (eV [i,alo] 1 Y0 Z0 1 Y0 Z1 1 Z1 Z0 rfl e h1))))) (ia [p,↑((i+(↑(p-i.toNat):Int)).toNat),i,↑(p-i.toNat),i.toNat] 1 Z0 Z1 1 (.a Z2 Z3) Z1 1 Z0 (.a Z3 Z4) 1 Z4 Z2 rfl tq C1 (jb (eV [i,alo] 1 Y0 Z0 1 Y0 Z1 1 Z1 Z0 rfl e h1))),p3] at xv;cases xv;exact(l0 O).mpr (c9 ((j+((p-i.toNat:Nat):Int)).toNat) (by exact ia [blo,↑((j+(↑(p-i.toNat):Int)).toNat),j,↑(p-i.toNat)] 1 Z0 Z1 1 Z0 Z2 1 (.a Z2 Z3) Z1 1 Y0 Z3 rfl h2 tq j7) (by exact Jf [↑((j+(↑(p-i.toNat):Int)).toNat),bhi,p,i,k,j,i.toNat,↑(p-i.toNat)] 1 (.a Z0 Y1) Z1 1 (.a Z2 Y1) (.a Z3 Z4) 1 (.a Z5 Z4) Z1 1 Z3 Z6 1 Z0 (.a Z5 Z7) 1 (.a Z7 Z6) Z2 rfl p2 h5 tq (jb (ia [j,↑(p-i.toNat),blo] 1 Y0 (.a Z0 Z1) 1 Y0 Z2 1 Z2 Z0 1 Y0 Z1 rfl O h2 j7)) (xK (eV [i.toNat,p,i] 1 Z0 Z1 1 Z2 Z1 1 Z0 Z2 rfl p1 (jb (eV [i,alo] 1 Y0 Z0 1 Y0 Z1 1 Z1 Z0 rfl e h1))))) yv)
  have e3:(sl xs (i+k) ahi).filter (λx=>decide (x∈sl ys blo bhi))=(sl xs (i+k) ahi).filter (λx=>decide (x∈sl ys (j+k) bhi)):=by
   refine nF λx u=>decide_eq_decide.mpr ?_;refine fM ((l0 (by exact ia [i,k,alo] 1 Y0 (.a Z0 Z1) 1 Y0 Z2 1 Y1 Z1 1 Z2 Z0 rfl e h3 h1)).mp u) λp p1 p2 p3=>?_;rw[l0 O,l0 (by exact ia [j,k,blo] 1 Y0 (.a Z0 Z1) 1 Y0 Z2 1 Y1 Z1 1 Z2 Z0 rfl O h3 h2)];constructor
   .intro B
    refine fM B λq Y U J=>?_;clear B;refine(c9 q ?_ U J);have:=vP hx x1 p3 (by exact ltN (yW [↑((i+(↑(k.toNat-1):Int)).toNat),p,i,k,↑(k.toNat-1),k.toNat] 1 (.a Z0 Y1) Z1 1 (.a Z2 Z3) Z1 1 Z0 (.a Z2 Z4) 1 (.a Z4 Y1) Z5 1 Z5 Z3 rfl p1 (jb (ia [i,↑(k.toNat-1),alo] 1 Y0 (.a Z0 Z1) 1 Y0 Z2 1 Z2 Z0 1 Y0 Z1 rfl e h1 j7)) (xK (eV [k.toNat,k] 1 Y1 Z0 1 Y1 Z1 1 Z1 Z0 rfl h3 tq)) (jb (cW [k] 1 Y0 Z0 1 Y1 Z0 rfl h3))));have:=Dv hy y1 J this;exact yW [j,k,q,↑((j+(↑(k.toNat-1):Int)).toNat),↑(k.toNat-1),k.toNat] 1 (.a Z0 Z1) Z2 1 (.a Z3 Y1) Z2 1 (.a Z0 Z4) Z3 1 Z5 (.a Z4 Y1) 1 Z1 Z5 rfl (ef this) tq C1 tq
   .intro z
    refine fM z λq Y U J=>?_;clear z;exact(c9 q (by exact ia [blo,q,j,k] 1 Z0 Z1 1 (.a Z2 Z3) Z1 1 Y1 Z3 1 Z0 Z2 rfl Y h3 h2) U J)
  rw[e1,e2,e3];have:=JT (xs:=xs) (a:=i) (b:=i+k) (by exact cF e h1) (by exact cW [i,k] 1 Z0 (.a Z0 Z1) 1 Y1 Z1 rfl h3) (by exact cF h4 bl);lia
theorem Dz(xs:List Int):sl xs 0 xs.length=xs:=by
 unfold sl;rw[show ((xs.length:Int)-0).toNat=xs.length by exact vm (cW [↑(((xs.length:Int)-0).toNat),xs.length] 1 Z0 Z1 1 Z0 (.s Z1 Y0) rfl (jb (cW [xs.length] 1 Y0 (.s Z0 Y0) 1 Y0 Z0 rfl j7))) (cW [xs.length,↑(((xs.length:Int)-0).toNat)] 1 Z0 Z1 1 (.s Z0 Y0) Z1 rfl tq)];exact cT
theorem zg(u:xs.Pairwise (· < ·))(e:ys.Pairwise (· < ·))(h:pM xs ys 0 xs.length 0 ys.length t):t=((xs.filter (λx=>decide (x∈ys))).length:Nat):=by
 have:=BD u e h (b7 _) (ce _) (b7 _) (b7 _) (ce _) (b7 _);rw[Dz,Dz] at this;exact this
theorem ue(h:pM xs ys a b c d t)(hn:∀p q:Int,a≤p→p<b→c≤q→q<d→xs[p.toNat]?≠ys[q.toNat]?):t=0:=by
 cases h with
 | none=>rfl
 | split h1 h2 h3 h4 h5 u r1 r2=>
  rename_i i j k t1 t2;refine fN (u 0 (cW [k] 1 (.a Y0 Y1) Z0 1 Y1 Z0 rfl h3)) λv xv e=>?_;exact absurd (by rw[show i=i+((0:Nat):Int) by exact ny (kP [i] Z0 (.a Z0 Y0) rfl) (kP [i] (.a Z0 Y0) Z0 rfl),show j=j+((0:Nat):Int) by exact ny (kP [j] Z0 (.a Z0 Y0) rfl) (kP [j] (.a Z0 Y0) Z0 rfl),xv,e]) (hn i j (h1) (eV [i,b,k] 1 (.a Z0 Y1) Z1 1 (.a Z0 Z2) Z1 1 Y1 Z2 rfl h4 h3) (h2) (eV [j,d,k] 1 (.a Z0 Y1) Z1 1 (.a Z0 Z2) Z1 1 Y1 Z2 rfl h5 h3))
theorem G7(H:ys.Pairwise (· < ·))(h0:0<ys.length){t:Int}(h:pM ys.reverse ys 0 ys.reverse.length 0 ys.length t):t=1:=by
 have U:∀{p q:Nat}{x y:Int},ys.reverse[p]?=some x→ys.reverse[q]?=some y→p<q→y<x:=by
  intro p q x y h1 h2 O;refine cp (bz.mp h1) λhp z=>?_;subst z;refine cp (bz.mp h2) λhq u=>?_;subst u;rw[kT,kT];rw[bg] at hp hq;exact cf.mp H _ _ _ _ (Q3 O hq)
 rw[bg] at h
 cases h with
 | none h=>
  exfalso;refine h 0 ((ys.length:Int)-1) (b7 0) (eZ j7 (K8 h0)) (cW [ys.length] 1 Y0 (.s Z0 Y1) 1 (.a Y0 Y1) Z0 rfl (ef h0)) (kP [ys.length] (.a (.s Z0 Y1) Y1) Z0 rfl) ?_;rw[show ((ys.length:Int)-1).toNat=ys.length-1 by exact vm (eV [↑(((ys.length:Int)-1).toNat),↑(ys.length-1),ys.length] 1 Z0 Z1 1 Z2 (.a Z1 Y1) 1 Z0 (.s Z2 Y1) rfl C1 (jb (cW [ys.length] 1 Y0 (.s Z0 Y1) 1 (.a Y0 Y1) Z0 rfl (ef h0)))) (eV [↑(ys.length-1),↑(((ys.length:Int)-1).toNat),ys.length] 1 Z0 Z1 1 (.s Z2 Y1) Z1 1 (.a Z0 Y1) Z2 rfl tq (xK (cW [ys.length] 1 Y1 Z0 1 (.a Y0 Y1) Z0 rfl (ef h0)))),show (0:Int).toNat=0 from rfl,List.getElem?_reverse (h0)];rfl
 | split h1 h2 h3 h4 h5 dg r1 r2=>
  rename_i i j k t1 t2;refine fN (dg 0 (cW [k] 1 (.a Y0 Y1) Z0 1 Y1 Z0 rfl h3)) λv0 x0 y0=>?_
  have hk:k=1:=by
   rcases Int.lt_or_le k 2 with hk|hk
   .exact ny (cW [k] 1 Z0 Y1 1 (.a Z0 Y1) (.k 2) rfl hk) (cW [k] 1 Y1 Z0 1 Y1 Z0 rfl h3)
   .exfalso
    refine fN (dg 1 (cW [k] 1 (.a Y1 Y1) Z0 1 (.k 2) Z0 rfl hk)) λv1 x1 y1=>?_;have a1:=U x0 x1 (ltN (eV [↑((i+(↑0:Int)).toNat),↑((i+(↑1:Int)).toNat),i] 1 (.a Z0 Y1) Z1 1 (.a Z2 Y1) Z1 1 Z0 (.a Z2 Y0) rfl tq (jb (cW [i] 1 Y0 (.a Z0 Y0) 1 Y0 Z0 rfl h1))));have a2:=vP H y0 y1 (ltN (eV [↑((j+(↑0:Int)).toNat),↑((j+(↑1:Int)).toNat),j] 1 (.a Z0 Y1) Z1 1 (.a Z2 Y1) Z1 1 Z0 (.a Z2 Y0) rfl tq (jb (cW [j] 1 Y0 (.a Z0 Y0) 1 Y0 Z0 rfl h2))));exact PB a2 a1
  subst hk
  have e1:=ue r1 λp q B G J Y e=>by
   cases hp:ys.reverse[p.toNat]? with
   | none=>rw[iW,bg] at hp;exact(qz (yW [ys.length,p.toNat,p,i] 2 Y0 (.k (-1)) 1 Z0 Z1 1 (.a Z2 Y1) Z3 1 (.a Z3 Y1) Z0 1 Z1 Z2 rfl (ef hp) G h4 (jb (cW [p] 1 Y0 Z0 1 Y0 Z0 rfl B))))
   | some x=>
    rw[hp] at e;have a1:=U hp x0 (ltN (ia [p.toNat,↑((i+(↑0:Int)).toNat),p,i] 1 (.a Z0 Y1) Z1 1 (.a Z2 Y1) Z3 1 (.a Z3 Y0) Z1 1 Z0 Z2 rfl G tq (jb (cW [p] 1 Y0 Z0 1 Y0 Z0 rfl B))));have a2:=vP H e.symm y0 (ltN (ia [q.toNat,↑((j+(↑0:Int)).toNat),q,j] 1 (.a Z0 Y1) Z1 1 (.a Z2 Y1) Z3 1 (.a Z3 Y0) Z1 1 Z0 Z2 rfl Y tq (jb (cW [q] 1 Y0 Z0 1 Y0 Z0 rfl J))));exact PB a2 a1
  have e2:=ue r2 λp q B G J Y e=>by
   cases hp:ys.reverse[p.toNat]? with
   | none=>rw[iW,bg] at hp;exact(qz (ia [ys.length,p.toNat,p] 1 Y0 (.k (-1)) 1 Z0 Z1 1 (.a Z2 Y1) Z0 1 Z1 Z2 rfl (ef hp) G (jb (eV [p,i] 1 Y0 Z0 1 (.a Z1 Y1) Z0 1 Y0 Z1 rfl B h1))))
   | some x=>
    rw[hp] at e;have a1:=U x0 hp (ltN (ia [↑((i+(↑0:Int)).toNat),p.toNat,i,p] 1 (.a Z0 Y1) Z1 1 (.a Z2 Y1) Z3 1 Z3 Z1 1 Z0 (.a Z2 Y0) rfl B tq (jb (cW [i] 1 Y0 (.a Z0 Y0) 1 Y0 Z0 rfl h1))));have a2:=vP H y0 e.symm (ltN (ia [↑((j+(↑0:Int)).toNat),q.toNat,j,q] 1 (.a Z0 Y1) Z1 1 (.a Z2 Y1) Z3 1 Z3 Z1 1 Z0 (.a Z2 Y0) rfl J tq (jb (cW [j] 1 Y0 (.a Z0 Y0) 1 Y0 Z0 rfl h2))));exact PB a2 a1
  exact ny (eV [t1,t2] 1 (.a (.a Y1 Z0) Z1) Y1 1 Z1 Y0 1 Z0 Y0 rfl (gX e2) (gX e1)) (eV [t1,t2] 1 Y1 (.a (.a Y1 Z0) Z1) 1 Y0 Z1 1 Y0 Z0 rfl (iu e2) (iu e1))
end
end
section
open W PyProof Rows
theorem vV:∀{a b:List Int},a.Nodup→(∀x∈a,x∈b)→a.length≤b.length
 | [],_,_,_=>cr _
 | x::r,b,hn,hs=>by
  refine b8 (wy.mp hn) λh1 h2=>?_;have z:=hs x (zH);have:=vV (b:=b.erase x) h2 λy u=>(List.mem_erase_of_ne (λe:y=x=>h1 (by rw[← e];exact u))).mpr (hs y (zT u));rw[List.length_erase_of_mem z] at this;have:0<b.length:=Bu z;rw[gV];exact nU (eV [r.length,b.length,↑(b.length-1)] 1 (.a Z0 Y1) Z1 1 Z0 Z2 1 (.a Z2 Y1) Z1 rfl (ef (‹r.length≤b.length-1›)) (xK (cW [b.length] 1 Y1 Z0 1 (.a Y0 Y1) Z0 rfl (ef this))))
noncomputable abbrev RowT:=Addr×List Int
structure cV(bs:List Int)(R Rw:List RowT):Prop where
 bl:bs.length=5
 n0:gx (aZ bs)≠0
 hw:Rw.map (·.2)=(aV 16).map gK
 hR:R=Rw∨(3<(bx bs).length∧∃a,R=Rw++[(a,(bx bs).reverse)])
 nd:(R.map (·.1)).Nodup
noncomputable def AF(bs:List Int)(q:RowT):Int:=if q.2.Pairwise (· < ·) then ((q.2.filter λx=>decide (x∈bx bs)).length:Nat) else 1
noncomputable def wW(vs:List Int):UInt64:=nH (df vs).toNat (dw vs).toNat
noncomputable def lu(bs:List Int)(q:RowT):UInt64:=kq (AF bs q) ((q.2.length:Int)+((bx bs).length:Int))
noncomputable def qi(bs:List Int)(q:RowT):Bool:=HX (lu bs q) (wW (aZ bs))
noncomputable def dR(vs:List Int)(Rw:List RowT):List RowT:=((aV 16).filter (λc:Nat=>pW vs (c:Int))).map λc=>Rw.getD c (0,[])
section
variable {bs:List Int}{R Rw:List RowT}
theorem cV.vf(h:cV bs R Rw):VF (aZ bs):=Na rfl (y9 h.bl) h.n0
theorem cV.wl(h:cV bs R Rw):((bx bs).length:Int)=gx (aZ bs)∧0<(bx bs).length∧(bx bs).length≤20:=by
 have e:=xB h.bl;have:=h.n0;exact(eP e (by lia) td)
theorem cV.len(h:cV bs R Rw):Rw.length=16:=by
 have:=congrArg eK h.hw;rw[aE,aE,de] at this;exact this
theorem cV.get(h:cV bs R Rw)(hc:c<16):(Rw.getD c (0,[])).2=gK c∧Rw.getD c (0,[])∈Rw:=by
 have hl:=h.len;rw[ay,am (pV hl hc)];refine⟨?_,bH _⟩;have e:=congrArg (λl=>l[c]?) h.hw;simp only[eS,lO hc,am (pV hl hc:c<Rw.length),Option.map_some] at e;exact cS e
theorem cV.idx(h:cV bs R Rw)(hq:q∈Rw):∃c,c<16∧q=Rw.getD c (0,[]):=by
 obtain ⟨c,hc,rfl⟩:=lL hq;have hl:=h.len;exact(db c (pV (Eq.symm hl) hc) (by rw[ay,am hc];rfl))
theorem Hg(h:3<(bx bs).length):¬(bx bs).reverse.Pairwise (· < ·):=by
 intro hp;have hs:=iZ (bs:=bs);have a:=cf.mp hp 0 1 (by rw[bg];exact aO (il 2) (aN h)) (by rw[bg];exact aK (gC 1 2) h) (aJ 0);rw[kT,kT] at a;have b:=cf.mp hs ((bx bs).length-1-1) ((bx bs).length-1-0) (JP (JQ h)) (aK (jB (eK (bx bs)-1) 0) (JQ h)) (ltN (eV [↑((bx bs).length-1-1),↑((bx bs).length-1-0),↑((bx bs).length-1)] 1 (.a Z0 Y1) Z1 1 Z2 (.a Z1 Y0) 1 (.a Z0 Y1) Z2 rfl C1 (xK (eV [↑((bx bs).length-1),↑((bx bs).length)] 1 Y1 Z0 1 (.a (.k 3) Y1) Z1 1 Z1 (.a Z0 Y1) rfl (ef h) C1))));exact PB b a
theorem JK(h:cV bs R Rw)(hq:q.2=gK c):AF bs q=fP (aZ bs) (c:Int):=by
 unfold AF;rw[hq,if_pos (kY c)];exact rY h.bl c
theorem ky(h:cV bs R Rw){c:Nat}(hc:c<16):0≤fP (aZ bs) (c:Int)∧fP (aZ bs) (c:Int)≤((gK c).length:Nat)∧fP (aZ bs) (c:Int)≤((bx bs).length:Nat):=by
 have e:=rY h.bl c;have h1:((gK c).filter λx=>decide (x∈bx bs)).length≤(gK c).length:=bU ..
 have h2:((gK c).filter λx=>decide (x∈bx bs)).length≤(bx bs).length:=by
  refine vV ?_ ?_
  .exact((kY c).imp λh e=>absurd (e▸h) (oh _)).filter _
  .intro x u
   exact of_decide_eq_true (bZ.mp u).2
 exact⟨eV [fP (aZ bs) (c:Int),↑((eU (λ(x:Int)=>decide (x∈bx bs)) (gK c)).length)] 1 Y0 Z0 1 Z1 Z0 1 Y0 Z1 rfl (gX e) j7,⟨eV [fP (aZ bs) (c:Int),↑((gK c).length),↑((eU (λ(x:Int)=>decide (x∈bx bs)) (gK c)).length)] 1 Z0 Z1 1 Z2 Z1 1 Z0 Z2 rfl (ef h1) (iu e),eV [fP (aZ bs) (c:Int),↑((bx bs).length),↑((eU (λ(x:Int)=>decide (x∈bx bs)) (gK c)).length)] 1 Z0 Z1 1 Z2 Z1 1 Z0 Z2 rfl (ef h2) (iu e)⟩⟩
theorem Ng(c:Int):(th c).length≤4:=bU ..
theorem lS(h:cV bs R Rw){c:Nat}{q:RowT}(hq:q.2=gK c):lu bs q=nH (fP (aZ bs) (c:Int)).toNat (5*(th (c:Int)).length+(bx bs).length)∨16≤c:=by
 by_cases hc:c<16
 .left
  unfold lu;rw[JK h hq,hq,tg c hc];have:=(ky h hc).1;have e1:fP (aZ bs) (c:Int)=(((fP (aZ bs) (c:Int)).toNat:Nat):Int):=MZ (EO (EK this) (b7 (fP (aZ bs) ↑c))) (Oq (EK this) (b7 ↑(MD (fP (aZ bs) ↑c))));rw[e1,bM];rw[← rq]
  congr 1
 .right;exact cL hc
theorem wV(h:cV bs R Rw):0<(dw (aZ bs)).toNat∧(dw (aZ bs)).toNat≤40∧2*(df (aZ bs)).toNat≤(dw (aZ bs)).toNat:=by
 have v:=h.vf;have w:=h.wl;have b:dw (aZ bs)=gx (aZ bs)+5*sizeOf (aZ bs):=rfl;have h0:=v.m0;have hb:=v.mb;have h2:(0:Int)<dw (aZ bs):=I7 (Int.mul_pos (by decide) h0) hb;have e1:=dF (iX h0);have e2:=dF (iX h2);refine⟨gJ.mp (by rw[e2];exact h2),dt.mp ?_,dt.mp (by rw[dH,e1,e2];exact hb)⟩;rw[e2,b,← w.1];exact Int.add_le_add (dt.mpr w.2.2) (Int.mul_le_mul_of_nonneg_left v.z4 (by decide):5*sizeOf (aZ bs)≤5*4)
theorem qZ(h:cV bs R Rw){c:Nat}(hc:c<16):0<5*(th (c:Int)).length+(bx bs).length∧5*(th (c:Int)).length+(bx bs).length≤40∧2*(fP (aZ bs) (c:Int)).toNat≤5*(th (c:Int)).length+(bx bs).length:=by
 have w:=h.wl;have a:=ky h hc;have l:=tg c hc;have t:=Ng (c:Int);exact⟨ltN (ia [↑((th (c:Int)).length),↑((bx bs).length),↑((gK c).length)] 1 (.a Y0 Y1) (.a (.m 5 Z0) Z1) 1 Z2 (.m 5 Z0) 1 (.a Y0 Y1) Z1 1 Y0 Z2 rfl (vX l) (ef w.2.1) j7),⟨nU (eV [↑((th (c:Int)).length),↑((bx bs).length)] 1 (.a (.m 5 Z0) Z1) (.k 40) 5 Z0 (.k 4) 1 Z1 (.k 20) rfl (ef t) (ef w.2.2)),nU (yW [↑((fP (aZ bs) (c:Int)).toNat),↑((th (c:Int)).length),↑((bx bs).length),↑((gK c).length),fP (aZ bs) (c:Int)] 1 (.m 2 Z0) (.a (.m 5 Z1) Z2) 1 Z3 (.m 5 Z1) 1 Z4 Z3 1 Z4 Z2 2 Z0 Z4 rfl (vX l) a.2.1 a.2.2 (jb (cW [fP (aZ bs) (c:Int)] 1 Y0 Z0 1 Y0 Z0 rfl a.1)))⟩⟩
theorem DO(h:cV bs R Rw){c:Nat}(hc:c<16){q:RowT}(hq:q.2=gK c):qi bs q=pW (aZ bs) (c:Int):=by
 refine ku (qZ h hc) λt1 t2 t3=>?_;refine ku (wV h) λc1 c2 c3=>?_;unfold qi wW;rw[(lS h hq).resolve_right (λhh=>uH hc hh),tz t1 t2 t3 c1 c2 c3,h.vf.due c hc];have le:=h.vf.le c hc;have w:=h.wl;have a:=ky h hc;have m0:=h.vf.m0;have mb:=h.vf.mb;have e1:((df (aZ bs)).toNat:Int)=df (aZ bs):=EK (iX m0);have e2:((dw (aZ bs)).toNat:Int)=dw (aZ bs):=ny (cW [↑((dw (aZ bs)).toNat),dw (aZ bs)] 1 Z0 Z1 1 Z0 Z1 rfl (jb (eV [dw (aZ bs),df (aZ bs)] 1 Y0 Z0 1 (.m 2 Z1) Z0 2 (.a Y0 Y1) Z1 rfl mb m0))) (cW [dw (aZ bs),↑((dw (aZ bs)).toNat)] 1 Z0 Z1 1 Z0 Z1 rfl tq);have e3:((fP (aZ bs) (c:Int)).toNat:Int)=fP (aZ bs) (c:Int):=EK a.left;refine decide_eq_decide.mpr ?_;rw[← dt,dH,dH,e1,e2,e3,jz,dH,w.1];have e4:((5:Nat):Int)*((th (c:Int)).length:Int)+gx (aZ bs)=gx (aZ bs)+5*((th (c:Int)).length:Int):=gi ..;rw[e4];omega
theorem ul(h:cV bs R Rw)(h4:3<(bx bs).length)(hq:q.2=(bx bs).reverse):qi bs q=false∧AF bs q=1:=by
 have t:AF bs q=1:=by
  unfold AF;rw[hq,if_neg (Hg h4)]
 refine⟨?_,t⟩;refine ku (wV h) λc1 c2 c3=>?_;have w:=h.wl
 have e:lu bs q=nH 1 ((bx bs).length+(bx bs).length):=by
  unfold lu;rw[t,hq,bg,← rq]
  congr 1
 unfold qi wW;rw[e,tz (C3 (Gl w.right.left (eK (bx bs)))) (r8 (Nat.add_le_add w.right.right w.right.right) (bR true)) (nU (cW [↑((bx bs).length)] 1 (.m 2 Y1) (.a Z0 Z0) 2 (.a (.k 3) Y1) Z0 rfl (ef h4))) c1 c2 c3];refine decide_eq_false λu=>?_;have f:=h.vf.few.resolve_left (λhh=>(qz (ia [gx (aZ bs),↑((bx bs).length)] 1 Y0 (.k (-1)) 1 (.a Z0 Y1) (.k 4) 1 Z1 Z0 1 (.a (.k 3) Y1) Z1 rfl hh (gX w.1) (ef h4))));have m0:=h.vf.m0;have mb:=h.vf.mb;have e1:((df (aZ bs)).toNat:Int)=df (aZ bs):=EK (iX m0);have e2:((dw (aZ bs)).toNat:Int)=dw (aZ bs):=ny (cW [↑((dw (aZ bs)).toNat),dw (aZ bs)] 1 Z0 Z1 1 Z0 Z1 rfl (jb (eV [dw (aZ bs),df (aZ bs)] 1 Y0 Z0 1 (.m 2 Z1) Z0 2 (.a Y0 Y1) Z1 rfl mb m0))) (cW [dw (aZ bs),↑((dw (aZ bs)).toNat)] 1 Z0 Z1 1 Z0 Z1 rfl tq);rw[← dt,dH,dH,e1,e2,jz,w.1] at u;rw[Int.mul_comm (2*gx (aZ bs)),← Aw,Int.mul_comm _ 2,Aw] at f;rw[Go] at u;lia
theorem Ja(h:cV bs R Rw)(hq:q∈R):(∃c,c<16∧q=Rw.getD c (0,[])∧q.2=gK c)∨(3<(bx bs).length∧q.2=(bx bs).reverse):=by
 have g:q∈Rw→∃c,c<16∧q=Rw.getD c (0,[])∧q.2=gK c:=λhq=>by
  refine fN (h.idx hq) λc hc e=>?_;exact(c9 c hc e (by rw[e];exact(h.get hc).1))
 rcases h.hR with e|⟨h3,a,e⟩
 .rw[e] at hq;exact .inl (g hq)
 .rw[e] at hq
  rcases aC.mp hq with hq|hq
  .exact .inl (g hq)
  .rw[az.mp hq];exact .inr ⟨h3,rfl⟩
theorem Dm(h:cV bs R Rw)(hq:q∈R)(ht:pM q.2 (bx bs) 0 q.2.length 0 (bx bs).length t):t=AF bs q:=by
 rcases Ja h hq with ⟨c,hc,_,e⟩|⟨h3,e⟩
 .unfold AF
  rw[e] at ht ⊢;rw[if_pos (kY c)];exact zg (kY c) iZ ht
 .rw[(ul h h3 e).2]
  rw[e] at ht;exact G7 iZ (aO (il 2) (aN h3)) ht
theorem JV(h:cV bs R Rw):Rw=(aV 16).map λc=>Rw.getD c (0,[]):=by
 refine ot (by rw[aE,de,h.len]) λi h1 h2=>?_;rw[cI,mF,ay,am h1];rfl
theorem A7(h:cV bs R Rw):R.filter (qi bs)=dR (aZ bs) Rw:=by
 have u:Rw.filter (qi bs)=dR (aZ bs) Rw:=by
  unfold dR;have e:Rw.filter (qi bs)=((aV 16).map λc=>Rw.getD c (0,[])).filter (qi bs):=congrArg (eU (qi bs)) (JV h);rw[e,wA];refine congrArg _ (nF λc hc=>?_);exact DO h (bE.mp hc) (h.get (bE.mp hc)).1
 rcases h.hR with e|⟨h3,a,e⟩
 .rw[e];exact u
 .rw[e,cJ,u,fH,if_neg (by rw[(ul h h3 (q:=(a,(bx bs).reverse)) rfl).1];decide)]
  exact iq _
theorem Fu(vs:List Int):(dR vs Rw).length≤16:=by
 unfold dR;rw[aE];exact bU ..
end
section
variable {bs:List Int}{R Rw:List RowT}
theorem Rd{a b:Nat} : (if (a:Int)<(b:Int) then (a:Int) else (b:Int))=((if a<b then a else b:Nat):Int):=by
 by_cases h:a<b
 .rw[if_pos h,if_pos (gJ.mpr h)]
 .rw[if_neg h,if_neg λg=>h (gJ.mp g)]
theorem Rh{a b:Nat} : 2*(if a<b then a else b)≤b+a:=by
 by_cases h:a<b
 .rw[if_pos h,Nat.two_mul]
  exact fh (aN h) a
 .rw[if_neg h,Nat.two_mul]
  exact bu (cL h) b
theorem RZ{a b c:Nat}(h1:c≤a)(h2:c≤b):c≤if a<b then a else b:=by
 by_cases h:a<b
 .rw[if_pos h]
  exact h1
 .rw[if_neg h]
  exact h2
theorem Kv(h:cV bs R Rw)(hq:q∈R)(hp:HX (kq (AF bs q) ((q.2.length:Int)+((bx bs).length:Int))) (wW (aZ bs))=true):
  HX (kq ((q.2.filter (·∈bx bs)).length:Int) ((q.2.length:Int)+((bx bs).length:Int))) (wW (aZ bs))=true∧HX (kq (if ((bx bs).length:Int)<(q.2.length:Int) then ((bx bs).length:Int) else (q.2.length:Int)) ((q.2.length:Int)+((bx bs).length:Int))) (wW (aZ bs))=true:=by
 rcases Ja h hq with ⟨c,hc,_,e⟩|⟨h3,e⟩
 .have t:AF bs q=((q.2.filter λx=>decide (x∈bx bs)).length:Nat):=by
   unfold AF;rw[e,if_pos (kY c)]
  refine⟨by rw[t] at hp;exact hp,?_⟩;refine ku (qZ h hc) λt1 t2 t3=>?_;refine ku (wV h) λc1 c2 c3=>?_;have hs:=lS h e;have u:HX (lu bs q) (wW (aZ bs))=true:=hp;rw[hs.resolve_right (λhh=>uH hc hh)] at u;unfold wW at u ⊢;rw[tz t1 t2 t3 c1 c2 c3] at u;have u:=of_decide_eq_true u;have a:=ky h hc;have l:=tg c hc
  have el:q.2.length=5*(th (c:Int)).length:=by rw[e,l]
  have B:((q.2.length:Int)+((bx bs).length:Int))=((5*(th (c:Int)).length+(bx bs).length:Nat):Int):=ny (cW [q.snd.length,↑((bx bs).length),↑((th (c:Int)).length)] 1 (.a Z0 Z1) (.a (.m 5 Z2) Z1) 1 Z0 (.m 5 Z2) rfl (vX el)) (cW [↑((th (c:Int)).length),↑((bx bs).length),q.snd.length] 1 (.a (.m 5 Z0) Z1) (.a Z2 Z1) 1 (.m 5 Z0) Z2 rfl (l9 el));have z:(if ((bx bs).length:Int)<(q.2.length:Int) then ((bx bs).length:Int) else (q.2.length:Int))=((if (bx bs).length<q.2.length then (bx bs).length else q.2.length:Nat):Int):=Rd;rw[B,z,rq,tz t1 t2 (el▸Rh) c1 c2 c3];refine decide_eq_true (aw u (ll _ (RZ (CW.mpr a.2.2) (CW.mpr (by rw[e];exact a.2.1)))))
 .have:=(ul h h3 e).1
  unfold qi lu at this;rw[this] at hp;cases hp
theorem ma(h:cV bs R Rw)(hq:q∈dR (aZ bs) Rw):∃c,c<16∧q=Rw.getD c (0,[])∧q.2=gK c∧pW (aZ bs) (c:Int)=true:=by
 unfold dR at hq;refine fN (eA.mp hq) λc hc e=>?_;subst e;refine b8 (bZ.mp hc) λh1 h2=>?_;exact(Oz c (bE.mp h1) rfl ((h.get (bE.mp h1)).1) h2)
theorem xJ(h:cV bs R Rw)(hq:q∈dR (aZ bs) Rw)(J:O∈dR (aZ bs) Rw):lu bs q=lu bs O:=by
 refine sJ (ma h hq) λc hc _ e d=>?_;refine sJ (ma h J) λc' u _ e' H=>?_;rw[(lS h e).resolve_right (λhh=>uH hc hh),(lS h e').resolve_right (λhh=>uH u hh)];refine ku (qZ h hc) λt1 t2 t3=>?_;refine ku (qZ h u) λu1 u2 u3=>?_;refine(pn t1 t2 t3 u1 u2 u3).2 ?_;rw[h.vf.due c hc] at d;rw[h.vf.due c' u] at H;have d:=of_decide_eq_true d;have H:=of_decide_eq_true H;have w:=h.wl;have a:=ky h hc;have a':=ky h u;have m0:=h.vf.m0;have mb:=h.vf.mb;generalize (th (c:Int)).length=k at *;generalize (th (c':Int)).length=G at *;generalize fP (aZ bs) (c:Int)=x at *;generalize fP (aZ bs) (c':Int)=z at *;generalize df (aZ bs)=M at *;generalize dw (aZ bs)=B at *;generalize gx (aZ bs)=n at *
 have g:x*(n+5*(G:Int))=z*(n+5*(k:Int)):=by
  refine Int.eq_of_mul_eq_mul_right (a:=B) (λhh=>(qz (ia [B,M] 2 Y0 (.k (-1)) 1 Z0 Y0 1 (.m 2 Z1) Z0 2 (.a Y0 Y1) Z1 rfl (gX hh) mb m0))) ?_;rw[io,← d,io z,← H,io]
 have e1:((x.toNat:Nat):Int)=x:=EK a.left;have e2:((z.toNat:Nat):Int)=z:=EK a'.left;refine Int.ofNat.inj ?_;refine(?_:((x.toNat*(5*G+(bx bs).length):Nat):Int)=((z.toNat*(5*k+(bx bs).length):Nat):Int));rw[dH,dH,e1,e2,jz,jz,dH,dH,w.1];have Y:((5:Nat):Int)*(G:Int)+n=n+5*(G:Int):=gi ..;have U:((5:Nat):Int)*(k:Int)+n=n+5*(k:Int):=gi ..;rw[Y,U,g]
theorem rd(h:cV bs R Rw)(hc:c<16)(e:q.2=gK c):cY (lu bs q) (lu bs q)=some dk:=by
 rw[(lS h e).resolve_right (λhh=>uH hc hh)];refine ku (qZ h hc) λt1 t2 t3=>?_;exact DH t1 t2 t3
theorem O9(h:cV bs R Rw):(Rw.map (·.1)).Nodup:=by
 have:=h.nd
 rcases h.hR with e|⟨_,a,e⟩
 .rw[e] at this;exact this
 .rw[e,aX] at this
  exact this.sublist (List.sublist_append_left ..)
theorem L4(h:cV bs R Rw)(hc:c<16)(u:c'<16)(e:(Rw.getD c (0,[])).1=(Rw.getD c' (0,[])).1):c=c':=by
 have hl:=h.len;rw[ay,ay,am (pV hl hc),am (pV hl u)] at e;have nd:=cf.mp (O9 h)
 rcases j4 c c' with g|g|g
 .refine absurd ?_ (nd c c' (by simp;exact pV hl hc) (by simp;exact pV hl u) g)
  rw[cI,cI];exact e
 .exact g
 .refine absurd ?_ (nd c' c (by simp;exact pV hl u) (by simp;exact pV hl hc) g)
  rw[cI,cI];exact e.symm
theorem Ft(h:cV bs R Rw):((dR (aZ bs) Rw).map (·.1)).Nodup:=by
 unfold dR;rw[iU];refine jQ.mpr ?_;have nd:((aV 16).filter (λc:Nat=>pW (aZ bs) (c:Int))).Nodup:=JC.filter _;refine nd.imp_of_mem λ{a b} ha hb hne e=>hne ?_;exact L4 h (bE.mp (bZ.mp ha).1) (bE.mp (bZ.mp hb).1) e
theorem uT(h:cV bs R Rw)(hq:q∈dR (aZ bs) Rw)(u:G∈dR (aZ bs) Rw)(hne:q.1≠G.1):q.2≠G.2:=by
 refine sJ (ma h hq) λc hc e0 e _=>?_;refine sJ (ma h u) λc' z B H _=>?_;intro g;rw[e,H] at g;have:=He c hc c' z g;subst this;exact hne (by rw[e0,B])
structure kn(vs:List Int)(Rw NR:List RowT):Prop where
 perm:NR.Perm (dR vs Rw)
 desc:NR.Pairwise (λa b=>jF b.2 a.2=true)
theorem EC(a b:List Int)(h:jF a b=true):¬jF b a=true:=by
 intro h2;have:=pu h h2;rw[qA] at this;cases this
theorem kn.eq(h:kn vs Rw A)(g:kn vs Rw B):A=B:=
 zW (r:=λa b:RowT=>jF b.2 a.2=true) (λx y h1 h2=>EC _ _ h1 h2) h.desc g.desc λx=>by rw[h.perm.mem_iff,g.perm.mem_iff]
theorem Hs(h:cV bs R Rw)(ho:outs.map (·.2)=dR (aZ bs) Rw)(hr:wt (lu bs) outs outs2):kn (aZ bs) Rw (outs2.map (·.2)):=by
 have hm:∀o∈outs,o.2∈dR (aZ bs) Rw:=λo h1=>by rw[← ho];exact fZ h1
 refine b8 hr λp f=>?_
 try clear hr
 refine⟨by rw[← ho];exact p.map _,?_⟩;refine jQ.mpr (f (λo h1 o' h2=>xJ h (hm o h1) (hm o' h2)) (λo h1=>?_) ?_ (λo h1 o' h2 hne=>uT h (hm o h1) (hm o' h2) hne))
 .refine sJ (ma h (hm o h1)) λc hc _ e _=>?_
  exact rd h hc e
 .have:=Ft h
  rw[← ho,iU] at this;exact this
end
end
section
open W PyProof.Rows
end
section
open W PyProof Rows Mine
theorem RT{p:Prop}[Decidable p]{a b k:Nat}(ha:a<k)(hb:b<k):(if p then (a:Int) else (b:Int)).natAbs<k:=by
 split
 .exact ha
 .exact hb
theorem JX{τ:Nat→Tok}{d:Nat→Value}{N:Ns}{S D la lb:Addr}{n ea eb:Nat}{va vb:List Value}(h3:3≤n)(h1:d 1=.ref la)(h2:d 2=.ref lb)(z:(la,listOf va.toArray ea)∈N)(e:(lb,listOf vb.toArray eb)∈N)(ha:va.length≤1000)(hb:vb.length≤1000)(h0:0<vb.length):
  fk W0 275 [.ref S] (SL W0 S D τ d n N) 2 6 (Mb (nK (if (vb.length:Int)<(va.length:Int) then (vb.length:Int) else (va.length:Int)) ((va.length:Int)+(vb.length:Int))) (SL W0 S D τ d n N)):=
 li (body:=mB 12) (scope:=mS 12) (binds:=[("self",.ref S)]) (by with_unfolding_all rfl) (by with_unfolding_all rfl) (λs X=>dG rfl) (sw rfl) rfl rfl rfl (by decide) λc hd hu=>by
  refine g9 (sk (kz cR (gM nr 1 (ao rfl) (zH) (zT (zH)) h1 rfl (ly h3)) (bk 2 z) ha) (kz cR (gM nr 2 (ao rfl) (zH) (zT (zH)) h2 rfl (ly h3)) (bk 2 e) hb) λt1 t2=>?_);exact mX (wk (λt u=>Bj (RT (aK hb (by decide)) (aK ha (by decide))) (eV [va.length,vb.length] 1 (.a Y0 Y1) (.a Z0 Z1) 1 (.a Y0 Y1) Z1 1 Y0 Z0 rfl (ef h0) j7) (eV [va.length,vb.length] 1 (.a (.a Z0 Z1) Y1) (.k (2 ^ 20)) 1 Z1 (.k 1000) 1 Z0 (.k 1000) rfl (ef hb) (ef ha))) fV (E8 cR (ag rfl) (ag rfl)) (eg (ag rfl) (ag rfl)) (by with_unfolding_all rfl) (dl hd) (dl hu) rfl) λv n' h=>h
section
variable {τ:Nat→Tok}{d:Nat→Value}{N:Ns}{S D la lb fb:Addr}{ea eb:Nat}{va vb:List Value}{xs ys:List Int}{oF:Obj}{kvF:List (Int×Value)}
inductive So(x:UInt64)(n:Ns)(f:vd)(m:Lo)(n':Ns):Prop
 | mk (t:Tok) (hf:f=.ret (.float x t)) (hn:n'=n)
theorem AM{c:Fm W0 (mS 11)}{m:Lo}(hd:c.dp+2<aH)(hu:c.un+6<cX)(hs:m "self"=some (.ref S))(h1:d 1=.ref la)(h2:d 2=.ref lb)(h6:d 6=.ref fb)(G:(la,listOf va.toArray ea)∈N)(aj:(lb,listOf vb.toArray eb)∈N)(B:au va xs)(z:au vb ys)(e:xs.length≤32)(U:ys.length≤32)(aa:xs.Nodup)(Y:0<ys.length)(hF:(fb,oF)∈N)(ap:nX W0 oF kvF)(hB:FB ys kvF)(J:(fb==cP)=false):
  cN c m (SL W0 S D τ d 10 N) ((mB 11).drop 2) (So (nK ((xs.filter (·∈ys)).length:Int) ((xs.length:Int)+(ys.length:Int))) (SL W0 S D τ d 10 N)):=by
 refine(?_:cN c _ _ (.Assign [.Name "fullbcount" _] (.Attribute (.Name "self" _) "fullbcount" _) _::.Assign [.Name "avail" _] (.Dict [] [] _) _::.Assign [.Tuple _ _ _] (.Tuple [.Attribute (.Name "avail" _) "__contains__" _,.Constant (.int 0) _ _] _ _) _::oL 11 5::.Return (some (.Call (.Name "_calculate_ratio" _) [.Name "matches" _,.BinOp (.Call (.Name "len" _) [.Attribute (.Name "self" _) "a" _] [] _) .Add (.Call (.Name "len" _) [.Attribute (.Name "self" _) "b" _] [] _) _] [] _)) _::[]) _);have ar:((xs.filter (·∈ys))).length≤32:=aw (bU _ _) e;refine tB (gM nr 6 (ao hs) (zH) (zT (zH)) h6 rfl) ?_;refine dL oS ?_;rintro v n1 ⟨av,oA,rfl,rfl,hA,O,lA⟩;refine B6 (Ik (ao cZ) (zH) hA) (λ_ _ _=>bf) ?_;rintro v n2 t2 ⟨q,lq⟩
 have hK:QK (cj (cj (cj (cj m "fullbcount" (.ref fb)) "avail" (.ref av)) "matches" (.int 0 t2)) "availhas" (.ref q)) S q av fb:=⟨bc (bc (bc (bc hs))),cZ,bc (bc cZ),bc (bc (bc cZ))⟩
 have ab:cj (cj (cj (cj m "fullbcount" (.ref fb)) "avail" (.ref av)) "matches" (.int 0 t2)) "availhas" (.ref q) "matches"=some (.int 0 t2):=bc cZ;have off:∀p∈(q,cg "dict.__contains__" (.ref av))::SL W0 S D τ d 10 N,p.1≠av:=FC (aF (lq (av,oA) (zH))) λp hp=>aB (lA p hp);refine cO (n':=(av,oA)::(q,cg "dict.__contains__" (.ref av))::SL W0 S D τ d 10 N) ?_ (iB [1,0] 2 rfl);refine Hi (N0:=(q,cg "dict.__contains__" (.ref av))::SL W0 S D τ d 10 N) (gM nr 1 (ao hK.s) (a8 2 rfl) (a8 3 rfl) h1 rfl) (bk 3 G) B aa e hK ab rfl hA O off (zH) (bk 3 hF) ap hB J ?_;intro m' o' t H ah;have za:va.length≤32:=B.length▸e;have zb:vb.length≤32:=z.length▸U;have z0:0<vb.length:=z.length▸Y;refine cO (n':=SL W0 S D τ d 10 N) (mX (wk (λt u=>Bj (a:=((xs.filter (·∈ys)).length:Int)) (b:=(va.length:Int)+(vb.length:Int)) (uu (R6 ar) (bR true)) (eV [va.length,vb.length] 1 (.a Y0 Y1) (.a Z0 Z1) 1 (.a Y0 Y1) Z1 1 Y0 Z0 rfl (ef z0) j7) (eV [va.length,vb.length] 1 (.a (.a Z0 Z1) Y1) (.k (2 ^ 20)) 1 Z1 (.k 32) 1 Z0 (.k 32) rfl (ef zb) (ef za))) fV (ag ah) (eg (kz cR (gM nr 1 (ao H.s) (zH) (zT (zH)) h1 rfl) (bk 2 G) (aw za (by decide))) (kz cR (gM nr 2 (ao H.s) (zH) (zT (zH)) h2 rfl) (bk 2 aj) (aw zb (by decide)))) (by with_unfolding_all rfl) (dl hd) (dl hu) rfl) ?_) (λp hp=>bk 2 hp);rintro v n3 ⟨t3⟩;rw[B.length,z.length];exact⟨t3,rfl,rfl⟩
inductive Sp(W0:World)(S D:Addr)(τ:Nat→Tok)(d:Nat→Value)(N:Ns)(x:UInt64)(ys:List Int)(v:Value)(n':Ns):Prop
 | mk (t:Tok) (fb:Addr) (oF:Obj) (kvF:List (Int×Value)) (hv:v=.float x t) (e1:nX W0 oF kvF) (e2:FB ys kvF) (e3:(fb==cP)=false) (e4:d 6=.ref fb∨∀x∈SL W0 S D τ d 10 N,@aR Nat _ x.1 fb) (sub:∀p∈SL W0 S D τ (dr d 6 (.ref fb)) 10 ((fb,oF)::N),p∈n')
theorem Nq(d1:@Ne Nat S D)(dN:∀p∈N,p.1≠D)(h1:d 1=.ref la)(h2:d 2=.ref lb)(h6:d 6=.none∨∃fb oF kvF,d 6=.ref fb∧(fb,oF)∈N∧nX W0 oF kvF∧FB ys kvF∧(fb==cP)=false)(aa:(la,listOf va.toArray ea)∈N)(G:(lb,listOf vb.toArray eb)∈N)(ah:au va xs)(H:au vb ys)(U:xs.length≤32)(B:ys.length≤32)(Y:xs.Nodup)(ar:ys.Nodup)(O:0<ys.length):
  fk W0 268 [.ref S] (SL W0 S D τ d 10 N) 3 9 (Sp W0 S D τ d N (nK ((xs.filter (·∈ys)).length:Int) ((xs.length:Int)+(ys.length:Int))) ys):=
 li (body:=mB 11) (scope:=mS 11) (binds:=[("self",.ref S)]) (by with_unfolding_all rfl) (by with_unfolding_all rfl) (λs X=>dG rfl) (sw rfl) rfl rfl rfl (by decide) λc hd hu=>by
  refine(?_:cN c _ _ (.Expr (.Constant (.str _) _ _) _::.If (.Compare (.Attribute (.Name "self" _) "fullbcount" _) [.Is] [.Constant .none _ _] _) (.Assign [.Attribute (.Name "self" _) "fullbcount" _,.Name "fullbcount" _] (.Dict [] [] _) _::PX::[]) [] _::(mB 11).drop 2) _);refine g9 ?_;have hs:(λy=>([("self",.ref S)]:List (Str×Value)).reverse.lookup y) "self"=some (.ref S):=rfl;revert hs;generalize (λy=>([("self",.ref S)]:List (Str×Value)).reverse.lookup y)=m;intro hs
  rcases h6 with h6|⟨fb,oF,kvF,h6,hF,z,hB,u⟩
  .refine dE (ze (gM nr 6 (ao hs) (zH) (zT (zH)) h6 rfl) gP) (λ_=>?_) (λh=>bI h)
   refine tE nr 6 d1 oS (λ_=>ao hs) ?_;rintro v n1 ⟨fb,oF,rfl,rfl,z,u,J⟩;have nf:@Ne Nat fb D:=aF (J _ (zT (zH)));refine⟨(fb,oF)::N,Jd,FC nf dN,λas e=>?_⟩;cases e (by decide);refine cO (n':=(fb,oF)::SL W0 S D τ (dr d 6 (.ref fb)) 10 N) ?_ Pq;refine Hj (N0:=SL W0 S D τ (dr d 6 (.ref fb)) 10 N) (gM nr 2 (ao (bc hs)) (a8 1 rfl) (a8 2 rfl) h2 rfl) (bk 2 G) H ar B (S:=S) (fb:=fb) (bc hs) cZ rfl z u (λp hp=>aB ?_) ?_
   .exact FC (P:=λp=>@aR Nat _ p.1 fb) (J _ (zH)) (FC (J (D,_) (zT (zH))) λp hp=>J p (bk 2 hp)) p hp
   intro m' o' kvs ap ab aj;refine bQ (cO (lg (AM (τ:=τ) (d:=dr d 6 (.ref fb)) (N:=(fb,o')::N) (dl hd) (dl hu) ap h1 h2 rfl (zT aa) (zT G) ah H U B Y O (zH) ab aj u) ?_) Jd);rintro f m2 n2 ⟨t,rfl,rfl⟩;exact⟨t,fb,o',kvs,rfl,ab,aj,u,.inr J,λp hp=>hp⟩
  .refine dE (oz (t:=false) (gM nr 6 (ao hs) (zH) (zT (zH)) h6 rfl) gP (.other rfl (λe=>nomatch e))) (λh=>bI h) λ_=>bQ (lg (AM (dl hd) (dl hu) hs h1 h2 h6 aa G ah H U B Y O hF z hB u) ?_)
   rintro f m2 n2 ⟨t,rfl,rfl⟩
   have ed:dr d 6 (.ref fb)=d:=funext λj=>((I8 (j=6)).elim (λe=>(if_pos e).trans (e▸h6.symm)) λe=>if_neg e:(if j=6 then bG fb else d j)=d j)
   exact⟨t,fb,oF,kvF,rfl,z,hB,u,.inl h6,by rw[ed];exact FC (zH) (FC (a8 1 rfl) (FC (bk 2 hF) λp hp=>bk 2 hp))⟩
end
end
section
open W PyProof.Rows
theorem kw_CM_0:True:=by
 k_with_none
 k_with "zgetMethod type:tuple"=>(k_here;k_dflt (refine' AH ?F ?X ?g ?s ?e ?_;(case F=>k_asm);(case X=>k_asm);(case g=>k_is);(case s=>k_is);(case e=>k_is);k_whole))
 k_with "zcall builtin:tuple.__new__"=>(k_here;k_dflt (refine' AI ?F ?N ?X ?t ?hC ?e4 ?e3 ?e5 ?k6 ?e6 ?z ?ty ?i ?_;(case F=>k_asm);(case N=>k_asm);(case X=>k_asm);(case t=>exact News.isTup (by k_asm) (by k_mem));(case hC=>exact rfl);(case e4=>exact rfl);(case e3=>exact rfl);(case e5=>exact rfl);(case k6=>k_is);(case e6=>exact rfl);(case z=>rw[eQ];exact dC rfl);(case ty=>exact x5 (by k_asm) (by k_asm) rfl);(case i=>k_is);k_whole);intro z9hp z9rp z9dxp z9Fp z9Np z9l1)
 trivial
theorem Iv{t2:Tok}{t3:Tok}
  (B:qU A₀ base outer h₀) (F:Fr h₀ L s.heap m) (X:(hd.heap_1 W0.params).In h₀) (N:ba h₀ L s.heap news) (T:Top gp gl mean mg mb h₀) (hk:cs.kind=.function)
  (hd1:dp+6<aH) (hu:un+60<cX)
  (hret:∀(r dx:Addr) (h':Heap) (tk':Nat),Fr h₀ L h' m→ba h₀ L h' ((r,dW dx x y z t1 t2 t3)::news)→(∀p∈news,p.1<r)→Q (.ref r) {s with heap:=h',toks:=tk'}):
  aA (aq cH.row.prog W0) (ij dp un gd cn cs L a ccd cl outer) (call (.ref 171) [.int x t1,.int y t2,.int z t3]) Q E s:=by
 revert X
 k_fill
 intro X;obtain ⟨hp,g,d,t,os⟩:=s;refine' eG (Ez (K:=hd.heap_1 W0.params) (C:=171) (p:=172) (fv:=.ref 118) F X rfl rfl rfl ?e7 ?e8 ?k1 ?k2 ?k3 ?k4 ?k5 ?k6 ?k7 ?ha ?hr ?hi ?hq)
 case e7=>k_is
 case e8=>k_is
 case k1=>k_is
 case k2=>k_is
 case k3=>k_is
 case k4=>k_is
 case k5=>decide +kernel
 case k6=>k_is
 case k7=>k_is
 case ha=>intro a;unfold g5;kernel_rfl
 case hr=>exact List.cons_ne_nil _ _
 case hi=>k_is
 refine eG ?_
 k_dflt ktr_enter
 k_steps
 ·(rename ba _ _ _ _=>NZ);exact(kI (NZ _ (zH)).1).andThen .now
 .rename Fr _ _ _ _=>FZ
  rename ba _ _ _ _=>NZ;refine hret _ _ _ _ FZ (cm NZ (zC ⟨zH,λp hp=>zT (zT hp)⟩)) (λp hp=>?_);refine' zJ ?h (zT hp)
  case h=>assumption
end
section
open W PyProof Rows
section
variable {c:Fm W0 (mS 6)}{m:Lo}{n:Ns}{R:Re}{xs ys:List Int}{va vb:List Value}{ep1 ep2:Nat}{la lb lj lk q nl:Addr}{led:Bool}{alo ahi blo bhi:Int}{u1 u2 u3 u4:Tok}{rest:List Stmt}{N:Ns}
inductive MQ(c:Fm W0 (mS 6))(xs ys:List Int)(la lb lj q nl:Addr)(alo ahi blo bhi:Int)(u1 u2 u3 u4:Tok)(N:Ns)(ms:Int→Int→Nat)(k:Nat)(m:Lo)(n:Ns):Prop
 | mk (bi bj bs:Int) (t1 t2 t3:Tok) (z0:IL m la lb lj q nl alo ahi blo bhi u1 u2 u3 u4) (z1:Mc m bi bj bs t1 t2 t3) (z2:BI xs ys alo blo bhi (ahi-alo).toNat bi bj bs) (z3:n=N) (z4:k=ms bi bs)
inductive Sx(xs ys:List Int)(alo ahi blo bhi:Int)(H:Ns)(f:vd)(n':Ns):Prop
 | mk (bi bj bs:Int) (w1 w2 w3:Tok) (r dx:Addr) (hf:f=.ret (.ref r)) (hb:BI xs ys alo blo bhi (ahi-alo).toNat bi bj bs) (hn:n'=(r,dW dx bi bj bs w1 w2 w3)::H) (hl:∀p∈H,p.1<r)
theorem Rq{a b c:Bool}(h:(a&&(b&&(!false&&(c&&true))))=true):a=true∧b=true∧c=true:=by
 cases a<;>cases b<;>cases c<;>first|exact bI h|exact⟨rfl,rfl,rfl⟩
theorem Rs:∀{a b:Bool},¬(a&&(b&&false))=true:=by decide
theorem Pu{al ah b k:Int}{n:Nat}(u:0≤al)(e:ah≤n)(hl:n≤32)(hb:b+k≤ah)(h0:0≤k)(h:decide (al<b)=true):0≤b-1∧b-1<n∧b-1<2 ^ 63∧(b-1).toNat<n∧(b-1).toNat<b.toNat:=by
 have:=of_decide_eq_true h;omega
theorem Pt{al ah b k:Int}{n:Nat}(u:0≤al)(e:ah≤n)(hl:n≤32)(hb:al≤b)(h0:0≤k)(h:decide (b+k<ah)=true):0≤b+k∧b+k<n∧b+k<2 ^ 63∧(b+k).toNat<n∧(ah-b-(k+1)).toNat<(ah-b-k).toNat:=by
 have:=of_decide_eq_true h;omega
theorem Lg(aa:(la,listOf va.toArray ep1)∈N)(ab:au va xs)(z:(lb,listOf vb.toArray ep2)∈N)(G:au vb ys)(hq:(q,cg "set.__contains__" (.ref lk))∈N)(O:(lk,dA led)∈N)(J:xs.length≤32)(H:ys.length≤32)(q1:0≤alo)(Y:alo≤ahi)(q3:ahi≤xs.length)(q4:0≤blo)(q5:blo≤bhi)(q6:bhi≤ys.length)
  (hJ:MQ c xs ys la lb lj q nl alo ahi blo bhi u1 u2 u3 u4 N ms k m n) (U:∀m k,MQ c xs ys la lb lj q nl alo ahi blo bhi u1 u2 u3 u4 N (λ_ _=>0) k m N→cN c m N rest R):cN c m n (oL 6 8::oL 6 9::oL 6 10::oL 6 11::rest) R:=by
 obtain ⟨bi,bj,bs,t1,t2,t3,hK,hB,u,rfl,rfl⟩:=hJ;refine jG (MQ c xs ys la lb lj q nl alo ahi blo bhi u1 u2 u3 u4 n λbi _=>bi.toNat) ⟨bi,bj,bs,t1,t2,t3,hK,hB,u,rfl,rfl⟩ ?_;clear hK hB u;rintro k m n1 ⟨bi,bj,bs,t1,t2,t3,hK,hB,u,rfl,rfl⟩;have e:=pL u Y q5;have A h:=Pu q1 q3 J e.2.1 e.2.2.2.2 h;have B h:=Pu q4 q6 H e.2.2.2.1 e.2.2.2.2 h;refine(c9 _ (fU (eJ qk (ag hB.i) (ag hK.al)) λh1=>fU (eJ qk (ag hB.j) (ag hK.bl)) λh2=>fU (qt (nq (rz (ao hK.q) (ft (ao hK.b) (jo (ag hB.j) bf) z G (B h2).1 (B h2).2.1 (B h2).2.2.1) hq O))) λ_=>fU (eJ wp (ft (ao hK.a) (jo (ag hB.i) bf) aa ab (A h1).1 (A h1).2.1 (A h1).2.2.1) (ft (ao hK.b) (jo (ag hB.j) bf) z G (B h2).1 (B h2).2.1 (B h2).2.2.1)) λ_=>iV) (λhb=>?_) (λhb=>?_))
 .refine ku (Rq hb) λh1 h2 h3=>?_
  clear hb;refine pE (jo (ag hB.i) bf) (jo (ag hB.j) bf) (eg (ag hB.s) bf) λt4 t5 t6=>?_;exact cb (db ((bi-1).toNat) (A h1).2.2.2.2 ⟨bi-1,bj-1,bs+1,t4,t5,t6,((hK.up (by decide)).up (by decide)).up (by decide),⟨cZ,bc cZ,bc (bc cZ)⟩,IC u (of_decide_eq_true h1) (of_decide_eq_true h2) (A h1).2.2.2.1 (B h2).2.2.2.1 (of_decide_eq_true h3),rfl,rfl⟩)
 clear hb e;refine jG (MQ c xs ys la lb lj q nl alo ahi blo bhi u1 u2 u3 u4 n1 λbi bs=>(ahi-bi-bs).toNat) ⟨bi,bj,bs,t1,t2,t3,hK,hB,u,rfl,rfl⟩ ?_;clear hK hB u;rintro k m n1 ⟨bi,bj,bs,t1,t2,t3,hK,hB,u,rfl,rfl⟩;have e:=pL u Y q5;have A h:=Pt q1 q3 J e.1 e.2.2.2.2 h;have B h:=Pt q4 q6 H e.2.2.1 e.2.2.2.2 h;refine(c9 _ (fU (eJ lh (eg (ag hB.i) (ag hB.s)) (ag hK.ah)) λh1=>fU (eJ lh (eg (ag hB.j) (ag hB.s)) (ag hK.bh)) λh2=>fU (qt (nq (rz (ao hK.q) (ft (ao hK.b) (eg (ag hB.j) (ag hB.s)) z G (B h2).1 (B h2).2.1 (B h2).2.2.1) hq O))) λ_=>fU (eJ wp (ft (ao hK.a) (eg (ag hB.i) (ag hB.s)) aa ab (A h1).1 (A h1).2.1 (A h1).2.2.1) (ft (ao hK.b) (eg (ag hB.j) (ag hB.s)) z G (B h2).1 (B h2).2.1 (B h2).2.2.1)) λ_=>iV) (λhb=>?_) (λhb=>?_))
 .refine ku (Rq hb) λh1 h2 h3=>?_
  clear hb;refine ye hB.s bf λt4=>?_;exact cb (db ((ahi-bi-(bs+1)).toNat) (A h1).2.2.2.2 ⟨bi,bj,bs+1,t1,t2,t4,hK.up (by decide),⟨bc hB.i,bc hB.j,cZ⟩,FU u Y (of_decide_eq_true h1) (of_decide_eq_true h2) (A h1).2.2.2.1 (B h2).2.2.2.1 (of_decide_eq_true h3),rfl,rfl⟩)
 clear hb e;refine jG (MQ c xs ys la lb lj q nl alo ahi blo bhi u1 u2 u3 u4 n1 λ_ _=>0) ⟨bi,bj,bs,t1,t2,t3,hK,hB,u,rfl,rfl⟩ ?_;clear hK hB u;rintro k m n1 ⟨bi,bj,bs,t1,t2,t3,hK,hB,u,rfl,rfl⟩;have e:=pL u Y q5;have A h:=Pu q1 q3 J e.2.1 e.2.2.2.2 h;have B h:=Pu q4 q6 H e.2.2.2.1 e.2.2.2.2 h;refine(c9 _ (fU (eJ qk (ag hB.i) (ag hK.al)) λh1=>fU (eJ qk (ag hB.j) (ag hK.bl)) λh2=>fU (d:=false) (nq (rz (ao hK.q) (ft (ao hK.b) (jo (ag hB.j) bf) z G (B h2).1 (B h2).2.1 (B h2).2.2.1) hq O)) λh=>(bI h)) (λhb=>?_) (λhb=>?_))
 .exact(Rs hb).elim
 clear hb e;refine jG (MQ c xs ys la lb lj q nl alo ahi blo bhi u1 u2 u3 u4 n1 λ_ _=>0) ⟨bi,bj,bs,t1,t2,t3,hK,hB,u,rfl,rfl⟩ ?_;clear hK hB u;rintro k m n1 ⟨bi,bj,bs,t1,t2,t3,hK,hB,u,rfl,rfl⟩;have e:=pL u Y q5;have A h:=Pt q1 q3 J e.1 e.2.2.2.2 h;have B h:=Pt q4 q6 H e.2.2.1 e.2.2.2.2 h;refine(c9 _ (fU (eJ lh (eg (ag hB.i) (ag hB.s)) (ag hK.ah)) λh1=>fU (eJ lh (eg (ag hB.j) (ag hB.s)) (ag hK.bh)) λh2=>fU (d:=false) (nq (rz (ao hK.q) (ft (ao hK.b) (eg (ag hB.j) (ag hB.s)) z G (B h2).1 (B h2).2.1 (B h2).2.2.1) hq O)) λh=>(bI h)) (λhb=>?_) (λhb=>?_))
 .exact(Rs hb).elim
 exact U m _ ⟨bi,bj,bs,t1,t2,t3,hK,hB,u,rfl,rfl⟩
end
section
variable {cs:Scope}{c:Fm W0 cs}{sc:Scope}{k:Cx c sc}{m:Lo}{n:Ns}{R:Re}{rest:List Stmt}{d:Addr}
theorem Ig(he:Ev k m n e (.val (.ref d)))(hm:(d,dA led)∈n)
  (ha:autoParam (eval (.Attribute e "__contains__" pos) k.env=(do
   let o ← eval e k.env
   gc pos.atName
   let r ← gr [o] (jO o "__contains__" true)
   eX e o r
   ck r)) zAc):Er k m n (.Attribute e "__contains__" pos) (L7 (cg "set.__contains__" (.ref d)) n):=
 ⟨λQ s hi hq=>og (he.run _ s hi λv s1 u i1=>by
  cases u;obtain ⟨m0,ex,F,N,cl⟩:=qw k i1
  exact Js F N (zR hm) λq h' B z l=>hq _ _ _ (.mk q λp hp=>l p (zR hp)) (cl h' (s1.toks+1) q _ B z)) ha⟩
theorem zX{e1 e2 e3 e4:PE}{k kk:Nat}{e:List PE}{z u pos:Pos}{v1 v2 Y:Value}{U O J H:Str}{P:Value→Ns→Prop}(h1:Ev c.cx m n e1 (.val v1))(h2:Ev c.cx m n e2 (.val v2))(h3:Ev c.cx m n e3 (.val Y))(h4:Er c.cx m n e4 P)
  (h:∀v n',P v n'→cN c (cj (cj (cj (cj m U v1) O v2) J Y) H v) n' rest R)
  (hs:autoParam (lV [.Tuple e k z] (.Tuple [e1,e2,e3,e4] kk u) pos.line c.env=ck false) zAa)
  (hw:autoParam (fW [.Tuple e k z] (.Tuple [e1,e2,e3,e4] kk u) c.env=ck none) zAa)
  {p1 p2 p3 p4:Pos} (ab:autoParam ((dc e c.env).map (·.2)=[dh (.Name U p1) c.env,dh (.Name O p2) c.env,dh (.Name J p3) c.env,dh (.Name H p4) c.env]) zAa) (hn:autoParam ((dc e c.env).length=4) zAa) (aa:autoParam ((dc e c.env).findIdx? (·.1)=none) zAa)
  (q1:autoParam (∀r,SE c.env e1 r) zAb) (q2:autoParam (∀r,SE c.env e2 r) zAb) (q3:autoParam (∀r,SE c.env e3 r) zAb) (q4:autoParam (∀r,SE c.env e4 r) zAb)
  (k1:autoParam (c.env.kindOf U=some .local) zAa) (k2:autoParam (c.env.kindOf O=some .local) zAa) (k3:autoParam (c.env.kindOf J=some .local) zAa) (k4:autoParam (c.env.kindOf H=some .local) zAa):
  cN c m n (.Assign [.Tuple e k z] (.Tuple [e1,e2,e3,e4] kk u) pos::rest) R:=
 bL ⟨λQ s hi hq=>I3 (vM (aI (h1.run _ s hi λu1 s1 d1 i1=>aI (h2.run _ s1 i1 λu2 s2 d2 i2=>aI (h3.run _ s2 i2 λu3 s3 d3 i3=>aI (h4.run _ s3 i3 λv n' s4 p4 G=>bK (by
  cases d1;cases d2;cases d3;refine iF G.at.1 G.at.2 (λD h' F' N' hl=>?_) (by decide:(4:Nat)≤ec);have i5:=G.to (tk:=s4.toks) F' N';refine vL rfl (is_tup (vs:=[v1,v2,Y,v]) i5 (zH)) hn aa λh2 B=>?_;have i6:c.Is m n' {s4 with heap:=h2}:=G.to (tk:=s4.toks) (F'.extBut B (aS _)) (cm (N'.extBut B (aS _)) λp hp=>zT hp);rw[ab];refine be (assign_Name (du i6 (λs5 i5=>?_) k1));refine be (assign_Name (du i5 (λs6 i6=>?_) k2));refine be (assign_Name (du i6 (λs7 i7=>?_) k3));refine be (assign_Name (du i7 (λs8 i8=>?_) k4))
  exact fE (hq .next _ _ _ (h v n' p4) i8))) (q4 _)) (q3 _)) (q2 _)) (q1 _))) hs hw⟩
inductive Gc(x y z:Int)(n:Ns):Value→Ns→Prop
 | mk (r dx:Addr) (t1 t2 t3:Tok) (h:∀p∈n,@aR Nat _ p.1 r):Gc x y z n (.ref r) ((r,dW dx x y z t1 t2 t3)::n)
theorem Ch(hf:Ev c.cx m n f (.val (.ref 171)))(h1:Ev c.cx m n e1 (.int x))(h2:Ev c.cx m n e2 (.int y))(h3:Ev c.cx m n e3 (.int z))(hd:c.dp+6<aH)(hu:c.un+60<cX)(hk:cs.kind=.function)
  (c1:autoParam (CC c.env f [e1,e2,e3] pos) zAa) (c2:autoParam (SE c.env e1 [e2,e3]) zAa) (c3:autoParam (SE c.env e2 [e3]) zAa) (c4:autoParam (SE c.env e3 []) zAa):Er c.cx m n (.Call f [e1,e2,e3] [] pos) (Gc x y z n):=
 ⟨λQ s hi hQ=>gu (hf.run _ s hi λv s1 O i1=>by
  cases O;refine lF c.X (by with_unfolding_all rfl) ?_ c2 (hplain:=by refine(?_:(fj pos (bW [e2,e3] c.env)).any (·.1)=false);rw[c3,c4];rfl);refine aI (h1.run _ s1 i1 λv1 s2 d2 i2=>aI (h2.run _ s2 i2 λv2 G J i3=>aI (h3.run _ G i3 λv3 s4 H e=>bK ⟨c.X.keeps e.at.1.keep,?_⟩) c4) c3) c2;obtain ⟨t,rfl⟩:=d2;obtain ⟨u,rfl⟩:=J;obtain ⟨u3,rfl⟩:=H
  exact Iv c.B e.at.1 c.X e.at.2 c.T hk hd hu λr dx h' tk' Y U l=>hQ _ _ _ ⟨r,dx,t,u,u3,l⟩ (e.to Y U)) c1⟩
end
section
variable {τ:Nat→Tok}{d:Nat→Value}{N:Ns}{S D la lb lj lk:Addr}{n ea eb:Nat}{va vb:List Value}{xs ys:List Int}{oj:Obj}{kvj:List (Int×Value)}{led:Bool}{u1 u2 u3 u4:Tok}{alo ahi blo bhi:Int}
inductive Pf(xs ys:List Int)(alo ahi blo bhi:Int)(H:Ns):Value→Ns→Prop
 | mk (bi bj bs:Int) (w1 w2 w3:Tok) (r dx:Addr) (hb:BI xs ys alo blo bhi (ahi-alo).toNat bi bj bs) (hl:∀p∈H,@aR Nat _ p.1 r):Pf xs ys alo ahi blo bhi H (.ref r) ((r,dW dx bi bj bs w1 w2 w3)::H)
theorem Lh(h9:9≤n)(h1:d 1=.ref la)(h2:d 2=.ref lb)(h7:d 7=.ref lj)(h8:d 8=.ref lk)(ap:(la,listOf va.toArray ea)∈N)(aj:(lb,listOf vb.toArray eb)∈N)(ab:(lj,oj)∈N)(G:(lk,dA led)∈N)(H:au va xs)(ax:au vb ys)(B:xs.length≤32)(Y:ys.length≤32)(aa:ys.Nodup)(ar:nX W0 oj kvj)(O:(lj==cP)=false)(as:yI ys kvj N)
  (q1:0≤alo) (q2:alo≤ahi) (q3:ahi≤xs.length) (q4:0≤blo) (q5:blo≤bhi) (q6:bhi≤ys.length):
  fk W0 232 [.ref S,.int alo u1,.int ahi u2,.int blo u3,.int bhi u4] (SL W0 S D τ d n N) 7 63 (Pf xs ys alo ahi blo bhi (SL W0 S D τ d n N)):=
 li (body:=mB 6) (scope:=mS 6) (binds:=[("self",.ref S),("alo",.int alo u1),("ahi",.int ahi u2),("blo",.int blo u3),("bhi",.int bhi u4)]) (by with_unfolding_all rfl) (by with_unfolding_all rfl) (λs X=>pQ X rfl (by with_unfolding_all rfl) rfl rfl rfl) (sw rfl) rfl rfl rfl (by decide) λc hd hu=>by
  show cN c _ _ (.Expr (.Constant (.str _) _ _) _::.Assign [.Tuple _ _ _] (.Tuple [.Attribute (.Name "self" _) "a" _,.Attribute (.Name "self" _) "b" _,.Attribute (.Name "self" _) "b2j" _,.Attribute (.Attribute (.Name "self" _) "bjunk" _) "__contains__" _] _ _) _::.If (.Compare (.Name "ahi" _) [.Is] [.Constant .none _ _] _) _ [] _::.If (.Compare (.Name "bhi" _) [.Is] [.Constant .none _ _] _) _ [] _::.Assign [.Tuple _ _ _] (.Tuple [.Name "alo" _,.Name "blo" _,.Constant (.int 0) _ _] _ _) _::.Assign [.Name "j2len" _] (.Dict [] [] _) _::.Assign [.Name "nothing" _] (.List [] _) _::oL 6 7::oL 6 8::oL 6 9::oL 6 10::oL 6 11::.Return (some (.Call (.Name "Match" _) [.Name "besti" _,.Name "bestj" _,.Name "bestsize" _] [] _)) _::[]) _;refine g9 (zX (gM nr 1 (ao rfl) (zH) (zT (zH)) h1 rfl (ly h9)) (gM nr 2 (ao rfl) (zH) (zT (zH)) h2 rfl (ly h9)) (gM nr 7 (ao rfl) (zH) (zT (zH)) h7 rfl (ly h9)) (Ig (gM nr 8 (ao rfl) (zH) (zT (zH)) h8 rfl (ly h9)) (bk 2 G)) ?_);rintro v n1 ⟨q,lq⟩;refine dE (oz (t:=false) (ao rfl) gP (.other rfl (λe=>nomatch e))) (λh=>bI h) λ_=>bQ (dE (oz (t:=false) (ao rfl) gP (.other rfl (λe=>nomatch e))) (λh=>bI h) λ_=>bQ ?_);refine pE (i1:=alo) (i2:=blo) (i3:=0) (ag rfl) (ag rfl) bf λt1 t2 t3=>?_;refine dL oS ?_;rintro v n2 ⟨dj,oJ,rfl,rfl,hJ,U,lJ⟩;refine dL mZ ?_;rintro v n3 ⟨nl,rfl,rfl,lN⟩;refine cO (n':=(dj,oJ)::(nl,listOf ([]:List Value).toArray 0)::(q,cg "set.__contains__" (.ref lk))::SL W0 S D τ d n N) ?_ (iB [1,0] 2 rfl);have sub:∀p∈SL W0 S D τ d n N,p∈(nl,listOf ([]:List Value).toArray 0)::(q,cg "set.__contains__" (.ref lk))::SL W0 S D τ d n N:=λp hp=>bk 2 hp;have J:=sub _ (bk 2 ap);have M2:=sub _ (bk 2 aj);have M3:=sub _ (bk 2 ab);have M4:=sub _ (bk 2 G);have M5:(nl,listOf ([]:List Value).toArray 0)∈(nl,listOf ([]:List Value).toArray 0)::(q,cg "set.__contains__" (.ref lk))::SL W0 S D τ d n N:=zH;have M6:(q,cg "set.__contains__" (.ref lk))∈(nl,listOf ([]:List Value).toArray 0)::(q,cg "set.__contains__" (.ref lk))::SL W0 S D τ d n N:=a8 1 rfl;have z:=jY as λp hp=>sub p (bk 2 hp);revert sub J M2 M3 M4 M5 M6 z;generalize (nl,listOf ([]:List Value).toArray 0)::(q,cg "set.__contains__" (.ref lk))::SL W0 S D τ d n N=N0;intro sub J M2 M3 M4 M5 M6 z;refine HW (c:=c) (N0:=N0) (λm n hK=>QE (cR) (ag hK.al) (ag hK.ah)) ⟨alo,blo,0,_,_,_,dj,oJ,[],⟨rfl,rfl,rfl,rfl,rfl,rfl,rfl,rfl,rfl⟩,⟨rfl,rfl,rfl⟩,rfl,rfl,hJ,U,FT,wK⟩ J H M3 ar O M5 z aa B q1 q2 q3 q4 ?_;rintro m n ⟨bi,bj,bs,z1,z2,z3,aM,aD,kvJ,hK,hB,-,rfl,-,-,u,-⟩;refine cO (n':=N0) ?_ λp hp=>zT hp;refine Lg (c:=c) J H M2 ax M6 M4 B Y q1 q2 q3 q4 q5 q6 (ms:=λ_ _=>0) ⟨bi,bj,bs,z1,z2,z3,hK,hB,u,rfl,rfl⟩ ?_;clear hK hB u;rintro m k ⟨bi,bj,bs,w1,w2,w3,hK,hB,u,-,-⟩;refine cO (mX (Ch fV (ag hB.i) (ag hB.j) (ag hB.s) (dl hd) (dl hu) rfl) ?_) sub;rintro v n' ⟨r,dx,t1,t2,t3,l⟩;exact⟨bi,bj,bs,t1,t2,t3,r,dx,u,l⟩
end
end
section
open W PyProof.Rows
theorem kw_C9_0:True:=by
 k_with_none
 k_with "zgetMethod type:tuple"=>(k_here;k_dflt (refine' AH ?F ?X ?g ?s ?e ?_;(case F=>k_asm);(case X=>k_asm);(case g=>k_is);(case s=>k_is);(case e=>k_is);k_whole))
 k_with "zcall builtin:tuple.__new__"=>(k_here;k_dflt (refine' AI ?F ?N ?X ?t ?hC ?e4 ?e3 ?e5 ?k6 ?e6 ?z ?ty ?i ?_;(case F=>k_asm);(case N=>k_asm);(case X=>k_asm);(case t=>exact News.isTup (by k_asm) (by k_mem));(case hC=>exact rfl);(case e4=>exact rfl);(case e3=>exact rfl);(case e5=>exact rfl);(case k6=>k_is);(case e6=>exact rfl);(case z=>rw[eQ];exact dC rfl);(case ty=>exact x5 (by k_asm) (by k_asm) rfl);(case i=>k_is);k_whole);intro z9hp z9rp z9dxp z9Fp z9Np z9l1)
 k_with "zcall builtin:len"=>(k_here;(with_reducible show aA _ _ (call (ji "len") [bG _]) _ _ _);k_dflt (refine' DQ ?F ?N ?X ?r ?o ?d ?f ?m ?_;(case F=>k_asm);(case N=>k_asm);(case X=>k_asm);(case r=>k_mem);(case o=>exact rfl);(case d=>exact rfl);(case f=>k_is);(case m=>k_is);k_whole);intro z9tkp z9tp)
 trivial
theorem km_C9:True:=by
 k_with "zmm"=>first|with_reducible assumption|exact a8 0 rfl|exact a8 1 rfl|exact a8 2 rfl|exact a8 3 rfl|exact a8 4 rfl|exact a8 5 rfl|exact a8 6 rfl|exact a8 7 rfl|exact a8 8 rfl|exact a8 9 rfl|(refine bk 1 ?_;assumption)|(refine bk 2 ?_;assumption)|(refine bk 3 ?_;assumption)|(refine bk 4 ?_;assumption)|(refine bk 5 ?_;assumption)|(refine bk 6 ?_;assumption)|(refine bk 7 ?_;assumption)|(refine bk 8 ?_;assumption)|(refine bk 9 ?_;assumption)|k_extra "zmt"
 k_with "zsu"=>first|exact FN|(refine FC ?_ ?_;(focus k_extra "zmm");k_extra "zsu")|(refine FA ?_ ?_;(focus k_extra "zsu");k_extra "zsu")|(intro p9 hp9;k_extra "zmm")
 trivial
theorem LM{gp:Program}{gl:List Str}{mean:ExcName→Option Value}{mg mb:Lo}{dp un:Nat}{gd:Option (List sU)}{cn:Str}{cs:Scope}{a:Addr}{ccd:Value}{cl:List (Str×Addr)}{outer:List Env}{A₀:Around}{base h₀:Heap}{L:Addr}{m:Lo}{news:Ns}{s:Shared}{Q E:VP}{tp:Addr}{x y z:Int}{t1 t2 t3:Tok}
  (B:qU A₀ base outer h₀) (F:Fr h₀ L s.heap m) (X:(hd.heap_1 W0.params).In h₀) (N:ba h₀ L s.heap ((tp,dU #[.int x t1,.int y t2,.int z t3])::news)) (T:Top gp gl mean mg mb h₀) (hk:cs.kind=.function)
  (hd1:dp+8<aH) (hu:un+60<cX) (hret:∀(r dx:Addr) (h':Heap) (tk':Nat),Fr h₀ L h' m→ba h₀ L h' ((r,dW dx x y z t1 t2 t3)::(tp,dU #[.int x t1,.int y t2,.int z t3])::news)→(∀p∈news,p.1<r)→tp<r→Q (.ref r) {s with heap:=h',toks:=tk'}):
  dY (aq cH.row.prog W0) (ij dp un gd cn cs L a ccd cl outer) (.call (.ref 125) ⟨[.ref 171,.ref tp],[]⟩) (λr s'=>match r with | .ok (.ret v)=>Q v s' | .ok _=>False | .error e=>E e s') s:=by
 revert X
 k_fill
 intro X
 k_dflt ktr_enter
 k_steps
 rename Fr h₀ _ _ _=>FZ;rename ba h₀ _ _ _=>NZ;exact hret _ _ _ _ FZ (cm NZ (by k_extra "zsu")) (λp hp=>zJ (by assumption) (zT hp)) (zJ (l:=(tp,_)::news) (by assumption) (zH))
end
section
open W PyProof Rows
theorem km_D8:True:=by
 k_with "zmt"=>first|with_reducible assumption|with_reducible exact zH|(with_reducible refine zR ?_;k_extra "zmt")|(with_reducible refine zL ?_;k_extra "zmt")|(with_reducible refine zT ?_;k_extra "zmt")
 trivial
structure GK(m:Lo)(S QU MB:Addr)(la lb:Int)(ta tb:Tok):Prop where
 s:m "self"=some (.ref S)
 q:m "queue"=some (.ref QU)
 b:m "matching_blocks"=some (.ref MB)
 la:m "la"=some (.int la ta)
 lb:m "lb"=some (.int lb tb)
noncomputable def RH(i:Nat):Stmt:=((sB (oL 7 5))[i]?).getD C0
noncomputable def Rj:PE:=sE (RH 1)
theorem GK.up{m:Lo}{S QU MB:Addr}{la lb:Int}{ta tb:Tok}{x:Str}{v:Value}(h:GK m S QU MB la lb ta tb)(e:x∉[("self" : Str),"queue","matching_blocks","la","lb"]):GK (cj m x v) S QU MB la lb ta tb:=by
 simp only[ak,bT,or_false,not_or] at e;refine Qj e λh1 h2 h3 h4 h5=>?_
 try clear e
 exact⟨(if_neg (Ne.symm h1)).trans h.s,(if_neg (Ne.symm h2)).trans h.q,(if_neg (Ne.symm h3)).trans h.b,(if_neg (Ne.symm h4)).trans h.la,(if_neg (Ne.symm h5)).trans h.lb⟩
theorem NI{α:Type}{a b x:α}{H T:List α}:∀p∈a::b::(H++x::T),p∈x::a::b::(H++T):=(by k_extra "zsu")
theorem RU{α:Type}{a b x y:α}{H T:List α}:∀p∈a::b::(H++x::y::T),p∈a::b::(H++y::x::T):=(by k_extra "zsu")
theorem Pz(h:∀p∈(MB,a)::(QU,b)::(HH++T),@aR Nat _ p.1 t)(hD:(D,oD)∈HH):@Ne Nat t MB∧@Ne Nat t QU∧@Ne Nat t D:=
 (eP (aF (h (MB,a) (zH))) (aF (h (QU,b) (zT (zH)))) (aF (h (D,oD) (zT (zT (zL hD))))))
theorem jK{HH T:Ns}{X:Addr}(h:∀p∈HH,p.1≠X)(h2:∀p∈T,p.1≠X):∀p∈HH++T,p.1≠X:=Bv.mpr ⟨h,h2⟩
section
variable {c:Fm W0 (mS 7)}{m:Lo}{n:Ns}{R:Re}{rest:List Stmt}{xs ys:List Int}{news HH:Ns}{MB QU D S:Addr}{oD:Obj}{ta tb:Tok}
inductive GJ(xs ys:List Int)(news HH:Ns)(MB QU D S:Addr)(ta tb:Tok)(k:Nat)(m:Lo)(n:Ns):Prop
 | mk (qs:List (Addr×Rect)) (ms:List (Addr×Int)) (qe me:Nat) (T:Ns) (z0:GK m S QU MB xs.length ys.length ta tb) (z1:n=(MB,listOf (refsOf ms).toArray me)::(QU,listOf (refsOf qs).toArray qe)::(HH++T)) (z2:k=fw (qs.map (·.2))) (z3:GS xs ys news MB QU D qs ms T)
inductive GE(xs ys:List Int)(news HH:Ns)(MB QU D S:Addr)(ta tb:Tok)(m:Lo)(n:Ns):Prop
 | mk (ms:List (Addr×Int)) (qe me:Nat) (T:Ns) (z0:GK m S QU MB xs.length ys.length ta tb) (z1:n=(MB,listOf (refsOf ms).toArray me)::(QU,listOf (refsOf ([]:List (Addr×Rect))).toArray qe)::(HH++T)) (z2:GS xs ys news MB QU D [] ms T)
theorem ET(hf:fK (hd.heap_1 W0.params) (.ref 171) "__iter__"=some (some (.builtin "tuple.__iter__")))(cA:ls (hd.heap_1 W0.params) 171 (.type "tuple")=some true)(ab:@Ne Nat MB QU)(cU:∀p∈HH,p.1≠MB)(ap:∀p∈HH,p.1≠QU)(hD:(D,oD)∈HH)
  (hcall:∀(m:Lo) (o1 o2:Obj) (T:Ns) (q:Rect) (t1 t2 t3 t4:Tok),GK m S QU MB xs.length ys.length ta tb→m "alo"=some (.int q.alo t1)→m "ahi"=some (.int q.ahi t2)→m "blo"=some (.int q.blo t3)→m "bhi"=some (.int q.bhi t4)→Gr xs ys q→(∀p∈news,p∈T)→
   Er c.cx m ((MB,o1)::(QU,o2)::(HH++T)) Rj (λv n'=>∃a b d t1 t2 t3 r dx,v=.ref r∧(r,dW dx a b d t1 t2 t3)∈n'∧(BI xs ys q.alo q.blo q.bhi (q.ahi-q.alo).toNat a b d∧n'=(r,dW dx a b d t1 t2 t3)::(MB,o1)::(QU,o2)::(HH++T)∧∀p∈(MB,o1)::(QU,o2)::(HH++T),@aR Nat _ p.1 r)))
  {k:Nat} (hJ:GJ xs ys news HH MB QU D S ta tb k m n) (a6:∀m n,GE xs ys news HH MB QU D S ta tb m n→cN c m n rest R):cN c m n (oL 7 5::rest) R:=by
 refine(?_:cN c m n (.While (.Name "queue" _) [.Assign [.Tuple _ _ _] (.Call (.Attribute (.Name "queue" _) "pop" _) [] [] _) _,.Assign [.Tuple _ _ _,.Name "x" _] Rj _,.If (.Name "k" _) [.Expr (.Call (.Attribute (.Name "matching_blocks" _) "append" _) [.Name "x" _] [] _) _,.If (.BoolOp .And [_,_] _) [.Expr (.Call (.Attribute (.Name "queue" _) "append" _) [.Tuple [_,_,_,_] _ _] [] _) _] [] _,.If (.BoolOp .And [_,_] _) [.Expr (.Call (.Attribute (.Name "queue" _) "append" _) [.Tuple [_,_,_,_] _ _] [] _) _] [] _] [] _] [] _::rest) R);refine jG (GJ xs ys news HH MB QU D S ta tb) hJ ?_;clear hJ;rintro k m1 n1 ⟨qs,ms,qe,me,T,hK,rfl,rfl,g⟩
 rcases CT qs with rfl|⟨qs',⟨qa,u⟩,e⟩
 .refine(c9 _ (AD (vs:=refsOf ([]:List (Addr×Rect))) (ao hK.q) (zT (zH)) (by decide)) (λhb=>(bI hb)) (λhb=>a6 _ _ ⟨ms,qe,me,T,hK,rfl,g⟩))
 rw[CU] at e;subst e;have aa:=g.room (.ref qa)
 have cy:refsOf (qs'++[(qa,u)])=refsOf qs'++[bG qa]:=by simp [refsOf]
 rw[cy];have a4:=g.len
 have cw:(refsOf ms).length≤65:=by simp only[refsOf,aE];exact aw (gC (eK ms) (eK (qs'++[(qa,u)]))) a4
 have a5:(refsOf qs').length≤64:=by simp only[refsOf,aE,aU,di] at *;exact nU (eV [qs'.length,ms.length] 1 Z0 (.k 64) 1 (.a (.a Z0 Y1) Z1) (.k 65) 1 Y0 Z1 rfl (ef a4) j7)
 refine(c9 _ (AD (ao hK.q) (zT (zH)) aa) (λhb=>?_) (λhb=>?_))
 .refine b8 (g.hq (qa,u) (zR (az.mpr rfl))) λbo cz=>?_
  refine Qe bo λt1 t2 t3 t4 b5=>?_
  try clear bo
  refine E1 (q:=qa) (vs:=refsOf qs') (ao hK.q) (.tail ab (.head (jK ap g.h2))) (zT (zT (zR b5))) aa ?_;have z:=(((hK.up (x:="alo") (v:=.int u.alo t1) (by decide)).up (x:="ahi") (v:=.int u.ahi t2) (by decide)).up (x:="blo") (v:=.int u.blo t3) (by decide)).up (x:="bhi") (v:=.int u.bhi t4) (by decide);refine B9 hf cA (hcall _ _ _ T u t1 t2 t3 t4 z (bc (bc (bc cZ))) (bc (bc cZ)) (bc cZ) cZ cz g.h0) ?_;intro bi bj bs w1 w2 w3 r dx n' bm;refine ku bm λah cd cB=>?_;clear bm;subst cd;replace z:=(((z.up (x:="i") (v:=.int bi w1) (by decide)).up (x:="j") (v:=.int bj w2) (by decide)).up (x:="k") (v:=.int bs w3) (by decide)).up (x:="x") (v:=.ref r) (by decide);generalize H:cj (cj (cj (cj (cj (cj (cj (cj m1 _ _) _ _) _ _) _ _) _ _) _ _) _ _) _ _=m2 at z ⊢;have a0:m2 "alo"=some (.int u.alo t1):=H▸bc (bc (bc (bc (bc (bc (bc cZ))))));have O:m2 "ahi"=some (.int u.ahi t2):=H▸bc (bc (bc (bc (bc (bc cZ)))));have ax:m2 "blo"=some (.int u.blo t3):=H▸bc (bc (bc (bc (bc cZ))));have J:m2 "bhi"=some (.int u.bhi t4):=H▸bc (bc (bc (bc cZ)));have Y:m2 "i"=some (.int bi w1):=H▸bc (bc (bc cZ));have U:m2 "j"=some (.int bj w2):=H▸bc (bc cZ);have B:m2 "k"=some (.int bs w3):=H▸bc cZ;have cn:m2 "x"=some (.ref r):=H▸cZ;clear H hK;refine ku (Pz cB hD) λrM rQ rD=>?_;refine cO ?_ NI;have aj:∀{X:Addr},@Ne Nat r X→(∀p∈T,p.1≠X)→∀p∈(r,dW dx bi bj bs w1 w2 w3)::T,p.1≠X:=λh1 h2=>zC ⟨h1,h2⟩;refine dE (kh (ag B)) (λbb=>?_) (λbb=>?_)
  .have hk:bs≠0:=by simpa using bb
   refine gO (vs:=refsOf ms) (ao z.b) (zH) (iM (ao cn)) (aw cw (by decide)) ?_;intro v n' bl;refine b8 bl λhv cc=>?_;clear bl;subst cc;cases hv;refine(db _ (.head (zC ⟨ab.symm,jK cU (aj rM g.h1)⟩)) ?_);rw[show refsOf ms++[bG r]=refsOf (ms++[(r,bs)]) by simp [refsOf]];refine dE (fU (eJ lh (ag a0) (ag Y)) λ_=>fU (eJ lh (ag ax) (ag U)) λ_=>iV) (λh1=>?_) (λh1=>bQ ?_)
   .replace h1:u.alo<bi∧u.blo<bj:=by simpa using h1
    refine gO (vs:=refsOf qs') (ao z.q) (zT (zH)) (tF (ag a0) (ag Y) (ag ax) (ag U)) (aw a5 (by decide)) ?_;intro v n' bh;refine Kd bh λA1 z1 z2 z3 z4 ca b6 cC=>?_;clear bh;subst ca;subst b6;refine ku (Pz cC hD) λaM aQ aD=>?_;refine(db _ (.tail aQ (.tail ab (.head (jK ap (aj rQ g.h2))))) (bQ ?_));rw[show refsOf qs'++[bG A1]=refsOf (qs'++[(A1,Rect.mk u.alo bi u.blo bj)]) by simp [refsOf]];refine cO ?_ NI;refine dE (fU (eJ lh (eg (ag Y) (ag B)) (ag O)) λ_=>fU (eJ lh (eg (ag U) (ag B)) (ag J)) λ_=>iV) (λh2=>?_) (λh2=>bQ (bQ (cb ?_)))
    .replace h2:bi+bs<u.ahi∧bj+bs<u.bhi:=by simpa using h2
     refine gO (vs:=refsOf (qs'++[(A1,Rect.mk u.alo bi u.blo bj)])) (ao z.q) (zT (zH)) (tF (eg (ag Y) (ag B)) (ag O) (eg (ag U) (ag B)) (ag J)) (aw (by simp only[refsOf,aE,aU,di] at *;exact fh a5 1:_≤65) (by decide)) ?_;intro v n' as;refine Kd as λA2 y1 y2 y3 y4 b4 b0 a7=>?_;clear as;subst b4;subst b0;refine ku (Pz a7 hD) λcM cQ cD=>?_;refine(db _ (.tail cQ (.tail ab (.head (jK ap (zC ⟨aQ,aj rQ g.h2⟩))))) (bQ (bQ ?_)));rw[show refsOf (qs'++[(A1,Rect.mk u.alo bi u.blo bj)])++[bG A2]=refsOf (qs'++[(A1,Rect.mk u.alo bi u.blo bj),(A2,Rect.mk (bi+bs) u.ahi (bj+bs) u.bhi)]) by simp [refsOf]];have G:=g.two (r:=r) (dx:=dx) (w1:=w1) (w2:=w2) (w3:=w3) (T1:=A1) (T2:=A2) (t1:=z1) (t2:=z2) (t3:=z3) (t4:=z4) (t5:=y1) (t6:=y2) (t7:=y3) (t8:=y4) ah hk h1 h2 aM aQ aD cM cQ cD rM rQ rD;exact cO (cO (cb (db _ G.2 ⟨_,_,_,_,_,z,rfl,rfl,G.1⟩)) RU) NI
    .replace h2:¬(bi+bs<u.ahi∧bj+bs<u.bhi):=by simpa using h2
     have G:=g.left (r:=r) (dx:=dx) (w1:=w1) (w2:=w2) (w3:=w3) (T1:=A1) (t1:=z1) (t2:=z2) (t3:=z3) (t4:=z4) ah hk h1 h2 aM aQ aD rM rQ rD;exact(db _ G.2 ⟨_,_,_,_,_,z,rfl,rfl,G.1⟩)
   .replace h1:¬(u.alo<bi∧u.blo<bj):=by simpa using h1
    refine dE (fU (eJ lh (eg (ag Y) (ag B)) (ag O)) λ_=>fU (eJ lh (eg (ag U) (ag B)) (ag J)) λ_=>iV) (λh2=>?_) (λh2=>bQ (bQ (cb ?_)))
    .replace h2:bi+bs<u.ahi∧bj+bs<u.bhi:=by simpa using h2
     refine gO (vs:=refsOf qs') (ao z.q) (zT (zH)) (tF (eg (ag Y) (ag B)) (ag O) (eg (ag U) (ag B)) (ag J)) (aw a5 (by decide)) ?_;intro v n' ar;refine Kd ar λA2 y1 y2 y3 y4 bv br a7=>?_;clear ar;subst bv;subst br;refine ku (Pz a7 hD) λcM cQ cD=>?_;refine(db _ (.tail cQ (.tail ab (.head (jK ap (aj rQ g.h2))))) (bQ (bQ ?_)));rw[show refsOf qs'++[bG A2]=refsOf (qs'++[(A2,Rect.mk (bi+bs) u.ahi (bj+bs) u.bhi)]) by simp [refsOf]];have G:=g.right (r:=r) (dx:=dx) (w1:=w1) (w2:=w2) (w3:=w3) (T2:=A2) (t5:=y1) (t6:=y2) (t7:=y3) (t8:=y4) ah hk h1 h2 cM cQ cD rM rQ rD;exact cO (cb (db _ G.2 ⟨_,_,_,_,_,z,rfl,rfl,G.1⟩)) NI
    .replace h2:¬(bi+bs<u.ahi∧bj+bs<u.bhi):=by simpa using h2
     have G:=g.bare (r:=r) (dx:=dx) (w1:=w1) (w2:=w2) (w3:=w3) ah hk h1 h2 rM rQ rD;exact(db _ G.2 ⟨_,_,_,_,_,z,rfl,rfl,G.1⟩)
  .have hk:bs=0:=by simpa using bb
   refine cO (n':=(MB,listOf (refsOf ms).toArray me)::(QU,listOf (refsOf qs').toArray (qe+1))::(HH++T)) (bQ (cb (db _ g.drop ⟨_,_,_,_,_,z,rfl,rfl,g.none (IB ah hk)⟩))) λp hp=>?_;revert p;k_extra "zsu"
 .have:(refsOf qs'++[bG qa]).isEmpty=false:=by cases refsOf qs'<;>rfl
  rw[this] at hb;exact bI hb
end
inductive Sw(xs ys:List Int)(D:Addr)(news:Ns)(led:Addr→Ns→Ns)(f:vd)(n':Ns):Prop
 | mk (r:Addr) (mk:List (Addr×Int)) (c:Nat) (T:Ns) (hf:f=.ret (.ref r)) (h1:pM xs ys 0 xs.length 0 ys.length (ej mk)) (h2:mk.length≤34) (h3:∀q∈mk,0≤q.2) (h4:∀q∈mk,sM T q) (h5:∀p∈news,p∈T) (h6:∀p∈T,p.1≠D) (h7:∀p∈T,p.1≠r) (h8:@aR Nat _ D r) (hn:n'=(r,listOf (refsOf mk).toArray c)::led r T)
theorem Ql{α:Type}{a x:α}{H T:List α}:∀p∈a::(H++x::T),p∈x::a::(H++T):=(by k_extra "zsu")
noncomputable def Sf(i:Nat):Stmt:=((sO (((sB (oL 7 9))[0]?).getD C0))[i]?).getD C0
section
variable {c:Fm W0 (mS 7)}{m:Lo}{n:Ns}{R:Re}{rest:List Stmt}{xs ys:List Int}{news HH:Ns}{MB QU D S:Addr}{oD:Obj}{ta tb:Tok}
structure NK(m:Lo)(NA:Addr)(i1 j1 k1:Int)(w1 w2 w3:Tok):Prop where
 a:m "non_adjacent"=some (.ref NA)
 i:m "i1"=some (.int i1 w1)
 j:m "j1"=some (.int j1 w2)
 k:m "k1"=some (.int k1 w3)
theorem NK.up(h:NK m NA i1 j1 k1 w1 w2 w3)(e:x∉[("non_adjacent" : Str),"i1","j1","k1"]):NK (cj m x v) NA i1 j1 k1 w1 w2 w3:=by
 simp only[ak,bT,or_false,not_or] at e;refine xR e λh1 h2 h3 h4=>?_
 try clear e
 exact⟨(if_neg (Ne.symm h1)).trans h.a,(if_neg (Ne.symm h2)).trans h.i,(if_neg (Ne.symm h3)).trans h.j,(if_neg (Ne.symm h4)).trans h.k⟩
inductive NJ(ms:List (Addr×Int))(T HB:Ns)(MB QU D S NA:Addr)(la lb:Int)(ta tb:Tok)(i:Nat)(m:Lo)(n:Ns):Prop
 | mk (na:List (Addr×Int)) (i1 j1 k1:Int) (w1 w2 w3:Tok) (ne:Nat) (T2:Ns) (z0:GK m S QU MB la lb ta tb) (z1:NK m NA i1 j1 k1 w1 w2 w3) (z2:n=(NA,listOf (refsOf na).toArray ne)::(HB++T2)) (z3:NS T NA D D D NA na T2) (z4:na.length≤i) (z5:0≤k1) (z6:ej na+k1=ej (ms.take i))
theorem HS(hf:fK (hd.heap_1 W0.params) (.ref 171) "__iter__"=some (some (.builtin "tuple.__iter__")))(cD:fK (hd.heap_1 W0.params) (.ref 171) "__lt__"=some (some (.builtin "tuple.__lt__")))(cn:ls (hd.heap_1 W0.params) 171 (.type "tuple")=some true)(hu:c.A.units+1<cX)(c0:@Ne Nat MB QU)(c1:∀p∈HH,p.1≠MB)(hD:(D,oD)∈HH)
  (hE:GE xs ys news HH MB QU D S ta tb m n)
  (cx:∀(m:Lo) (na:List (Addr×Int)) (ne:Nat) (NA:Addr) (T3:Ns),m "self"=some (.ref S)→m "non_adjacent"=some (.ref NA)→(∀q∈na,Gu T3 q)→(∀q∈na,0≤q.2)→na.length≤34→pM xs ys 0 xs.length 0 ys.length (ej na)→(∀p∈news,p∈T3)→(∀p∈T3,p.1≠D)→@Ne Nat NA D→(∀p∈T3,p.1≠NA)→cN c m ((NA,listOf (refsOf na).toArray ne)::(HH++T3)) rest R):
  cN c m n (oL 7 6::oL 7 7::oL 7 8::oL 7 9::oL 7 10::oL 7 11::rest) R:=by
 obtain ⟨ms,qe,me,T,hK,rfl,g⟩:=hE;refine B8 hu cD cn (ao hK.b) (.head (zC ⟨c0.symm,jK c1 g.h1⟩)) g.hm (λo p hp=>zT (zT (zR hp))) (aK g.short (by decide)) ?_;intro e c' hp;have cC:∀q∈e,sM T q:=λq hq=>g.hm q (hp.mem_iff.mp hq);have cB:∀q∈e,0≤q.2:=λq hq=>g.hpos q (hp.mem_iff.mp hq);have ax:e.length≤32:=hp.length_eq▸g.short;have ab:ej e=ej ms:=BF hp;have cz:=g.all;have bh:=g.h3;have cQ:=g.h0;rw[← ab] at cz;clear hp g ab;refine EY bf λt0=>?_;refine dL mZ ?_;intro v n' a5;refine fM a5 λNA b5 b4 ah=>?_;clear a5;subst b5;subst b4;have aj:∀p∈(MB,listOf (refsOf e).toArray c')::(QU,listOf (refsOf ([]:List (Addr×Rect))).toArray qe)::HH,@Ne Nat p.1 NA:=λp hp=>aB (ah p (by simpa using (qY T hp)));have cy:∀p∈T,@Ne Nat p.1 NA:=λp hp=>aB (ah p (zT (zT (zR hp))));have bj:(D,oD)∈(MB,listOf (refsOf e).toArray c')::(QU,listOf (refsOf ([]:List (Addr×Rect))).toArray qe)::HH:=zT (zT hD);have aa:(MB,listOf (refsOf e).toArray c')∈(MB,listOf (refsOf e).toArray c')::(QU,listOf (refsOf ([]:List (Addr×Rect))).toArray qe)::HH:=zH;have a6:∀p∈HH,p∈(MB,listOf (refsOf e).toArray c')::(QU,listOf (refsOf ([]:List (Addr×Rect))).toArray qe)::HH:=λp hp=>zT (zT hp);rw[show (NA,listOf ([]:List Value).toArray 0)::(MB,listOf (refsOf e).toArray c')::(QU,listOf (refsOf ([]:List (Addr×Rect))).toArray qe)::(HH++T)=(NA,listOf (refsOf ([]:List (Addr×Int))).toArray 0)::(((MB,listOf (refsOf e).toArray c')::(QU,listOf (refsOf ([]:List (Addr×Rect))).toArray qe)::HH)++T) from rfl];clear ah;generalize (MB,listOf (refsOf e).toArray c')::(QU,listOf (refsOf ([]:List (Addr×Rect))).toArray qe)::HH=HB at aj bj aa a6 ⊢;have aM:=(((hK.up (x:="i1") (v:=.int 0 t0) (by decide)).up (x:="j1") (v:=.int 0 t0) (by decide)).up (x:="k1") (v:=.int 0 t0) (by decide)).up (x:="non_adjacent") (v:=.ref NA) (by decide);have cU:@Ne Nat NA D:=(aj _ bj).symm
 have tup:∀{t:Addr}{na:List (Addr×Int)}{ne:Nat}{T2:Ns},(∀p∈(NA,listOf (refsOf na).toArray ne)::(HB++T2),@aR Nat _ p.1 t)→@Ne Nat t NA∧@Ne Nat t D:=λh=>⟨aF (h _ (zH)),aF (h _ (zT (zL bj)))⟩
 refine yc hf cn (ao aM.b) (zT (zL aa)) (NJ e T HB MB QU D S NA xs.length ys.length ta tb) ⟨[],0,0,0,t0,t0,t0,0,T,aM,⟨cZ,bc (bc (bc cZ)),bc (bc cZ),bc cZ⟩,rfl,⟨λ_ h=>h,cy,bh,bh,bh,cy,(λ_ h=>nomatch h),(λ_ h=>nomatch h)⟩,aS _,b7 _,rfl⟩ ?_ ?_ ?_
 .rintro i m n ⟨na,i1,j1,k1,w1,w2,w3,ne,T2,-,-,rfl,gn,-⟩ q hq
  refine zy (cC q hq) λdx a b u1 u2 u3 hm=>?_;exact(B3 dx a b u1 u2 u3 (zT (zR (gn.h0 _ hm))))
 .clear hK aM
  rintro i q a b t1 t2 t3 m1 n1 I o a7 O ⟨na,i1,j1,k1,w1,w2,w3,ne,T2,hK,hN,rfl,gn,U,aD,B⟩;have cd:=cB q (cq a7);have ap:=vO a7;have cw:i<32:=aO (bz.mp a7).1 ax;have cA:=O _ (zH);have bi:=((hK.up (x:="i2") (v:=.int a t1) (by decide)).up (x:="j2") (v:=.int b t2) (by decide)).up (x:="k2") (v:=.int q.2 t3) (by decide);have z:=((hN.up (x:="i2") (v:=.int a t1) (by decide)).up (x:="j2") (v:=.int b t2) (by decide)).up (x:="k2") (v:=.int q.2 t3) (by decide);generalize as:cj (cj (cj m1 _ _) _ _) _ _=m2 at bi z ⊢;have cc:m2 "i2"=some (.int a t1):=as▸bc (bc cZ);have ca:m2 "j2"=some (.int b t2):=as▸bc cZ;have b6:m2 "k2"=some (.int q.2 t3):=as▸cZ;clear as hK hN;refine dE (fU (eJ wp (eg (ag z.i) (ag z.k)) (ag cc)) λ_=>fU (eJ wp (eg (ag z.j) (ag z.k)) (ag ca)) λ_=>iV) (λ_=>?_) (λ_=>?_)
  .refine ye z.k (ag b6) λt4=>bQ (cb ?_)
   exact⟨zH,_,λp hp=>⟨zT hp,O p hp⟩,zT (zL aa),na,i1,j1,k1+q.2,w1,w2,t4,ne,T2,bi.up (by decide),⟨bc z.a,bc z.i,bc z.j,cZ⟩,rfl,gn,by exact dO U,by exact Ri aD cd,by exact ny (eV [ej na,k1,q.snd,ej (my (i+1) e),ej (my i e)] 1 (.a Z0 (.a Z1 Z2)) Z3 1 (.a Z4 Z2) Z3 1 (.a Z0 Z1) Z4 rfl (iu ap) (gX B)) (eV [ej (my (i+1) e),ej na,k1,q.snd,ej (my i e)] 1 Z0 (.a Z1 (.a Z2 Z3)) 1 Z0 (.a Z4 Z3) 1 Z4 (.a Z1 Z2) rfl (gX ap) (iu B))⟩
  .have fin:∀(u:List (Addr×Int)) (J:Nat) (G:Ns),NS T NA D D D NA u G→(∀p∈(NA,listOf (refsOf u).toArray J)::(HB++G),@Ne Nat p.1 I)→u.length≤i+1→ej u=ej na+k1→cN c m2 ((I,o)::(NA,listOf (refsOf u).toArray J)::(HB++G)) [Sf 1] (md c [] (Ph (md c (oL 7 10::oL 7 11::rest) R) I o (MB,listOf (refsOf e).toArray c') (NJ e T HB MB QU D S NA xs.length ys.length ta tb) (i+1))):=by
    intro u J G Y bb H ar;refine pE (ag cc) (ag ca) (ag b6) λu1 u2 u3=>bQ (cb ?_);exact⟨zH,_,λp hp=>⟨zT hp,bb p hp⟩,zT (zL aa),u,a,b,q.2,u1,u2,u3,J,G,((bi.up (by decide)).up (by decide)).up (by decide),⟨bc (bc (bc z.a)),cZ,bc cZ,bc (bc cZ)⟩,rfl,Y,H,cd,by exact ny (ia [ej u,q.snd,ej (my (i+1) e),ej na,k1,ej (my i e)] 1 (.a Z0 Z1) Z2 1 Z0 (.a Z3 Z4) 1 (.a Z5 Z1) Z2 1 (.a Z3 Z4) Z5 rfl (gX ar) (iu ap) (gX B)) (ia [ej (my (i+1) e),ej u,q.snd,ej na,k1,ej (my i e)] 1 Z0 (.a Z1 Z2) 1 (.a Z3 Z4) Z1 1 Z0 (.a Z5 Z2) 1 Z5 (.a Z3 Z4) rfl (iu ar) (gX ap) (iu B))⟩
   refine dE (kh (ag z.k)) (λhk=>?_) (λhk=>bQ (fin na ne T2 gn O (dO U) (by have:k1=0:=(by simpa using hk);exact ny (cW [ej na,k1] 1 Z0 (.a Z0 Z1) 1 Y0 Z1 rfl (iu this)) (cW [ej na,k1] 1 (.a Z0 Z1) Z0 1 Z1 Y0 rfl (gX this)))));refine gO (vs:=refsOf na) (ao z.a) (zT (zH)) (wS (ag z.i) (ag z.j) (ag z.k)) (aw (by simp only[refsOf,aE];exact nU (eV [na.length,i] 1 Z0 (.k 65) 1 (.a Z1 Y1) (.k 32) 1 Z0 Z1 rfl (ef cw) (ef U)):_≤65) (by decide)) ?_;intro v n' a4;refine Ke a4 λt z1 z2 z3 b0 bv H=>?_;clear a4;subst b0;subst bv;refine b8 (tup λp hp=>H p (zT hp)) λtN tD=>?_;refine(db _ (.tail tN (.tail cA.symm (.head (jK aj gn.h1)))) (bQ ?_));rw[show refsOf na++[bG t]=refsOf (na++[(t,k1)]) by simp [refsOf]];refine cO (fin (na++[(t,k1)]) (ne+1) ((t,dU #[.int i1 z1,.int j1 z2,.int k1 z3])::T2) (gn.more tN tD tD tD tN aD) ?_ (by simp only[aU,di];exact fh U 1) (by rw[mG])) ?_
   .refine zC ⟨cA,jK (λp hp=>O p (zT (zL hp))) (zC ⟨aF (H _ (zH)),λp hp=>O p (zT (zR hp))⟩)⟩
   .exact NI
 .clear hK aM
  rintro m1 n1 ⟨na,i1,j1,k1,w1,w2,w3,ne,T2,hK,hN,rfl,gn,U,aD,B⟩;rw[cT] at B
  have fin:∀(u:List (Addr×Int)) (J:Nat) (G:Ns),NS T NA D D D NA u G→u.length≤33→ej u=ej na+k1→cN c m1 ((NA,listOf (refsOf u).toArray J)::(HB++G)) (oL 7 11::rest) R:=by
   intro u J G Y H ar;refine gO (vs:=refsOf u) (ao hN.a) (zH) (wS (ag hK.la) (ag hK.lb) bf) (aw (by simp only[refsOf,aE];exact r8 H (bR true):_≤65) (by decide)) ?_;intro v n' a0;refine Ke a0 λt z1 z2 z3 br bo cM=>?_;clear a0;subst br;subst bo;refine b8 (tup cM) λtN tD=>?_;refine(db _ (.tail tN (.head (jK aj Y.h1))) ?_);rw[show refsOf u++[bG t]=refsOf (u++[(t,0)]) by simp [refsOf]];refine cO (cx m1 (u++[(t,0)]) (J+1) NA ((t,dU #[.int xs.length z1,.int ys.length z2,.int 0 z3])::G) hK.s hN.a (HN Y.hn) (DM Y.hpos (b7 0)) (by simp only[aU,di];exact fh H 1) (by rw[mG];dsimp only;rw[iY,ar,B];exact cz) (λp hp=>zT (Y.h0 p (cQ p hp))) (zC ⟨tD,Y.h2⟩) cU (zC ⟨tN,Y.h1⟩)) λp hp=>?_;simp only[ak,aC] at hp ⊢
   rcases hp with h|h|h|h
   .simp [h]
   .simp [a6 p h]
   .simp [h]
   .simp [h]
  refine dE (kh (ag hN.k)) (λhk=>?_) (λhk=>bQ (fin na ne T2 gn (nU (eV [na.length,e.length] 1 Z0 (.k 33) 1 Z0 Z1 1 Z1 (.k 32) rfl (ef U) (ef ax))) (by have:k1=0:=(by simpa using hk);exact ny (cW [ej na,k1] 1 Z0 (.a Z0 Z1) 1 Y0 Z1 rfl (iu this)) (cW [ej na,k1] 1 (.a Z0 Z1) Z0 1 Z1 Y0 rfl (gX this)))));refine gO (vs:=refsOf na) (ao hN.a) (zH) (wS (ag hN.i) (ag hN.j) (ag hN.k)) (aw (by simp only[refsOf,aE];exact nU (eV [na.length,e.length] 1 Z0 (.k 65) 1 Z0 Z1 1 Z1 (.k 32) rfl (ef U) (ef ax)):_≤65) (by decide)) ?_;intro v n' aQ;refine Ke aQ λt z1 z2 z3 bm bl H=>?_;clear aQ;subst bm;subst bl;refine b8 (tup H) λtN tD=>?_;refine(db _ (.tail tN (.head (jK aj gn.h1))) (bQ ?_));rw[show refsOf na++[bG t]=refsOf (na++[(t,k1)]) by simp [refsOf]];exact cO (fin (na++[(t,k1)]) (ne+1) ((t,dU #[.int i1 z1,.int j1 z2,.int k1 z3])::T2) (gn.more tN tD tD tD tN aD) (by simp only[aU,di];exact nU (eV [na.length,e.length] 1 (.a Z0 Y1) (.k 33) 1 Z0 Z1 1 Z1 (.k 32) rfl (ef U) (ef ax))) (by rw[mG])) Ql
end
end
section
open W PyProof Rows Mine
section
variable {cs:Scope}{c:Fm W0 cs}{sc:Scope}{k:Cx c sc}{m:Lo}{n:Ns}{R:Re}{rest:List Stmt}
theorem G0{pos wh}(hl:Ev k m n l (.val .none))(hr:Ev k m n r (.val .none))(hm:autoParam (eR .IsNot r=false) zAc):Tw k m n (.Compare l [.IsNot] [r] pos) wh false:=
 ⟨λ_ s hi hq=>bY (hl.run _ s hi λv s1 hv h1=>hr.run _ s1 h1 λv2 s2 e h2=>by
  cases hv;cases e
  exact wpAny_isNot_self rfl (aY (hq _ h2))) hm⟩
theorem GZ{pos wh}(hl:Ev k m n l (.val (.ref x)))(hr:Ev k m n r (.val .none))(hm:autoParam (eR .IsNot r=false) zAc):Tw k m n (.Compare l [.IsNot] [r] pos) wh true:=
 ⟨λ_ s hi hq=>bY (hl.run _ s hi λv s1 hv h1=>hr.run _ s1 h1 λv2 s2 u h2=>by
  cases hv;cases u
  exact wpAny_isNot_other rfl (λe=>nomatch e) (aY (hq _ h2))) hm⟩
theorem Im{e:PE}{P P':Value→Ns→Prop}(h:Er k m n e P)(g:Ns→Ns)(hp:∀v n',P v n'→(∀p∈g n',p∈n')∧P' v (g n')):Er k m n e P':=⟨λQ s hi hq=>h.run Q s hi λv n' s' p u=>hq _ _ _ (hp v n' p).2 (u.sub (hp v n' p).1)⟩
inductive RC(na:List (Addr×Int))(T:Ns):Value→Ns→Prop
 | mk (S:Addr) (mk:List (Addr×Int)) (M:Ns) (c2:Nat) (e1:mk.map (·.2)=na.map (·.2)) (e2:∀p∈mk,sM M p) (e3:∀p∈M,@aR Nat _ S p.1) (e4:∀p∈T,@aR Nat _ p.1 S):RC na T (.ref S) ((S,listOf (refsOf mk).toArray c2)::(M++T))
theorem Ih{U H e e2:PE}{u p1 G:Pos}{na:List (Addr×Int)}{ne:Nat}{NA:Addr}{T:Ns}(hd:c.dp+8<aH)(hu:c.un+63<cX)(hk:cs.kind=.function)(hl:∀M,Ev c.cx m M U (.val (.type "list")))(hm:∀M,Ev c.cx m M H (.val (.type "map")))(he:∀M,Ev c.cx m M e (.val (.ref 171)))(h2:∀M,Ev c.cx m M e2 (.val (.ref NA)))(hn:na.length≤64)(O:∀p∈na,Gu T p)
  (ca:autoParam (eval (.Attribute e "_make" u) c.env=(do
   let o ← eval e c.env
   gc u.atName
   let r ← gr [o] (jO o "_make" true)
   eX e o r
   ck r)) zAc)
  (c1:autoParam (CC c.env U [.Call H [.Attribute e "_make" u,e2] [] G] p1) zAa)
  (c2:autoParam (CC c.env H [.Attribute e "_make" u,e2] G) zAa)
  (s1:autoParam (bW [.Call H [.Attribute e "_make" u,e2] [] G] c.env=(false,eval (.Call H [.Attribute e "_make" u,e2] [] G) c.env)::bW [] c.env) zAa) (s2:autoParam (bW [.Attribute e "_make" u,e2] c.env=(false,eval (.Attribute e "_make" u) c.env)::bW [e2] c.env) zAa) (Y:autoParam (SE c.env e2 []) zAa):
  Er c.cx m ((NA,listOf (refsOf na).toArray ne)::T) (.Call U [.Call H [.Attribute e "_make" u,e2] [] G] [] p1) (RC na T):=
 ⟨λQ s hi hQ=>gu ((hl _).run _ s hi λv z1 d1 i1=>by
  cases d1;refine callWith_type1 (aI (gu ((hm _).run _ z1 i1 λv z2 d2 i2=>?_) c2) s1) s1;cases d2;refine callWith_type1 (aI (og ((he _).run _ z2 i2 λv z3 d3 i3=>?_) ca) s2) s2 (hplain:=by refine(?_:(fj G (bW [e2] c.env)).any (·.1)=false);rw[Y];rfl);cases d3;refine cls_cm i3.at.1 c.X i3.at.2 (by with_unfolding_all rfl) (by with_unfolding_all rfl) (by with_unfolding_all rfl) (by with_unfolding_all rfl) λq h' F' N' lq=>?_;refine aI ((h2 _).run _ _ (i3.to F' N') λv z5 d5 i5=>bK ?_) Y;cases d5;refine FH i5.at.1 i5.at.2 (zT (zH)) λit tup mp h5 F5 N5 J l2 l3=>bK ?_;refine ED (na:=na) rfl (λs1 n1 tp x y z ta tb tc Q1 F1 N1 hq=>LM (E:=λ_ _=>False) c.B F1 c.X N1 c.T hk (by refine(?_:c.dp+8<aH);exact hd) (by refine(?_:c.un+2+1+60<cX);exact hu) hq) F5 N5 hn O (λp hp=>aB (J p (bk 2 hp))) (aF (aP l2 l3)) (aF l2) (aB (J (q,_) (zH))) (aB (J (NA,_) (a8 1 rfl))) ?_;intro S mk M c2 h6 aa e1 e2 e3 e4 F6 N6
  exact hQ _ _ _ ⟨S,mk,M,c2,e1,e2,e3,e4⟩ (i5.to F6 N6)) c1⟩
end
section
variable {τ:Nat→Tok}{d:Nat→Value}{cs:Scope}{c:Fm W0 cs}{m:Lo}{N:Ns}{R:Re}{rest:List Stmt}{S D:Addr}{n:Nat}
theorem H0(K:MM W0)(i:Nat){e val:PE}{name:Str}{z pos:Pos}{P:Value→Ns→Prop}(U:@Ne Nat S D)(hv:Er c.cx m ((S,c8 278 D)::(D,SO W0 τ d n)::N) val P)(he:∀n,Ev c.cx m n e (.val (.ref S)))
  (hP:∀v n1,P v n1→∃G,(∀p∈(S,c8 278 D)::(D,SO W0 τ d n)::G,p∈n1)∧(∀p∈G,p.1≠D)∧∀u,(i<n→u = τ)→cN c m ((S,c8 278 D)::(D,SO W0 u (dr d i v) (max n (i+1)))::G) rest R)
  (hi:autoParam (i≤n) zAd) (h9:autoParam (i<10) zAd) (h10:autoParam (n≤10) zAd) (hn:autoParam (name=nm i) zAa) (hq:autoParam (f9 val (some (.Attribute e name z)) pos.line c.env=ck false) zAa):
  cN c m ((S,c8 278 D)::(D,SO W0 τ d n)::N) (.Assign [.Attribute e name z] val pos::rest) R:=by
 subst hn
 refine bL ⟨λQ s J hQ=>xr (hv.run _ s J λv1 n1 s1 H i1=>(he _).run _ s1 i1 λv2 s2 d2 i2=>by
  cases d2;obtain ⟨G,sub,O,hr⟩:=hP _ _ H;have i3:=i2.sub sub;refine CI i3.at.1 c.X i3.at.2 (gj i3.at.2 (zH) (zT (zH))) rfl K.c.s K.c.p (K.atr i h9).t K.c.h (rE h9 hi h10) rfl (.tail U (.head O)) ((mf h9 hi h10).elim λ_ x=>x.2.2) λh' Y B=>?_;obtain ⟨u,x,y,_⟩:=mf (τ:=τ) (d:=d) (v:=v1) (t:=s2.toks+1) h9 hi h10;rw[x] at B
  exact hQ .next _ _ _ (hr u y) (i3.to Y B)) hq⟩
end
section
variable {τ:Nat→Tok}{d:Nat→Value}{N:Ns}{S D la lb lj lk:Addr}{ea eb:Nat}{va vb:List Value}{xs ys:List Int}{oj:Obj}{kvj:List (Int×Value)}{led:Bool}
inductive RD(W0:World)(S D:Addr)(τ:Nat→Tok)(d:Nat→Value)(xs ys:List Int)(N:Ns):Value→Ns→Prop
 | mk (r:Addr) (mk:List (Addr×Int)) (c:Nat) (T:Ns) (h1:pM xs ys 0 xs.length 0 ys.length (ej mk)) (h2:mk.length≤34) (h3:∀q∈mk,0≤q.2) (h4:∀q∈mk,sM T q) (h5:∀p∈N,p∈T) (h6:∀p∈T,p.1≠D) (h7:∀p∈T,p.1≠r) (h8:@aR Nat _ D r):RD W0 S D τ d xs ys N (.ref r) ((r,listOf (refsOf mk).toArray c)::SL W0 S D τ (dr d 4 (.ref r)) 10 T)
theorem Ld(d1:@Ne Nat S D)(dN:∀p∈N,p.1≠D)(h1:d 1=.ref la)(h2:d 2=.ref lb)(h4:d 4=.none)(h7:d 7=.ref lj)(h8:d 8=.ref lk)(aj:(la,listOf va.toArray ea)∈N)(ah:(lb,listOf vb.toArray eb)∈N)(a0:(lj,oj)∈N)(aQ:(lk,dA led)∈N)(U:au va xs)(O:au vb ys)(J:xs.length≤32)(H:ys.length≤32)(ax:ys.Nodup)(a5:nX W0 oj kvj)(as:(lj==cP)=false)(a6:yI ys kvj N):
  fk W0 239 [.ref S] (SL W0 S D τ d 10 N) 9 70 (RD W0 S D τ d xs ys N):=
 have hf:fK (hd.heap_1 W0.params) (.ref 171) "__iter__"=some (some (.builtin "tuple.__iter__")):=by with_unfolding_all rfl
 have aM:fK (hd.heap_1 W0.params) (.ref 171) "__lt__"=some (some (.builtin "tuple.__lt__")):=by with_unfolding_all rfl
 have ab:ls (hd.heap_1 W0.params) 171 (.type "tuple")=some true:=by with_unfolding_all rfl
 li (body:=mB 7) (scope:=mS 7) (binds:=[("self",.ref S)]) (by with_unfolding_all rfl) (by with_unfolding_all rfl) (λs X=>dG rfl) (sw rfl) rfl rfl rfl (by decide) λc hd hu=>by
  show cN c _ _ (.Expr (.Constant (.str _) _ _) _::.If (.Compare (.Attribute (.Name "self" _) "matching_blocks" _) [.IsNot] [.Constant .none _ _] _) _ [] _::.Assign [.Tuple _ _ _] (.Tuple [.Call (.Name "len" _) [.Attribute (.Name "self" _) "a" _] [] _,.Call (.Name "len" _) [.Attribute (.Name "self" _) "b" _] [] _] _ _) _::.Assign [.Name "queue" _] (.List [.Tuple [.Constant (.int 0) _ _,.Name "la" _,.Constant (.int 0) _ _,.Name "lb" _] _ _] _) _::.Assign [.Name "matching_blocks" _] (.List [] _) _::oL 7 5::oL 7 6::oL 7 7::oL 7 8::oL 7 9::oL 7 10::oL 7 11::.Assign [.Attribute (.Name "self" _) "matching_blocks" _] (.Call (.Name "list" _) [.Call (.Name "map" _) [.Attribute (.Name "Match" _) "_make" _,.Name "non_adjacent" _] [] _] [] _) _::.Return (some (.Attribute (.Name "self" _) "matching_blocks" _)) _::[]) _
  have za:va.length≤1000:=by rw[U.length];exact r8 J (bR true)
  have zb:vb.length≤1000:=by rw[O.length];exact r8 H (bR true)
  refine g9 (dE (G0 (gM nr 4 (ao rfl) (zH) (zT (zH)) h4 rfl) gP) (λh=>bI h) λ_=>bQ ?_);refine sk (kz cR (gM nr 1 (ao rfl) (zH) (zT (zH)) h1 rfl) (bk 2 aj) za) (kz cR (gM nr 2 (ao rfl) (zH) (zT (zH)) h2 rfl) (bk 2 ah) zb) λta tb=>?_;refine dL (rB (P':=λv n'=>∃QU z t1 t2 t3 t4,v=.ref QU∧n'=(QU,listOf [bG z].toArray 0)::(z,dU #[.int 0 t1,.int (va.length:Int) t2,.int 0 t3,.int (vb.length:Int) t4])::SL W0 S D τ d 10 N∧@aR Nat _ z QU∧∀p∈SL W0 S D τ d 10 N,@aR Nat _ p.1 z) (tF bf (ag rfl) bf (ag rfl)) ?_) ?_
  .rintro v n' QU ⟨z,t1,t2,t3,t4,rfl,rfl,l⟩ l2
   exact⟨QU,z,t1,t2,t3,t4,rfl,rfl,l2 (z,_) (zH),l⟩
  rintro v n' ⟨QU,z,t1,t2,t3,t4,rfl,rfl,lQ,lD⟩;refine dL mZ ?_;rintro v n' ⟨MB,rfl,rfl,lM⟩;rw[U.length,O.length];have oQ:∀p∈SL W0 S D τ d 10 N,@aR Nat _ p.1 QU:=λp hp=>aP (lD p hp) lQ;have oM:∀p∈SL W0 S D τ d 10 N,@aR Nat _ p.1 MB:=λp hp=>lM p (bk 2 hp);have ap:@Ne Nat MB QU:=aF (lM (QU,_) (zH));have dM:∀p∈[(S,c8 278 D),(D,SO W0 τ d 10)],p.1≠MB:=FC (aB (oM _ (zH))) (FC (aB (oM (D,_) (a8 1 rfl))) FN);have dQ:∀p∈[(S,c8 278 D),(D,SO W0 τ d 10)],p.1≠QU:=FC (aB (oQ _ (zH))) (FC (aB (oQ (D,_) (a8 1 rfl))) FN);refine cO (n':=(MB,listOf (refsOf ([]:List (Addr×Int))).toArray 0)::(QU,listOf (refsOf [(z,Rect.mk 0 xs.length 0 ys.length)]).toArray 0)::([(S,c8 278 D),(D,SO W0 τ d 10)]++(z,dU #[.int 0 t1,.int (xs.length:Int) t2,.int 0 t3,.int (ys.length:Int) t4])::N)) ?_ (iB [0,1,3,4,2] 5 rfl);refine ET (c:=c) hf ab ap dM dQ (a8 1 rfl) ?hcall ⟨_,_,_,_,_,⟨rfl,rfl,rfl,rfl,rfl⟩,rfl,rfl,ES J H (λp hp=>aB (oM p (bk 2 hp))) (λp hp=>aB (oQ p (bk 2 hp))) dN (aB (lM (z,_) (a8 1 rfl))) (aB lQ) (aF (lD (D,_) (a8 1 rfl)))⟩ λm n hE=>HS hf aM ab (by show c.un+1<cX;exact zE hu (bR true)) ap dM (a8 1 rfl) hE ?_
  case hcall=>
   intro m o1 o2 T q bm bl bh bb hK m1 m2 m3 m4 u hT;show Er c.cx m _ (.Call (.Attribute (.Name "self" _) "find_longest_match" _) [.Name "alo" _,.Name "ahi" _,.Name "blo" _,.Name "bhi" _] [] _) _;refine Ac (n':=SL W0 S D τ d 10 ((MB,o1)::(QU,o2)::T)) (Im (pI (Lh (τ:=τ) (d:=d) (n:=10) (N:=(MB,o1)::(QU,o2)::T) (by decide) h1 h2 h7 h8 (bk 2 (hT _ aj)) (bk 2 (hT _ ah)) (bk 2 (hT _ a0)) (bk 2 (hT _ aQ)) U O J H ax a5 as (jY a6 λp hp=>bk 2 (hT p hp)) u.1 u.2.1 u.2.2.1 u.2.2.2.1 u.2.2.2.2.1 u.2.2.2.2.2) (ao hK.s) (.cons (ao m1) (.cons (ao m2) (.cons (ao m3) (.cons (ao m4) .nil)))) (zH) (zT (zH)) (iC (n:=10) λi hi=>nJ (by decide) hi) (dl hd) (dl hu) rfl) (λn'=>n'.take 1++(MB,o1)::(QU,o2)::([(S,c8 278 D),(D,SO W0 τ d 10)]++T)) ?_) (iB [2,3,0,1] 4 rfl);rintro v n' ⟨bi,bj,bs,w1,w2,w3,r,dx,hb,hl⟩;exact⟨iB [0,3,4,1,2] 5 rfl,bi,bj,bs,w1,w2,w3,r,dx,rfl,zH,hb,rfl,λp hp=>hl p (iB [2,3,0,1] 4 rfl p hp)⟩
  intro m na ne NA T3 aa aD a4 hpos G Y ar eT bo br;refine cO (n':=(S,c8 278 D)::(D,SO W0 τ d 10)::(NA,listOf (refsOf na).toArray ne)::T3) ?_ (iB [1,2,0] 3 rfl);refine H0 nr 4 d1 (Ac (n':=(NA,listOf (refsOf na).toArray ne)::SL W0 S D τ d 10 T3) (Ih (hd) (zE hu (bR true)) rfl (λ_=>cR) (λ_=>cR) (λ_=>fV) (λ_=>ao aD) (aw G (by decide)) λq hq=>(a4 q hq).mono λp hp=>bk 2 hp) (iB [2,0,1] 3 rfl)) (λ_=>ao aa) ?_;rintro v n1 ⟨r,mk,M,c2,e1,e2,e3,e4⟩;have B:@aR Nat _ D r:=e4 (D,_) (a8 1 rfl);refine⟨(r,listOf (refsOf mk).toArray c2)::(M++T3),FC (zT (zR (zH))) (FC (zT (zR (a8 1 rfl))) (FC (zH) (FA (λp hp=>zT (zL hp)) λp hp=>zT (zR (bk 2 hp))))),FC (aF B) (FA (λp hp=>aF (aP B (e3 p hp))) eT),λa7 e=>?_⟩;cases e (by decide);refine cO (n':=(r,listOf (refsOf mk).toArray c2)::SL W0 S D τ (dr d 4 (.ref r)) 10 (M++T3)) (pG (gM nr 4 (ao aa) (a8 1 rfl) (a8 2 rfl) rfl rfl) ?_) (iB [2,0,1] 3 rfl);rintro v rfl;exact⟨r,mk,c2,M++T3,Ha e1▸Y,by rw[KD e1];exact G,J7 e1 hpos,λq hq=>(e2 q hq).mono λp hp=>zL hp,λp hp=>zR (ar p hp),FA (λp hp=>aF (aP B (e3 p hp))) eT,FA (λp hp=>aF (e3 p hp)) λp hp=>aB (e4 p (bk 2 hp)),B⟩
end
inductive Gs(xs ys:List Int)(v4:Value)(T:Ns):Prop
 | mk (r:Addr) (mk:List (Addr×Int)) (c:Nat) (z0:v4=.ref r) (z1:(r,listOf (refsOf mk).toArray c)∈T) (z2:pM xs ys 0 xs.length 0 ys.length (ej mk)) (z3:mk.length≤34) (z4:(∀x∈mk,0≤x.2)) (z5:∀x∈mk,sM T x)
theorem Gs.mono(h:Gs xs ys v4 T)(s:∀p∈T,p∈T'):Gs xs ys v4 T':=
 let ⟨r,u,c,a,b,d,e,f,g⟩:=h;⟨r,u,c,a,s _ b,d,e,f,λx z=>(g x z).mono s⟩
theorem wg
  (B:qU A₀ base outer h₀) (F:Fr h₀ L s.heap m) (X:(hd.heap_1 W0.params).In h₀) (N:ba h₀ L s.heap n) (T:Top gp gl mean mg mb h₀) (hk:cs.kind=.function)
  (hE:lG (aq P0 W0) (ij dp un gd cn cs L a ccd cl outer) (yR cn cs L a ccd cl) E)
  (h:∀c:Fm W0 cs,c.dp=dp→c.un=un→c.ccd=ccd→c.h₀=h₀→c.L=L→c.s=s→c.P=(λ_=>True)→c.Is m n s→aA (aq P0 W0) c.A (kG body c.env) Q c.E s):
  aA (aq P0 W0) (ij dp un gd cn cs L a ccd cl outer) (kG body (yR cn cs L a ccd cl)) Q E s:=
 h ⟨gp,gl,mean,mg,mb,dp,un,gd,cn,L,a,ccd,cl,outer,A₀,base,h₀,s,E,λ_=>True,B,X,T,hk,hE,λ_ _=>trivial⟩ rfl rfl rfl rfl rfl rfl rfl ⟨s.heap,s.toks,rfl,F,N⟩
theorem LA(e:¬m7 (bF b)=true)(hz:¬vG (bF b)=true)(h:Q (.float (jk x (bF b)) s.toks) {s with toks:=s.toks+1}):aA (aq P0 W0) A (CF .Div (.float x t) (.int b u)) Q E s:=sW e hz h
theorem O0{cs:Scope}{c:Fm W0 cs}{m:Lo}{n:Ns}{f e1 e2:PE}{pos:Pos}{a b:Int}{Q:VP}{s:Shared}(ha:a.natAbs<2 ^ 20)(hb:0<b)(G:b<2 ^ 20)(hf:Ev c.cx m n f (.val (.ref 181)))(h1:Ev c.cx m n e1 (.int a))(h2:Ev c.cx m n e2 (.int b))(hd:c.dp+1<aH)(hk:cs.kind=.function)(hi:c.Is m n s)
  (hq:∀(h':Heap) (t:Tok),t≠0→Fr c.h₀ c.L h' m→ba c.h₀ c.L h' n→Q (.float (nK a b) t) {s with heap:=h',toks:=t+1})
  (c1:autoParam (CC c.env f [e1,e2] pos) zAa) (c2:autoParam (SE c.env e1 [e2]) zAa) (c3:autoParam (SE c.env e2 []) zAa):aA (aq P0 W0) c.A (eval (.Call f [e1,e2] [] pos) c.env) Q c.E s:=
 gu (hf.run _ s hi λv s1 d1 i1=>by
  cases d1;refine lF c.X (by with_unfolding_all rfl) ?_ c2 (hplain:=by refine(?_:(fj pos (bW [e2] c.env)).any (·.1)=false);rw[show _=_ from c3];rfl);refine aI (h1.run _ s1 i1 λv1 s2 d2 i2=>aI (h2.run _ s2 i2 λv2 s3 d3 i3=>bK ⟨c.X.keeps i3.at.1.keep,?_⟩) c3) c2;obtain ⟨t,rfl⟩:=d2;obtain ⟨u,rfl⟩:=d3;obtain ⟨h0,tk0,rfl,_,_⟩:=hi;obtain ⟨h3,Y,rfl,F3,N3⟩:=i3;refine eG (xe (scope:=tw P0.main.body 6) (body:=vg P0.main.body 6) (binds:=[("matches",.int a t),("length",.int b u)]) c.B F3 c.X N3 c.T rfl rfl hk (by with_unfolding_all rfl) (by with_unfolding_all rfl) (by refine(?_:c.dp<_);exact C3 hd) (dG rfl) (sw rfl) (λg L' H FG F' N' B' X' T'=>?_) rfl rfl rfl (by decide));refine wg (cs:=tw P0.main.body 6) B' F' X' N' T' rfl (by passes_own) λc' ab aa _ hh hL hs _ z=>?_;refine fn (Mh ((kh (k:=c'.cx) (i:=b) (ag (k:=c'.cx) (x:="length") (t:=u) rfl)).run _ _ z λs4 e=>?_));rw[if_pos (bne_iff_ne.mpr (CX hb))];refine fn (iP (d9 (d9 (Mi (c'.cx.load e.toks (v:=.int a t) rfl rfl (by decide) (mul_fi_fits (aP ha (by decide +kernel)) ?_))))));refine c'.cx.load (e.toks (tk:=_)) (v:=.int b u) rfl rfl (by decide) (LA (rN (aP (L3 (cW [b] 1 Y0 Z0 1 (.a Y0 Y1) Z0 rfl hb) (cW [b] 1 (.a Z0 Y1) (.k 1048576) 1 (.a Z0 Y1) (.k (2 ^ 20)) rfl G):b.natAbs<2 ^ 20) (by decide +kernel))) (Kg hb) ?_);obtain ⟨h4,U,rfl,O,J⟩:=e;rw[hh,hL] at O J;refine' tS ?fa ?na λkF kN=>?_
  case fa=>exact O
  case na=>exact J
  rw[hs]
  exact hq h4 _ (Nat.succ_ne_zero _) kF kN) c1
structure tO(W0:World)(f:Addr)(args:List Value)(n:Ns)(dp un:Nat)(P:Value→Ns→Nat→Prop):Prop where
 run:∀{gp:Program}{gl:List Str}{mean:ExcName→Option Value}{mg mb:Lo}{dp0 un0:Nat}{gd:Option (List sU)}{cn:Str}{cs:Scope}{a:Addr}{ccd:Value}{cl:List (Str×Addr)}{outer:List Env}{A₀:Around}{base h₀:Heap}{L:Addr}{m:Lo}{s:Shared}{Q E:VP},
  qU A₀ base outer h₀→Fr h₀ L s.heap m→(K1 W0).In h₀→ba h₀ L s.heap n→Top gp gl mean mg mb h₀→cs.kind=.function→dp0+dp<aH→un0+un<cX→dB s.gens→
  (∀v n' s',P v n' s'.toks→dB s'.gens→s'.os=s.os→Fr h₀ L s'.heap m→ba h₀ L s'.heap n'→Q v s')→aA (aq P0 W0) (ij dp0 un0 gd cn cs L a ccd cl outer) (call (.ref f) args) Q E s
theorem Bi{f:Addr}{args:List Value}{n:Ns}{dp un:Nat}{P:Value→Ns→Nat→Prop}{name qual:Str}{params:ke}{body:List Stmt}{scope:Scope}{dV kV doc pm e ct oc:Value}{an od:Option Addr}{J:Array (Option Value)}{binds:List (Str×Value)}
  (ho:(K1 W0).lookup f=some ⟨oc,od,.func (Ms name qual params body scope dV kV doc pm an e ct),J⟩) (ab:codeIn (K1 W0) e qual=true)
  (z:∀s:Shared,(K1 W0).In s.heap→IY s (Ms name qual params body scope dV kV doc pm an e ct) ⟨args,[]⟩ binds) (G:∀y∈binds,scope.names.lookup y.1=some .local) (aa:scope.isCoroutine=false) (H:scope.isGenerator=false) (hk:scope.kind=.function) (u:∀x∈scope.names,x.2≠.cell)
  (h:∀(c:Fm W0 scope) (Q:FP),c.dp+dp<aH→c.un+un<cX→c.ccd=e→c.P=(λ_=>True)→dB c.s.gens→c.Is (λy=>binds.reverse.lookup y) n c.s→(∀v m' n' s',P v n' s'.toks→dB s'.gens→s'.os=c.s.os→Fr c.h₀ c.L s'.heap m'→ba c.h₀ c.L s'.heap n'→Q (.ret v) s')→aA (aq P0 W0) c.A (kG body c.env) Q c.E c.s):tO W0 f args n (dp+1) (un+3) P:=
 ⟨λ{gp gl mean mg mb dp0 un0 gd cn cs a ccd cl outer A₀ base h₀ L m s Q E} B F X N T U hd hu hG hq=>eG (xe B F X N T rfl rfl U ho ab (by show _<aH;simp only;exact C3 hd) (z _ (X.keeps F.keep)) G (λg L' aj FG F' N' B' X' T'=>by
  refine wg (cs:=scope) B' F' X' N' T' hk (by passes_own) λc Y O ah hh hL hs hP hi=>hs▸h c _ (by rw[Y];simp only;exact ltN (cW [dp0,dp,aH] 1 (.a (.a (.a Z0 Y1) Z1) Y1) Z2 1 (.a (.a Z0 (.a Z1 Y1)) Y1) Z2 rfl (ef hd))) (by rw[O];simp only;exact ltN (cW [un0,un,cX] 1 (.a (.a (.a Z0 (.k 3)) Z1) Y1) Z2 1 (.a (.a Z0 (.a Z1 (.k 3))) Y1) Z2 rfl (ef hu))) ah hP (by rw[hs];exact hG) (by rw[hs];exact hi) λv m' n' s' hp hB ho F2 N2=>?_;rw[hh,hL] at F2 N2
  exact tS F2 N2 λkF kN=>hq _ _ _ hp hB (ho.trans (by rw[hs])) kF kN) aa H hk u)⟩
section
variable {τ:Nat→Tok}{d:Nat→Value}{N:Ns}{S D la lb lj lk:Addr}{ea eb:Nat}{va vb:List Value}{xs ys:List Int}{oj:Obj}{kvj:List (Int×Value)}{led:Bool}{ps:Array Value}
inductive QX(W0:World)(S D:Addr)(τ:Nat→Tok)(d:Nat→Value)(xs ys:List Int)(N:Ns):Value→Ns→Prop
 | mk (r:Addr) (mk:List (Addr×Int)) (c:Nat) (T n':Ns) (h1:pM xs ys 0 xs.length 0 ys.length (ej mk)) (h2:mk.length≤34) (h3:∀q∈mk,0≤q.2) (h4:∀q∈mk,sM T q) (h5:∀p∈N,p∈T) (h6:∀p∈T,p.1≠D) (h8:d 4=.ref r∨@aR Nat _ D r) (hr0:∀r0,d 4=.ref r0→r=r0) (h9:@Ne Nat r D) (sub:∀p∈(r,listOf (refsOf mk).toArray c)::SL W0 S D τ (dr d 4 (.ref r)) 10 T,p∈n'):QX W0 S D τ d xs ys N (.ref r) n'
theorem OF(u:∀p∈N,p.1≠D)(h4:d 4=.ref r)(hr:(r,listOf (refsOf mk).toArray B)∈N)(hT:pM xs ys 0 xs.length 0 ys.length (ej mk))(hl:mk.length≤34)(hp:∀q∈mk,0≤q.2)(z:∀q∈mk,sM N q):fk W0 239 [.ref S] (SL W0 S D τ d 10 N) 9 70 (QX W0 S D τ d xs ys N):=
 li (body:=mB 7) (scope:=mS 7) (binds:=[("self",.ref S)]) (by with_unfolding_all rfl) (by with_unfolding_all rfl) (λs X=>dG rfl) (sw rfl) rfl rfl rfl (by decide) λc hd hu=>by
  refine g9 (dE (GZ (gM nr 4 (ao rfl) (zH) (zT (zH)) h4 rfl) gP) (λ_=>pG (gM nr 4 (ao rfl) (zH) (zT (zH)) h4 rfl) ?_) (λh=>bI h));rintro v rfl
  have ed:dr d 4 (.ref r)=d:=funext λj=>((I8 (j=4)).elim (λe=>(if_pos e).trans (e▸h4.symm)) λe=>if_neg e:(if j=4 then bG r else d j)=d j)
  exact⟨r,mk,B,N,_,hT,hl,hp,z,λp hp=>hp,u,.inl h4,λr0 e=>GB (h4.symm.trans e),u _ hr,by rw[ed];exact FC (bk 2 hr) λp hp=>hp⟩
theorem HR(d1:@Ne Nat S D)(dN:∀p∈N,p.1≠D)(h1:d 1=.ref la)(h2:d 2=.ref lb)(h4:d 4=.none∨Gs xs ys (d 4) N)(h7:d 7=.ref lj)(h8:d 8=.ref lk)(Y:(la,listOf va.toArray ea)∈N)(U:(lb,listOf vb.toArray eb)∈N)(O:(lj,oj)∈N)(J:(lk,dA led)∈N)(aj:au va xs)(ah:au vb ys)(G:xs.length≤32)(z:ys.length≤32)(H:ys.Nodup)(aa:nX W0 oj kvj)(u:(lj==cP)=false)(ab:yI ys kvj N):
  fk W0 239 [.ref S] (SL W0 S D τ d 10 N) 9 70 (QX W0 S D τ d xs ys N):=by
 rcases h4 with h4|⟨r,mk,c0,h4,hr,hT,hl,hp,hM⟩
 .refine⟨λB F X Nn T hk hd hu hq=>(Ld d1 dN h1 h2 h4 h7 h8 Y U O J aj ah G z H aa u ab).run B F X Nn T hk hd hu λv n' h' tk' hP F' N'=>hq v n' h' tk' ?_ F' N'⟩
  cases hP with|mk r mk c T h1 h2 h3 ap h5 h6 h7 h8=>exact⟨r,mk,c,T,_,h1,h2,h3,ap,h5,h6,.inr h8,(λr0 e=>nomatch (h4.symm.trans e)),aF h8,λp hp=>hp⟩
 .exact OF dN h4 hr hT hl hp hM
theorem jJ{cs:Scope}{c:Fm W0 cs}{m:Lo}{n:Ns}{s:Shared}(h:c.Is m n s):s.gens=c.s.gens∧s.os=c.s.os:=by obtain ⟨h',tk,rfl,F,N⟩:=h;exact⟨rfl,rfl⟩
inductive Jt(W0:World)(S D:Addr)(τ:Nat→Tok)(d:Nat→Value)(xs ys:List Int)(N:Ns):Value→Ns→Nat→Prop
 | mk (t:Tok) (ht0:t≠0) (r:Addr) (mk:List (Addr×Int)) (c:Nat) (T:Ns) (ps':Array Value) (n':Ns) (h1:pM xs ys 0 xs.length 0 ys.length (ej mk)) (h2:mk.length≤34) (h3:∀q∈mk,0≤q.2) (h4:∀q∈mk,sM T q) (h5:∀p∈N,p∈T) (h6:∀p∈T,p.1≠D) (h7:∀p∈T,p.1≠256) (h8:d 4=.ref r∨@aR Nat _ D r) (hr0:∀r0,d 4=.ref r0→r=r0) (h9:@Ne Nat r D) (h10:@Ne Nat r 256) (ht:ee ps'.toList) (sub:∀p∈(256,bS ps')::(r,listOf (refsOf mk).toArray c)::SL W0 S D τ (dr d 4 (.ref r)) 10 T,p∈n'):Jt W0 S D τ d xs ys N (.float (nK (ej mk) ((xs.length:Int)+(ys.length:Int))) t) n' (t+1)
theorem xL(d1:@Ne Nat S D)(dN:∀p∈N,p.1≠D)(d6:@Ne Nat 256 D)(nS:@Ne Nat S 256)(sN:∀p∈N,p.1≠256)(h1:d 1=.ref la)(h2:d 2=.ref lb)(h4:d 4=.none∨Gs xs ys (d 4) N)(h7:d 7=.ref lj)(h8:d 8=.ref lk)(aj:(la,listOf va.toArray ea)∈N)(ah:(lb,listOf vb.toArray eb)∈N)(bv:(lj,oj)∈N)(br:(lk,dA led)∈N)(U:au va xs)(H:au vb ys)(aa:xs.length≤32)(O:ys.length≤32)(a5:0<ys.length)(bm:ys.Nodup)(b0:nX W0 oj kvj)(a4:(lj==cP)=false)(b5:yI ys kvj N)(bl:ee ps.toList):
  tO W0 261 [.ref S] ((256,bS ps)::SL W0 S D τ d 10 N) 11 74 (Jt W0 S D τ d xs ys N):=
 Bi (body:=mB 10) (scope:=mS 10) (binds:=[("self",.ref S)]) (by with_unfolding_all rfl) (by with_unfolding_all rfl) (λs X=>dG rfl) (sw rfl) rfl rfl rfl (by decide) λc Q hd hu b4 b6 hG hi hq=>by
  show aA (aq P0 W0) c.A (kG (.Expr (.Constant (.str _) _ _) _::.Assign [.Name "matches" _] (.Call (.Name "sum" _) [.GeneratorExp (.Subscript (.Name "triple" _) (.UnaryOp .USub (.Constant (.int 1) _ _) _) _) [⟨.Name "triple" _,.Call (.Attribute (.Name "self" _) "get_matching_blocks" _) [] [] _,[],0⟩] _ _] [] _) _::.Return (some (.Call (.Name "_calculate_ratio" _) [.Name "matches" _,.BinOp (.Call (.Name "len" _) [.Attribute (.Name "self" _) "a" _] [] _) .Add (.Call (.Name "len" _) [.Attribute (.Name "self" _) "b" _] [] _) _] [] _)) _::[]) c.env) Q c.E c.s;have hs:(λy=>([("self",.ref S)]:List (Str×Value)).reverse.lookup y) "self"=some (.ref S):=rfl;revert hs hi;generalize (λy=>([("self",.ref S)]:List (Str×Value)).reverse.lookup y)=m;intro hi hs;have za:va.length≤32:=U.length▸aa;have zb:vb.length≤32:=H.length▸O;have z0:0<vb.length:=H.length▸a5;refine fn (ii (wpAny_Constant_str (fn (gQ (gu ((cR (v:=.builtin "sum")).run _ _ hi.toks λv s1 cc i1=>?_) (by rfl)) (by rfl)))) (by rfl) (by rfl));cases cc;refine callWith_builtin1 (aI (EU (P:=256) (c:=260) (cl:=[]) i1.at.1 c.T (Mt c.X (by kernel_rfl)) rfl b4 rfl rfl rfl (by decide) rfl rfl rfl (show c.dp<aH by exact C3 hd) ?src (by intro _;rfl)) (by rfl)) (by rfl)
  case src=>
  refine(Ac (n':=SL W0 S D τ d 10 ((256,bS ps)::N)) (rA (HR d1 (FC d6 dN) h1 h2 (h4.imp id λh=>h.mono λp hp=>zT hp) h7 h8 (zT aj) (zT ah) (zT bv) (zT br) U H aa O bm b0 a4 (jY b5 λp hp=>zT hp)) (ao hs) (zH) (zT (zH)) (iC (n:=10) λi hi=>nJ (by decide) hi) (dl hd) (dl hu) rfl) (iB [1,2,0] 3 rfl)).run _ s1 i1 ?_;rintro v n' s2 ⟨r,mk,c0,T,n',J,ab,hpos,aD,G,as,bi,hr0,bh,sub⟩ i2;have N2:=cm i2.at.2 sub;have hP:(256,bS ps)∈T:=G _ (zH);have hM:∀q∈mk,sM (T.filter λp=>p.1 != 256) q:=λq hq=>HO (a:=[(r,listOf (refsOf mk).toArray c0),(S,c8 278 D),(D,SO W0 τ (dr d 4 (.ref r)) 10)]) N2 hP (aD q hq);have N3:=Dr (a:=[(r,listOf (refsOf mk).toArray c0),(S,c8 278 D),(D,SO W0 τ (dr d 4 (.ref r)) 10)]) N2 hP;have er:r≠256:=zi N3 (a8 1 rfl) (zH) (λz=>nomatch z);have u:=J9 (P:=256) (λp hp=>G p (zT hp)) sN;have ar:∀p∈T.filter λp=>p.1 != 256,p.1≠D:=kt as;have B:∀p∈T.filter λp=>p.1 != 256,p.1≠256:=uo;clear N2 hP aD G as sub;generalize (T.filter λp=>p.1 != 256)=T2 at *
  have hz:ej mk≤1000:=by have:=Dn J (j7) (j7);exact eV [ej mk,ys.length] 1 Z0 (.k 1000) 1 Z0 (.s Z1 Y0) 1 Z1 (.k 32) rfl this.2.2 (ef O)
  have bb:=lR hpos;refine iH ⟨r,(refsOf mk).toArray,c0,ps,SL W0 S D τ (dr d 4 (.ref r)) 10 T2,λi y=>∃t,y=eY (vo mk i) t,rfl,i2.at.1,cm N3 (iB [1,0] 2 rfl),bl,(jJ i2).1▸hG,er,FC nS (FC d6.symm B),?_,?_⟩
  .intro A2 E2 i v cn m2 Cx code hA hv hn bo hk2
   obtain ⟨q,hq,rfl⟩:=mJ (ms:=mk) (by simpa using hv);obtain ⟨dx,i1,j1,x1,x2,x3,ap⟩:=hM q (cq hq);have ht:=N3 (256,bS ps) (zH);have bj:=hk2 q.1 _ (B _ ap) (N3 _ (bk 4 ap)).1;have X2:=c.X.keeps λb o e=>hk2 b o (λz=>by rw[z,ht.2.2] at e;cases e) (i2.at.1.keep b o e);refine ci (Fl (K:=K1 W0) X2 (by with_unfolding_all rfl) (by with_unfolding_all rfl) (by with_unfolding_all rfl) rfl rfl (by decide) hn bo bj) (λy s3 hy=>?_) λ_ _ e=>e;obtain ⟨⟨t,rfl⟩,hkp⟩:=hy;exact⟨⟨t,by unfold vo;rw[hq];rfl⟩,hkp⟩
  intro ga s5 ps' Kb a7 F5 N5 G5 a0 ca aM X5;refine bK (BE F5 N5 G5 ca aM X5 hpos hz λY t6 F6 N6 G6 aQ=>?_)
  have ax:∀h tk,c.P {Y with heap:=h,toks:=tk}:=λh tk=>by rw[b6];trivial
  refine du (c:=c.on Y ax) (m:=m) ⟨Y.heap,Y.toks,rfl,F6,N6⟩ (λs7 i7=>?_) rfl;refine fn (iP (O0 (c:=c.on Y ax) (a:=ej mk) (b:=(va.length:Int)+(vb.length:Int)) (L3 (cW [ej mk] 1 Y0 Z0 1 Y0 Z0 rfl bb) (cW [ej mk] 1 (.a Z0 Y1) (.k 1048576) 1 Z0 (.k 1000) rfl hz)) (eV [va.length,vb.length] 1 (.a Y0 Y1) (.a Z0 Z1) 1 (.a Y0 Y1) Z1 1 Y0 Z0 rfl (ef z0) j7) (eV [va.length,vb.length] 1 (.a (.a Z0 Z1) Y1) (.k (2 ^ 20)) 1 Z1 (.k 32) 1 Z0 (.k 32) rfl (ef zb) (ef za)) fV (ag cZ) (eg (kz cR (gM (τ:=τ) (d:=dr d 4 (.ref r)) (n:=10) nr 1 (ao (bc hs)) (a8 2 rfl) (a8 3 rfl) h1 rfl) (bk 4 (u _ aj)) (aw za (by decide))) (kz cR (gM (τ:=τ) (d:=dr d 4 (.ref r)) (n:=10) nr 2 (ao (bc hs)) (a8 2 rfl) (a8 3 rfl) h2 rfl) (bk 4 (u _ ah)) (aw zb (by decide)))) (dl (a:=c.dp) hd) rfl i7 λh8 t8 a6 F8 N8=>?_));obtain ⟨h7,cd,rfl,F7,N7⟩:=i7;rw[U.length,H.length];exact hq _ _ _ _ ⟨t8,a6,r,mk,c0,T2,ps',_,J,ab,hpos,hM,u,ar,B,bi,hr0,bh,er,a7,iB [1,0] 2 rfl⟩ G6 (aQ.trans (a0.trans (jJ i2).2)) F8 N8
end
end
section
open W PyProof.Rows
noncomputable def ST(W0:World)(ys:List Int)(R:List (Addr×List Int))(av v4 v6:Value)(T:Ns):Prop:=
 AV av T∧(v6=.none∨∃(fb:Addr) (oF:Obj) (kvF:List (Int×Value)),v6=.ref fb∧(fb,oF)∈T∧nX W0 oF kvF∧FB ys kvF∧(fb==cP)=false)∧(v4=.none∨∃z∈R,av=.ref z.1∧Gs z.2 ys v4 T)
theorem DD{M:Model}{A:Around}{E:VP}{s u:Shared}{body:List Stmt}{env:Env}{h₀:Heap}{L I l:Addr}{oI lo:Obj}{J:(Lo)→Ns→Nat→Prop}{Q:FP}
  (h:∀z:vd→Shared→Prop,(∀(m':Lo) (n':Ns) (tb:Nat) (s':Shared),tb≤s'.toks→Fr h₀ L s'.heap m'→ba h₀ L s'.heap ((I,oI)::(l,lo)::n')→dB s'.gens→s'.os=u.os→(∀p∈n',p.1≠I)→J m' n' tb→z .next s')→aA M A (kG body env) z E s):
  aA M A (kG body env) (uW h₀ L I oI l lo u J Q) E s:=h _ λ_ _ _ _ a b c d e f g=>DC a b c d e f g
end
section
open W PyProof Rows Mine
section
variable {cs:Scope}{c:Fm W0 cs}{sc:Scope}{k:Cx c sc}{m:Lo}{n:Ns}{R:Re}{rest:List Stmt}{x C D:Addr}{es:List DictEntry}{en:Nat}{name:Str}
theorem ja(hn:i≤s.toks)(h:aA M A t (λa s'=>i≤s'.toks→Q a s') E s):aA M A t Q E s:=ci (wpAny_toks_of hn h) (λ_ _ x=>x.2 x.1) (λ_ _ x=>x.2)
theorem Ci{f:PE}{pos:Pos}{fa:Addr}{dp un:Nat}{P:Value→Ns→Prop}(hC:fk W0 fa [] n dp un P)(hf:Ev c.cx m n f (.val (.ref fa)))(hkp:lB (K1 W0) (.ref fa)=true)(hd:c.dp+dp<aH)(hu:c.un+un<cX)
  (c1:autoParam (CC c.env f [] pos) zAa):Er c.cx m n (.Call f [] [] pos) P:=
 ⟨λQ s hi hQ=>gu (hf.run _ s hi λv s1 e i1=>by
  cases e;refine Mu (c.X.keeps i1.at.1.keep) hkp ?_
  exact hC.run c.B i1.at.1 c.X i1.at.2 c.T c.hk hd hu λv n' h' tk' hp z u=>hQ _ _ _ hp (i1.to z u)) c1⟩
theorem Ep{e:PE}{u pos:Pos}{H:Sem Bool}{f:Addr}{dp un:Nat}{P:Value→Ns→Nat→Prop}{Q:VP}{s:Shared}(hC:tO W0 f [.ref x] n dp un P)(he:Ev c.cx m n e (.val (.ref x)))(h1:(x,c8 C D)∈n)(h2:(D,lE es en)∈n)
  (hl:At name es=some none) (hd:c.dp+dp<aH) (hu:c.un+un<cX) (hi:c.Is m n s) (hG:dB s.gens)
  (hq:∀v n' s',P v n' s'.toks→dB s'.gens→s'.os=s.os→Fr c.h₀ c.L s'.heap m→ba c.h₀ c.L s'.heap n'→Q v s')
  (J:autoParam (xd (K1 W0) C name=true) zAc) (hf:autoParam (fK (K1 W0) (.ref C) name=some (some (.ref f))) zAc) (ht:autoParam (isFn (K1 W0) (.ref f)=true) zAc) (hkp:autoParam (lB (K1 W0) (.ref f)=true) zAc) (c1:autoParam (eval (.Call (.Attribute e name u) [] [] pos) c.env=(do
   let G ← eval e c.env
   gc u.atName
   let (f,first) ← gr [G] (gN G name H)
   iI pos f first (fj pos (bW [] c.env)) [])) zAa):
  aA (aq P0 W0) c.A (eval (.Call (.Attribute e name u) [] [] pos) c.env) Q c.E s:=
 iz (he.run _ s hi λv s1 O i1=>by
  cases O;have e1:=jJ hi;have e2:=jJ i1;refine Mq i1.at.1 c.X (gj i1.at.2 h1 h2) J hf ht hl ?_;refine Mu (c.X.keeps i1.at.1.keep) hkp ?_
  exact hC.run c.B i1.at.1 c.X i1.at.2 c.T c.hk hd hu (by rw[e2.1,← e1.1];exact hG) λv n' s' hp z ho Y U=>hq _ _ _ hp z (ho.trans (e2.2.trans e1.2.symm)) Y U) c1
theorem GX{pos wh}(hl:Ev k m n l (.flt 0))(h1:Ev k m n r1 (.val cv))(h2:Ev k m n r2 (.flt 4607182418800017408))(H:MP P0 W0 cv)(hR:MO P0 W0 cv)(hm:autoParam (lastMarks [.LtE,.LtE] [r1,r2]=false) zAc):Tw k m n (.Compare l [.LtE,.LtE] [r1,r2] pos) wh true:=
 ⟨λQ s hi hq=>isTrue_chain (hl.run _ s hi λv s1 G i1=>by
  refine cp G λt z=>?_
  try clear G
  subst z;refine test_link (h1.run _ s1 i1 λv s2 d2 i2=>?_);cases d2;refine H _ _ _ _ _ (aY ?_);rw[if_pos rfl];refine test_last (h2.run _ s2 i2 λv J B i3=>?_);refine cp B λu e=>?_
  try clear B
  subst e
  exact hR _ _ _ _ _ (aY (hq _ i3))) hm⟩
theorem AA{cv:Value}{ge:UInt64→Bool}{y:UInt64}{l r:PE}{pos wh}{P:Value→Ns→Prop}{P':Ns→Prop}(he:Er k m n l P)(hp:∀v n',P v n'→(∃t,v=.float y t)∧P' n')(hr:∀n',Ev k m n' r (.val cv))(hG:Ap P0 W0 cv ge)(hm:autoParam (eR .GtE r=false) zAc):An k m n (.Compare l [.GtE] [r] pos) wh (λb n'=>b=ge y∧P' n'):=
 ⟨λQ s hi hq=>bY (he.run _ s hi λv n1 s1 h1 i1=>(hr n1).run _ s1 i1 λv2 s2 d2 i2=>by
  refine b8 (hp _ _ h1) λe p=>?_;obtain ⟨t,rfl⟩:=e;cases d2
  exact hG _ _ _ _ _ _ (aY (hq _ _ _ ⟨rfl,p⟩ i2))) hm⟩
theorem E3(h:∀hp:Heap,ba c.h₀ c.L hp n→cN c m n sts R):cN c m n sts R:=⟨λQ s hi hq=>(h _ hi.at.2).run Q s hi hq⟩
theorem pq{T:Ns}{A:Addr}:∀p∈T.filter (λp=>p.1 != A),p∈T:=λp hp=>(bZ.mp hp).1
end
noncomputable def gcS:Scope:=tw P0.main.body 11
noncomputable def QB:List Stmt:=vg P0.main.body 11
noncomputable def Se:List Stmt:=sB ((QB[6]?).getD C0)
inductive QW(W0:World)(ys:List Int)(kvj:List (Int×Value))(R:List (Addr×List Int))(pass:Addr×List Int→Bool)(scr:Addr×List Int→UInt64)(news:Ns)(lw lj lk S D RS:Addr)(m0:Lo)(i:Nat)(m1:Lo)(n1:Ns)(tb:Nat):Prop
 | mk (ps:Array Value) (outs:List (Addr×(Addr×List Int))) (re:Nat) (T:Ns) (τ:Nat→Tok) (d:Nat→Value) (hm:∀z,z≠ae "x"→m1 z=m0 z) (hp:ee ps.toList) (g:GC ys kvj R pass scr news D RS T outs i tb) (d2:d 2=.ref lw) (d7:d 7=.ref lj) (d8:d 8=.ref lk) (st:ST W0 ys R (d 1) (d 4) (d 6) T) (hn:n1=(256,bS ps)::(RS,listOf (refsOf outs).toArray re)::(S,c8 278 D)::(D,SO W0 τ d 10)::T)
section
variable {c:Fm W0 gcS}{cv:Value}{ge:UInt64→Bool}{ys:List Int}{vw:List Value}{epw epp:Nat}{oj:Obj}{kvj:List (Int×Value)}{led:Bool}{R:List (Addr×List Int)}{tt:Addr×List Int→Int}{news:Ns}{lw lj lk pp S D RS:Addr}{m0:Lo}
theorem HT(hd:c.dp+70<aH)(hu:c.un+700<cX)(cA:Ap P0 W0 cv ge)(ab:au vw ys)(bh:ys.length≤32)(bi:0<ys.length)(cz:ys.Nodup)(dQ:nX W0 oj kvj)(dv:(lj==cP)=false)(b0:@Ne Nat S D)(dS:@Ne Nat S 256)(dD:@Ne Nat 256 D)(a5:@aR Nat _ RS D)(dR:@Ne Nat RS 256)(fp:@Ne Nat RS S)
  (cw:∀q∈R,jq news q) (c6:∀q∈R,∀t,pM q.2 ys 0 q.2.length 0 ys.length t→t=tt q) (dK:∀q∈R,∀z∈R,q.1=z.1→q=z) (ax:∀q∈R,ge (kq (tt q) ((q.2.length:Int)+(ys.length:Int)))=true→ge (kq ((q.2.filter (·∈ys)).length:Int) ((q.2.length:Int)+(ys.length:Int)))=true∧ge (kq (if (ys.length:Int)<(q.2.length:Int) then (ys.length:Int) else (q.2.length:Int)) ((q.2.length:Int)+(ys.length:Int)))=true)
  (hR:R.length≤40) (hw:(lw,listOf vw.toArray epw)∈news) (hj:(lj,oj)∈news) (hk:(lk,dA led)∈news) (et:m0 (ae "s")=some (.ref S)) (ex:m0 (ae "cutoff")=some cv) (ew:m0 (ae "result")=some (.ref RS))
  {lo:Obj} (as:(pp,lo)∈news) {i tb:Nat}{m1:Lo}{n1:Ns}{I:Addr}{oI:Obj}{q:Addr×List Int}{s1:Shared}{Q:FP} (aa:R[i]?=some q)
  (J:QW W0 ys kvj R (λq=>ge (kq (tt q) ((q.2.length:Int)+(ys.length:Int)))) (λq=>kq (tt q) ((q.2.length:Int)+(ys.length:Int))) news lw lj lk S D RS m0 i m1 n1 tb)
  (u:tb+1≤s1.toks) (G:dB s1.gens) (F:Fr c.h₀ c.L s1.heap (cj m1 (ae "x") (.ref q.1))) (N:ba c.h₀ c.L s1.heap ((I,oI)::(pp,lo)::n1)) (ds:oI.cls=.type "list_iterator") (off:∀p∈n1,p.1≠I) (hP:∀s:Shared,dB s.gens→c.P s)
  (Y:∀(m':Lo) (n':Ns) (tb':Nat) (s':Shared),tb'≤s'.toks→Fr c.h₀ c.L s'.heap m'→ba c.h₀ c.L s'.heap ((I,oI)::(pp,lo)::n')→dB s'.gens→s'.os=s1.os→(∀p∈n',p.1≠I)→QW W0 ys kvj R (λq=>ge (kq (tt q) ((q.2.length:Int)+(ys.length:Int)))) (λq=>kq (tt q) ((q.2.length:Int)+(ys.length:Int))) news lw lj lk S D RS m0 (i+1) m' n' tb'→Q .next s'):
  aA (aq P0 W0) c.A (kG Se c.env) Q c.E s1:=by
 obtain ⟨ps,outs,re,T,τ,d,hm,hp,g,d2,d7,d8,⟨d0,bj,c5⟩,rfl⟩:=J;have O:=cq aa;refine hZ (cw q O) λva ep ar a0 bl eI=>?_;have bm:=g.h0 _ ar;have dq:=g.hD _ bm;refine b8 (fc.mp off) λH off=>?_;refine b8 (fc.mp off) λiR off=>?_;refine b8 (fc.mp off) λiS off=>?_;refine b8 (fc.mp off) λiD iT=>?_;have ms:cj m1 (ae "x") (.ref q.1) (ae "s")=some (.ref S):=(if_neg (by decide)).trans ((hm _ (by decide)).trans et);have mc:cj m1 (ae "x") (.ref q.1) (ae "cutoff")=some cv:=(if_neg (by decide)).trans ((hm _ (by decide)).trans ex);have mr:cj m1 (ae "x") (.ref q.1) (ae "result")=some (.ref RS):=(if_neg (by decide)).trans ((hm _ (by decide)).trans ew);have mx:cj m1 (ae "x") (.ref q.1) (ae "x")=some (.ref q.1):=if_pos rfl;have aD:∀z,z≠ae "x"→cj m1 (ae "x") (.ref q.1) z=m0 z:=λz hz=>(if_neg hz).trans (hm z hz);clear hm;generalize cj m1 (ae "x") (.ref q.1)=m at F ms mc mr mx aD;have e3:outs.length≤40:=aw g.len (aw (aN (bz.mp aa).1) hR)
 have ez:(refsOf outs).length≤ec:=by rw[refsOf,aE];exact aw e3 (by decide)
 have U:∀h tk,c.P {s1 with heap:=h,toks:=tk}:=λ_ _=>hP _ G
 have hi:(c.on s1 U).Is m (SL W0 S D τ d 10 ((256,bS ps)::(RS,listOf (refsOf outs).toArray re)::(I,oI)::T)) s1:=⟨s1.heap,s1.toks,rfl,F,cm N (iB [4,5,2,3,0] 6 rfl)⟩
 have dN:∀p∈(256,bS ps)::(RS,listOf (refsOf outs).toArray re)::(I,oI)::T,p.1≠D:=FC dD (FC (aB a5) (FC (Ne.symm iD) g.hD));have hT:∀p∈T,p∈(256,bS ps)::(RS,listOf (refsOf outs).toArray re)::(I,oI)::T:=λp hp=>bk 3 hp
 have a7:∃same,Jv (SL W0 S D τ d 10 ((256,bS ps)::(RS,listOf (refsOf outs).toArray re)::(I,oI)::T)) (.ref q.1) (d 1) same∧(same=true→d 1=.ref q.1)∧qQ (d 1)=true:=by
  rcases d0 with ⟨t,e⟩|⟨l2,f5,e2,e,e5⟩
  .rw[e];exact(c9 false (.other rfl (λe=>nomatch e)) (λh=>nomatch h) rfl)
  .rw[e]
   by_cases e:q.1=l2
   .exact(c9 true (.self rfl (e▸rfl)) (λ_=>e▸rfl) rfl)
   .exact(c9 false (.refs rfl rfl e (bk 2 (hT _ bm)) (bk 2 (hT _ e5)) (by simp [PySem.W.listOf])) (λh=>nomatch h) rfl)
 refine fM a7 λsame hI cn hh=>?_
 try clear a7
 refine fn (ja u (ii ((pI (c:=c.on s1 U) (Dx b0 dN (by decide) (by decide) hh hI) (ao ms) (.cons (ao mx) .nil) (a8 0 rfl) (a8 1 rfl) (iC λi hi=>nJ (by decide) hi) (dl hd) (dl hu) rfl).run _ s1 hi λv n2 s2 cy i2 u=>?_) (by rfl) (by rfl)))
 have a7:∃B,n2=SL W0 S D τ B 10 ((256,bS ps)::(RS,listOf (refsOf outs).toArray re)::(I,oI)::T)∧B 1=.ref q.1∧B 2=.ref lw∧(B 4=.none∨Gs q.2 ys (B 4) T)∧B 6=d 6∧B 7=.ref lj∧B 8=.ref lk:=by
  refine b8 cy λ_ eo=>?_
  try clear cy
  obtain ⟨fv,e,rfl⟩:=eo;cases e (by decide)
  cases same with
  | true=>exact⟨d,rfl,cn rfl,d2,c5.imp id λ⟨q9,eT,h9,fa⟩=>dK q O q9 eT (GB ((cn rfl).symm.trans h9))▸fa,rfl,d7,d8⟩
  | false=>exact⟨_,rfl,rfl,d2,.inl rfl,rfl,d7,d8⟩
 obtain ⟨B,rfl,e1,e2,e4,e6,e7,e8⟩:=a7;clear cy hI cn hh d0 c5 d2 d7 d8 hi N F;rw[← e6] at bj;have dy:=hT _ bm;have dx:=hT _ (g.h0 _ hw)
 have d3:∀{T':Ns}{v4:Value},(v4=.none∨Gs q.2 ys v4 T')→(v4=.none∨∃z∈R,(.ref q.1:Value)=.ref z.1∧Gs z.2 ys v4 T'):=λh=>h.imp id λh=>(c9 q O rfl h)
 have d5:∀{T':Ns},(∀p∈T,p∈T')→AV (.ref q.1) T':=λh=>.inr (La q.1 va ep rfl (h _ bm));refine fn (Mh (vJ (ja u ((AA (k:=(c.on s1 U).cx) (P':=λn'=>n'=SL W0 S D τ B 10 ((256,bS ps)::(RS,listOf (refsOf outs).toArray re)::(I,oI)::T)) (rA (JX (by decide) e1 e2 dy dx (by rw[a0.length];exact r8 bl rfl) (by rw[ab.length];exact r8 bh rfl) (by rw[ab.length];exact bi)) (ao ms) (a8 0 rfl) (a8 1 rfl) (iC λi hi=>nJ (by decide) hi) (dl hd) (dl hu) rfl) (λv n' h=>by cases h with|mk t=>exact⟨⟨t,rfl⟩,rfl⟩) (λ_=>ao mc) cA).run _ s2 i2 λb n' s3 dj i3 u=>?_))));refine b8 dj λem ek=>?_
 try clear dj
 subst em;subst ek;rw[show nK (if (vw.length:Int)<(va.length:Int) then (vw.length:Int) else (va.length:Int)) ((va.length:Int)+(vw.length:Int))=kq (if (ys.length:Int)<(q.2.length:Int) then (ys.length:Int) else (q.2.length:Int)) ((q.2.length:Int)+(ys.length:Int)) by rw[a0.length,ab.length];rfl]
 cases h1:ge (kq (if (ys.length:Int)<(q.2.length:Int) then (ys.length:Int) else (q.2.length:Int)) ((q.2.length:Int)+(ys.length:Int))) with
 | false=>
  refine fg (fg ?_);have ig:=jJ i3;exact Y m ((256,bS ps)::(RS,listOf (refsOf outs).toArray re)::(S,c8 278 D)::(D,SO W0 τ B 10)::T) tb s3 (iG u) i3.at.1 (cm i3.at.2 (FC (a8 4 rfl) (FC (bk 2 (hT _ (g.h0 _ as))) (FC (a8 2 rfl) (FC (a8 3 rfl) (FC (a8 0 rfl) (FC (a8 1 rfl) λp hp=>bk 5 hp))))))) (ig.1▸G) ig.2 (FC H (FC iR (FC iS (FC iD iT)))) ⟨ps,outs,re,T,τ,B,aD,hp,g.skip aa (I9.mpr λe=>absurd (ax q O e).2 (by rw[h1];decide)),e2,e7,e8,(eP (e1▸d5 λ_ h=>h) bj (e1▸d3 e4)),rfl⟩
 | true=>
  rw[if_pos rfl];refine vJ (ja u ((AA (k:=(c.on s1 U).cx) (y:=nK ((q.2.filter (·∈ys)).length:Int) ((q.2.length:Int)+(ys.length:Int))) (P':=λn'=>∃(fb:Addr) (oF:Obj) (kvF:List (Int×Value)),nX W0 oF kvF∧FB ys kvF∧(fb==cP)=false∧(fb≠256∧fb≠D∧fb≠RS∧fb≠I)∧∀p∈SL W0 S D τ (dr B 6 (.ref fb)) 10 ((256,bS ps)::(RS,listOf (refsOf outs).toArray re)::(I,oI)::(fb,oF)::T),p∈n') (rA (Nq b0 dN e1 e2 (bj.imp id λ⟨a,b,cc,h1,h2,h3⟩=>⟨a,b,cc,h1,hT _ h2,h3⟩) dy dx a0 ab bl bh eI cz bi) (ao ms) (a8 0 rfl) (a8 1 rfl) (iC λi hi=>nJ (by decide) hi) (dl hd) (dl hu) rfl) ?_ (λ_=>ao mc) cA).run _ s3 i3 λb n' s4 dg i4 u=>?_))
  .intro v n' h
   obtain ⟨t,fb,oF,kvF,hv,f1,f2,f3,f4,sub⟩:=h;refine⟨⟨t,hv⟩,fb,oF,kvF,f1,f2,f3,?_,λp hp=>sub p (iB [0,1,3,4,5,2] 6 rfl p hp)⟩
   rcases f4 with h|h
   .rcases bj with h6|⟨bv,cd,_,h6,hx,_⟩
    .rw[h6] at h;cases h
    .rw[h6] at h;cases h;exact(nA (g.h256 _ hx) (g.hD _ hx) (g.hR _ hx) (iT _ hx))
   .exact(nA (aF (h _ (a8 2 rfl))) (aF (h _ (a8 1 rfl))) (aF (h _ (a8 3 rfl))) (aF (h _ (a8 4 rfl))))
  refine b8 dg λei ed=>?_
  try clear dg
  subst ei;obtain ⟨fb,oF,kvF,f1,f2,f3,⟨d6,fD,fR,fI⟩,sub⟩:=ed;replace i4:=i4.sub sub;clear sub;have i4:(c.on s1 U).Is m _ s4:=i4;have ig:=jJ i4;have g2:=g.mono (T':=(fb,oF)::T) (λp hp=>bk 1 hp) (FC fD g.hD) (FC d6 g.h256) (FC fR g.hR);have fl:∀{T':Ns},(fb,oF)∈T'→((.ref fb:Value)=.none∨∃bv cd b5,(.ref fb:Value)=.ref bv∧(bv,cd)∈T'∧nX W0 cd b5∧FB ys b5∧(bv==cP)=false):=λh=>.inr (Ow fb oF kvF rfl h f1 f2 f3)
  cases h2:ge (nK ((q.2.filter (·∈ys)).length:Int) ((q.2.length:Int)+(ys.length:Int))) with
  | false=>
   refine fg (fg ?_);exact Y m ((256,bS ps)::(RS,listOf (refsOf outs).toArray re)::(S,c8 278 D)::(D,SO W0 τ (dr B 6 (.ref fb)) 10)::(fb,oF)::T) tb s4 (iG u) i4.at.1 (cm i4.at.2 (FC (a8 4 rfl) (FC (bk 6 (g.h0 _ as)) (FC (a8 2 rfl) (FC (a8 3 rfl) (FC (a8 0 rfl) (FC (a8 1 rfl) λp hp=>bk 5 hp))))))) (ig.1▸G) ig.2 (FC H (FC iR (FC iS (FC iD (FC fI iT))))) ⟨ps,outs,re,(fb,oF)::T,τ,dr B 6 (.ref fb),aD,hp,g2.skip aa (I9.mpr λe=>absurd (ax q O e).1 (by rw[show kq ((q.2.filter (·∈ys)).length:Int) ((q.2.length:Int)+(ys.length:Int))=nK ((q.2.filter (·∈ys)).length:Int) ((q.2.length:Int)+(ys.length:Int)) from rfl,h2];decide)),e2,e7,e8,(eP (e1.symm▸d5 λp h=>bk 1 h:AV (B 1) _) (fl (a8 0 rfl)) (e1.symm▸d3 (e4.imp id λh=>h.mono λp hp=>bk 1 hp):B 4=.none∨∃z∈R,B 1=_∧_)),rfl⟩
  | true=>
   rw[if_pos rfl];have G4:dB s4.gens:=ig.1▸G;have fs:(pp,lo)∈(fb,oF)::T:=bk 1 (g.h0 _ as);have dV:yI ys kvj ((RS,listOf (refsOf outs).toArray re)::(I,oI)::(fb,oF)::T):=jY g2.hb λp hp=>bk 2 hp;have b4:∀p∈(fb,oF)::T,p∈(RS,listOf (refsOf outs).toArray re)::(I,oI)::(fb,oF)::T:=λp hp=>bk 2 hp;have a4:=λp hp=>b4 p (g2.h0 p hp);refine vJ (bY (ja u (Ep (c:=c.on s1 U) (n:=(256,bS ps)::SL W0 S D τ (dr B 6 (.ref fb)) 10 ((RS,listOf (refsOf outs).toArray re)::(I,oI)::(fb,oF)::T)) (xL b0 (FC (aB a5) (FC (Ne.symm iD) g2.hD)) dD dS (FC dR (FC (Ne.symm H) g2.h256)) e1 e2 (e4.imp id λh=>h.mono λp hp=>bk 3 hp) e7 e8 (a4 _ (ar)) (a4 _ hw) (a4 _ hj) (a4 _ hk) a0 ab bl bh bi cz dQ dv dV hp) (ao ms) (a8 1 rfl) (a8 2 rfl) (iC λi hi=>nJ (by decide) hi) (dl hd) (dl hu) (i4.sub (iB [2,0,1] 3 rfl)) G4 λv n' s6 aQ G6 er F6 N6 u=>?_)));generalize gd:s6.toks=z6 at aQ
   cases aQ with|mk t ht0 r mk rc T2 a6 n' t1 t2 t3 t4 t5 t6 t7 t8 hr0 t9 cD dd sub=>
   have br:(I,oI)∈T2:=t5 _ (a8 1 rfl);have cB:(RS,listOf (refsOf outs).toArray re)∈T2:=t5 _ (a8 0 rfl);have N7:ba c.h₀ c.L s6.heap T2:=cm N6 λp hp=>sub p (bk 4 hp);have c3:RS≠I:=iR;have ey:∀p∈(fb,oF)::T,p.1≠I:=FC fI iT;have g3:GC ys kvj R (λq=>ge (kq (tt q) ((q.2.length:Int)+(ys.length:Int)))) (λq=>kq (tt q) ((q.2.length:Int)+(ys.length:Int))) news D RS ((T2.filter λp=>p.1 != I).filter λp=>p.1 != RS) outs i tb:=g2.mono (λp hp=>iO (iO (t5 p (bk 2 hp)) (ey p hp)) (g2.hR p hp)) (kt (kt t6)) (kt (kt t7)) uo;have d1:∀p∈(T2.filter λp=>p.1 != I).filter λp=>p.1 != RS,p.1≠I:=kt uo;have hM:∀x∈mk,sM ((T2.filter λp=>p.1 != I).filter λp=>p.1 != RS) x:=λx hx=>x8 (a:=[]) (cm N7 pq) (iO cB c3) (by simp [PySem.W.listOf]) (x8 (a:=[]) N7 br (by rw[ds];simp) (t4 x hx));have cM:∀p∈(T2.filter λp=>p.1 != I).filter λp=>p.1 != RS,p∈T2:=λp hp=>pq p (pq p hp);have dM:(fb,oF)∈(T2.filter λp=>p.1 != I).filter λp=>p.1 != RS:=iO (iO (t5 _ (a8 2 rfl)) fI) fR;have rI:r≠I:=zw N6 (sub _ (a8 1 rfl)) (sub _ (bk 4 br)) (by rw[ds];simp [PySem.W.listOf])
   have cU:r≠RS:=by
    rcases t8 with h|h
    .rcases e4 with h4|⟨r',_,_,h4,hx,_⟩
     .cases (h:B 4=.ref r).symm.trans h4
     .cases (h:B 4=.ref r).symm.trans h4;exact g.hR _ hx
    .exact aF (aP a5 h)
   replace N6:=cm N6 (FC (sub _ (a8 0 rfl)) (FC (sub _ (bk 4 cB)) (FC (sub _ (bk 4 br)) (FC (sub _ (a8 2 rfl)) (FC (sub _ (a8 3 rfl)) (FC (sub _ (a8 1 rfl)) λp hp=>sub p (bk 4 (cM p hp))))))));clear N7 br cB t5 t6 t7 t4 sub cM t8 hr0 g2 dV b4 a4;generalize ((T2.filter λp=>p.1 != I).filter λp=>p.1 != RS)=T3 at *;have fm:=c6 q O _ t1;have aQ:∀h tk,c.P {s6 with heap:=h,toks:=tk}:=λ_ _=>hP _ G6;have c0:s6.os=s1.os:=er.trans ig.2;have g4:GC ys kvj R (λq=>ge (kq (tt q) ((q.2.length:Int)+(ys.length:Int)))) (λq=>kq (tt q) ((q.2.length:Int)+(ys.length:Int))) news D RS ((r,listOf (refsOf mk).toArray rc)::T3) outs i tb:=g3.mono (λp hp=>bk 1 hp) (FC t9 g3.hD) (FC cD g3.h256) (FC cU g3.hR)
   have cC:∀{T':Ns},(∀p∈(r,listOf (refsOf mk).toArray rc)::T3,p∈T')→Gs q.2 ys (.ref r) T':=λh=>⟨r,mk,rc,rfl,h _ (a8 0 rfl),t1,t2,t3,λx hx=>(hM x hx).mono λp hp=>h p (bk 1 hp)⟩
   refine ja u ((ao (k:=((c.on s1 U).on s6 aQ).cx) (n:=(256,bS a6)::(RS,listOf (refsOf outs).toArray re)::(I,oI)::(S,c8 278 D)::(D,SO W0 τ (dr (dr B 6 (.ref fb)) 4 (.ref r)) 10)::(r,listOf (refsOf mk).toArray rc)::T3) mc).run _ s6 ⟨s6.heap,s6.toks,rfl,F6,N6⟩ λv2 s7 d7 i7 u=>?_);cases d7;have i7:((c.on s1 U).on s6 aQ).Is m _ s7:=i7;have bb:=jJ i7;refine cA _ _ _ _ _ _ (aY ?_);rw[show nK (ej mk) ((q.2.length:Int)+(ys.length:Int))=kq (tt q) ((q.2.length:Int)+(ys.length:Int)) from fm▸rfl]
   cases h3:ge (kq (tt q) ((q.2.length:Int)+(ys.length:Int))) with
   | false=>
    refine fg (fg ?_);exact Y m ((256,bS a6)::(RS,listOf (refsOf outs).toArray re)::(S,c8 278 D)::(D,SO W0 τ (dr (dr B 6 (.ref fb)) 4 (.ref r)) 10)::(r,listOf (refsOf mk).toArray rc)::T3) tb s7 (iG u) i7.at.1 (cm i7.at.2 (FC (a8 2 rfl) (FC (bk 6 (g3.h0 _ as)) (FC (a8 0 rfl) (FC (a8 1 rfl) (FC (a8 3 rfl) (FC (a8 4 rfl) λp hp=>bk 5 hp))))))) (bb.1▸G6) (bb.2.trans c0) (FC H (FC iR (FC iS (FC iD (FC rI d1))))) ⟨a6,outs,re,(r,listOf (refsOf mk).toArray rc)::T3,τ,dr (dr B 6 (.ref fb)) 4 (.ref r),aD,dd,g4.skip aa h3,e2,e7,e8,(eP (e1.symm▸.inr ⟨q.1,va,ep,rfl,g4.h0 _ ar⟩:AV (B 1) _) (.inr ⟨fb,oF,kvF,rfl,bk 1 dM,f1,f2,f3⟩) (.inr ⟨q,O,e1,cC λp h=>h⟩)),rfl⟩
   | true=>
    rw[if_pos rfl];refine isTrue_and_nil ?_;rw[if_pos rfl];have d4:dB s7.gens:=bb.1▸G6;have bo:∀h tk,c.P {s7 with heap:=h,toks:=tk}:=λ_ _=>hP _ d4
    have i7:(c.on s7 bo).Is m _ s7:=⟨s7.heap,s7.toks,rfl,i7.at.1,i7.at.2⟩
    have gg:=i7.at.2 _ (a8 1 rfl);have ah:=g3.h0;have fe:yI ys kvj ((RS,listOf (refsOf outs).toArray re)::(I,oI)::(r,listOf (refsOf mk).toArray rc)::T3):=jY g3.hb λp hp=>bk 3 hp;refine fn (ii (iz (ja u ((ao (k:=(c.on s7 bo).cx) mr).run _ s7 i7 λv8 s8 d8 i8 u=>?_)) (by rfl)) (by rfl) (by rfl));cases d8;have i8:(c.on s7 bo).Is m _ s8:=i8;have c2:=jJ i8;refine PySem.Calls.getMethod_list_append (i8.at.2 _ (a8 1 rfl)).1 rfl rfl (lK (aI (vM (aI (ja u (Ep (c:=c.on s7 bo) (n:=(256,bS a6)::SL W0 S D τ (dr (dr B 6 (.ref fb)) 4 (.ref r)) 10 ((RS,listOf (refsOf outs).toArray re)::(I,oI)::(r,listOf (refsOf mk).toArray rc)::T3)) (xL b0 (FC (aB a5) (FC (Ne.symm iD) (FC t9 g3.hD))) dD dS (FC dR (FC (Ne.symm H) (FC cD g3.h256))) e1 e2 (.inr (cC λp h=>bk 2 h)) e7 e8 (bk 3 (ah _ ar)) (bk 3 (ah _ hw)) (bk 3 (ah _ hj)) (bk 3 (ah _ hk)) a0 ab bl bh bi cz dQ dv fe dd) (ao ms) (a8 1 rfl) (a8 2 rfl) (iC λi hi=>nJ (by decide) hi) (dl hd) (dl hu) (i8.sub (iB [0,3,4,1,2] 5 rfl)) (c2.1▸d4) λv n' s9 aM G9 eq F9 N9 u=>?_)) (by rfl))) (by rfl)) (by rfl));generalize c4:s9.toks=z9 at aM
    cases aM with|mk b6 u0 r' gb f7 T9 ca n' u1 u2 u3 u4 u5 u6 u7 u8 ur u9 f6 up sub=>
    cases ur r rfl;rw[c6 q O _ u1,show nK (tt q) ((q.2.length:Int)+(ys.length:Int))=kq (tt q) ((q.2.length:Int)+(ys.length:Int)) from rfl];have aM:∀h tk,c.P {s9 with heap:=h,toks:=tk}:=λ_ _=>hP _ G9;replace N9:=cm N9 (FC (sub _ (bk 4 (u5 _ (a8 0 rfl)))) (FC (sub _ (a8 0 rfl)) (FC (sub _ (bk 4 (u5 _ (a8 1 rfl)))) (FC (sub _ (a8 2 rfl)) (FC (sub _ (a8 3 rfl)) λp hp=>sub p (bk 4 (u5 p (bk 2 hp))))))));refine ja (fz c4.symm) (aI ((ao (k:=(c.on s9 aM).cx) mx).run _ s9 ⟨s9.heap,s9.toks,rfl,F9,N9⟩ λv3 cQ fr ap=>bK λeB=>?_) (by rfl));cases fr;have ap:(c.on s9 aM).Is m _ cQ:=ap;have c1:=jJ ap;refine iF ap.at.1 ap.at.2 (λtA h' F' N' lA=>bK ?_) (by decide:2≤ec)
    have e9:(refsOf (outs++[(tA,q)])).toArray=(refsOf outs).toArray.push (.ref tA):=by simp [refsOf]
    have aj:∀{A:Addr}{o:Obj},(A,o)∈(RS,listOf (refsOf outs).toArray re)::(256,bS ca)::(I,oI)::(S,c8 278 D)::(D,SO W0 τ (dr (dr (dr B 6 (.ref fb)) 4 (.ref r)) 4 (.ref r)) 10)::(r,listOf (refsOf mk).toArray rc)::T3→tA≠A:=λh=>aF (lA _ h);refine append_K F' (N:=cm N' (iB [1,0] 2 rfl)) (.head ?_) (λh2 F2 N2=>?_) (by rw[aL];exact ez)
    .exact FC (aj (a8 0 rfl)) (FC (Ne.symm dR) (FC (Ne.symm c3) (FC (Ne.symm fp) (FC (Ne.symm (aB a5)) (FC cU g3.hR)))))
    refine fg (fg ?_);rw[← e9] at N2;have tT:∀p∈(r,listOf (refsOf mk).toArray rc)::T3,@aR Nat _ p.1 tA:=λp hp=>lA p (bk 5 hp);exact Y m ((256,bS ca)::(RS,listOf (refsOf (outs++[(tA,q)])).toArray (re+1))::(S,c8 278 D)::(D,SO W0 τ (dr (dr (dr B 6 (.ref fb)) 4 (.ref r)) 4 (.ref r)) 10)::(tA,dU #[.float (kq (tt q) ((q.2.length:Int)+(ys.length:Int))) b6,.ref q.1])::(r,listOf (refsOf mk).toArray rc)::T3) (b6+1) {cQ with heap:=h2} eB F2 (cm N2 (FC (a8 3 rfl) (FC (bk 7 (ah _ as)) (FC (a8 2 rfl) (FC (a8 0 rfl) (FC (a8 4 rfl) (FC (a8 5 rfl) (FC (a8 1 rfl) λp hp=>bk 6 hp)))))))) (c1.1▸G9) (c1.2.trans (eq.trans (c2.2.trans (bb.2.trans c0)))) (FC H (FC iR (FC iS (FC iD (FC (aj (a8 2 rfl)) (FC rI d1)))))) ⟨ca,outs++[(tA,q)],re+1,_,τ,dr (dr (dr B 6 (.ref fb)) 4 (.ref r)) 4 (.ref r),aD,up,g4.add aa h3 u0 (CO (c4▸u:tb+1≤b6+1)) (aJ _) tT (aj (a8 4 rfl)) (aj (a8 1 rfl)) (aj (a8 0 rfl)),e2,e7,e8,(eP (e1.symm▸.inr ⟨q.1,va,ep,rfl,bk 2 (ah _ ar)⟩:AV (B 1) _) (.inr ⟨fb,oF,kvF,rfl,bk 2 dM,f1,f2,f3⟩) (.inr ⟨q,O,e1,cC λp h=>bk 1 h⟩)),rfl⟩
inductive RE(W0:World)(R:List (Addr×List Int))(pass:Addr×List Int→Bool)(Rel:List (Addr×(Addr×List Int))→List (Addr×(Addr×List Int))→Prop)(news:Ns)(n':Ns)(v:Value):Prop
 | mk (OUT:Addr) (outs outs2:List (Addr×(Addr×List Int))) (ps:Array Value) (T:Ns) (hv:v=.ref OUT) (h1:outs.map (·.2)=R.filter pass) (h2:Rel outs outs2) (h3:∀o∈outs2,o∈outs) (h4:∀p∈news,p∈T) (h5:∀p∈T,p.1≠OUT) (h6:∀p∈T,p.1≠256) (h7:OUT≠256) (h8:ee ps.toList) (hn:n'=(OUT,bB (outs2.map λo=>.ref o.2.1))::(256,bS ps)::T)
theorem HU(cD:c.dp+79<aH)(cU:c.un+790<cX)(dK:c.P=λs=>dB s.gens)(hG:dB c.s.gens){nn:Int}{tn:Tok}{ps:Array Value}{Pre:List (Addr×(Addr×List Int))→Prop}{Rel:List (Addr×(Addr×List Int))→List (Addr×(Addr×List Int))→Prop}(dg:ee ps.toList)(dv:0<nn)(dM:MP P0 W0 cv)(dy:MO P0 W0 cv)(dN:Ap P0 W0 cv ge)(cz:au vw ys)(b0:ys.length≤32)(c3:0<ys.length)(b6:ys.Nodup)(s256:∀p∈news,p.1≠256)
  (H:∀q∈R,jq news q) (c4:∀q∈R,∀t,pM q.2 ys 0 q.2.length 0 ys.length t→t=tt q) (ca:∀q∈R,∀z∈R,q.1=z.1→q=z) (aj:∀q∈R,ge (kq (tt q) ((q.2.length:Int)+(ys.length:Int)))=true→ge (kq ((q.2.filter (·∈ys)).length:Int) ((q.2.length:Int)+(ys.length:Int)))=true∧ge (kq (if (ys.length:Int)<(q.2.length:Int) then (ys.length:Int) else (q.2.length:Int)) ((q.2.length:Int)+(ys.length:Int)))=true)
  (hR:R.length≤40) (hw:(lw,listOf vw.toArray epw)∈news) (b5:(pp,listOf (refsOf R).toArray epp)∈news) (b4:∀outs:List (Addr×(Addr×List Int)),outs.map (·.2)=R.filter (λq=>ge (kq (tt q) ((q.2.length:Int)+(ys.length:Int))))→Pre outs) (ds:ss W0 nn (λq=>kq (tt q) ((q.2.length:Int)+(ys.length:Int))) Pre Rel)
  (mw:m0 (ae "word")=some (.ref lw)) (mp:m0 (ae "possibilities")=some (.ref pp)) (mn:m0 (ae "n")=some (.int nn tn)) (mc:m0 (ae "cutoff")=some cv):
  cN c m0 ((256,bS ps)::news) QB (λf m' n'=>∃v,f=.ret v∧RE W0 R (λq=>ge (kq (tt q) ((q.2.length:Int)+(ys.length:Int)))) Rel news n' v):=by
 refine g9 (dE (qt (eJ qk (ag mn) bf)) (λh=>?_) λ_=>bQ ?_)
 .rw[decide_eq_true dv] at h;cases h
 refine dE (qt (GX wR (ao mc) wR dM dy)) (λh=>bI h) λ_=>bQ ?_;refine dL mZ λv n1 h=>?_;refine fM h λRS a7 a6 bm=>?_
 try clear h
 subst a7;subst a6;refine dL (Ci Nl fV (by with_unfolding_all rfl) (dl cD) (dl cU)) λv n1 h=>?_;refine P8 h λS D ua ub n0 τ0 u a5 l1 l2 aM a4=>?_
 try clear h
 subst a5;obtain ⟨τ,bl,bj,bi,bb,d3,e0,cB,T1,_,ab,as,_,_,_,nj,nk,np,_,rfl⟩:=a4;have ms:cj (cj m0 (ae "result") (.ref RS)) (ae "s") (.ref S) (ae "s")=some (.ref S):=rfl;have mr:cj (cj m0 (ae "result") (.ref RS)) (ae "s") (.ref S) (ae "result")=some (.ref RS):=rfl;replace mw:cj (cj m0 (ae "result") (.ref RS)) (ae "s") (.ref S) (ae "word")=some (.ref lw):=mw;replace mp:cj (cj m0 (ae "result") (.ref RS)) (ae "s") (.ref S) (ae "possibilities")=some (.ref pp):=mp;replace mn:cj (cj m0 (ae "result") (.ref RS)) (ae "s") (.ref S) (ae "n")=some (.int nn tn):=mn;replace mc:cj (cj m0 (ae "result") (.ref RS)) (ae "s") (.ref S) (ae "cutoff")=some cv:=mc;generalize cj (cj m0 (ae "result") (.ref RS)) (ae "s") (.ref S)=m at ms mr mw mp mn mc;have ah:∀p∈(RS,listOf [].toArray 0)::(256,bS ps)::news,p∈(bi,dA cB)::(bj,dA e0)::(bl,bb)::T1:=λp hp=>bk 3 (ab p hp);refine oP (pI (Dw (dp:=1) (un:=3) (bv:=.ref lw) (P:=λτ=>MR W0 S D 10 τ _ ys ((bi,dA cB)::(bj,dA e0)::(bl,bb)::T1)) (by decide) (by decide) aM (FC np (FC nk (FC nj as))) (by decide) (by decide) rfl (.other rfl (λe=>nomatch e)) λcC _=>FF (n:=10) aM (FC np (FC nk (FC nj as))) (by decide) (by decide) rfl rfl rfl b0 b6 (.inr (nV lw vw epw rfl (ah _ (bk 2 hw)) cz))) (ao ms) (.cons (ao mw) .nil) (a8 0 rfl) (a8 1 rfl) (iC λi hi=>nJ (by decide) hi) (dl cD) (dl cU) rfl) λv n' h=>?_;refine b8 h λ_ a0=>?_
 try clear h
 obtain ⟨cC,u',_,U,lj,lk,lp,oj,kvj,led,led2,T2,_,aa,cy,ap,dx,hB,c0,cQ,cM,_,rfl⟩:=a0;refine E3 λdj N0=>?_;have s3:∀p∈(RS,listOf [].toArray 0)::(256,bS ps)::news,p∈(lp,dA led2)::(lk,dA led)::(lj,oj)::T2:=λp hp=>bk 3 (aa p (ah p hp));have N3:ba c.h₀ c.L dj ((lp,dA led2)::(lk,dA led)::(lj,oj)::T2):=cm N0 λp hp=>bk 2 hp;have ar:∀p∈(lp,dA led2)::(lk,dA led)::(lj,oj)::T2,p.1≠D:=FC cM (FC cQ (FC c0 cy));have aD:yI ys kvj ((lp,dA led2)::(lk,dA led)::(lj,oj)::T2):=jY hB λp hp=>bk 3 hp;have hj:(lj,oj)∈(lp,dA led2)::(lk,dA led)::(lj,oj)::T2:=a8 2 rfl;have hk:(lk,dA led)∈(lp,dA led2)::(lk,dA led)::(lj,oj)::T2:=a8 1 rfl;generalize (lp,dA led2)::(lk,dA led)::(lj,oj)::T2=T3 at s3 N3 ar aD hj hk;have h256:=s3 _ (a8 1 rfl);have O:=s3 _ (a8 0 rfl);have dR:@Ne Nat RS 256:=aF (bm _ (a8 0 rfl));have br:lj≠256:=zi N3 hj h256 (by rw[dict_cls ap];simp);have bo:lk≠256:=zi N3 hk h256 (by simp [dA]);have jR:lj≠RS:=zw N3 hj O (by rw[dict_cls ap];simp [PySem.W.listOf]);have kR:lk≠RS:=zw N3 hk O (by simp [dA,PySem.W.listOf]);have nR:∀p∈news,p.1≠RS:=λp hp=>aB (bm p (bk 1 hp));have cA:yI ys kvj ((T3.filter λp=>p.1 != 256).filter λp=>p.1 != RS):=Bo (a:=[]) (cm N3 pq) (iO O dR) (λj t ep=>by simp [PySem.W.listOf]) (Bo (a:=[]) N3 h256 (λj t ep=>by simp [bS,PySem.W.listOf]) aD)
 have g0:GC ys kvj R (λq=>ge (kq (tt q) ((q.2.length:Int)+(ys.length:Int)))) (λq=>kq (tt q) ((q.2.length:Int)+(ys.length:Int))) ((lj,oj)::(lk,dA led)::news) D RS ((T3.filter λp=>p.1 != 256).filter λp=>p.1 != RS) [] 0 0:=⟨FC (iO (iO hj br) jR) (FC (iO (iO hk bo) kR) λp hp=>iO (iO (s3 p (bk 2 hp)) (s256 p hp)) (nR p hp)),kt (kt ar),kt uo,uo,cA,(db (λ_=>0) (λ_ h=>nomatch h) (λ_ h=>nomatch h)),rfl⟩
 refine(?fin:∀d:Nat→Value,d 1=.str "" ua→d 2=.ref lw→d 4=.none→d 6=.none→d 7=.ref lj→d 8=.ref lk→cN c m (SL W0 S D U d 10 T3) _ _) _ rfl rfl rfl rfl rfl rfl;intro d d1 d2 d4 d6 d7 d8;refine cO (n':=(256,bS ps)::(RS,listOf (refsOf ([]:List (Addr×(Addr×List Int)))).toArray 0)::SL W0 S D U d 10 ((T3.filter λp=>p.1 != 256).filter λp=>p.1 != RS)) ?_ (FC (bk 2 h256) (FC (bk 2 O) (FC (a8 0 rfl) (FC (a8 1 rfl) λp hp=>bk 2 (pq p (pq p hp))))));clear aD cA ar h256 O s3 N3 N0 hB cy aa ah as ab hj hk;generalize ((T3.filter λp=>p.1 != 256).filter λp=>p.1 != RS)=T at g0;have dS:@Ne Nat S 256:=aF (l1 _ (a8 1 rfl));have dD:@Ne Nat 256 D:=aB (l2 _ (a8 1 rfl));have dV:@aR Nat _ RS D:=l2 _ (a8 0 rfl);have dQ:@Ne Nat RS S:=aB (l1 _ (a8 0 rfl));refine⟨λQ s hi hq=>?_⟩;have ig:=jJ hi;have ax:∀s:Shared,dB s.gens→c.P s:=λs h=>dK▸h;refine fn (DB (l:=pp) (vs:=refsOf R) (n:=epp) (news:=(256,bS ps)::(RS,listOf (refsOf ([]:List (Addr×(Addr×List Int)))).toArray 0)::SL W0 S D U d 10 T) hi.at.1 (cm hi.at.2 (FC (bk 4 (g0.h0 _ (bk 2 b5))) λp h=>h)) (ig.1▸hG) rfl (by rfl) (by rfl) (λQ' hq=>c.cx.load hi mp (by rfl) (by decide) hq) (λ_=>rfl) (QW W0 ys kvj R (λq=>ge (kq (tt q) ((q.2.length:Int)+(ys.length:Int)))) (λq=>kq (tt q) ((q.2.length:Int)+(ys.length:Int))) ((lj,oj)::(lk,dA led)::news) lw lj lk S D RS m) ⟨ps,[],0,T,U,d,(λ_ _=>rfl),dg,g0,d2,d7,d8,(eP (.inl ⟨ua,d1⟩) (.inl d6) (.inl d4)),rfl⟩ ?turn ?done c.hE)
 case turn=>
  intro i v m1 n1 tb I oI s1 hv J c5 G os F N dq off _;refine fN (mJ hv) λq dd aQ=>?_;subst aQ;refine DD λQ9 cw=>?_;refine HT (dl cD) (dl cU) dN cz b0 c3 b6 ap dx aM dS dD dV dR dQ (λq hq=>?_) c4 ca aj hR (bk 2 hw) (a8 0 rfl) (a8 1 rfl) ms mc mr (bk 2 b5) dd J c5 G F N dq off ax λm' n' tb' s' a b cc e f g h=>cw m' n' tb' s' a b cc e (f.trans os) g h;refine pU (H q hq) λva ep h1 h2=>?_;exact(vu va ep (bk 2 h1) h2)
 case done=>
  intro m1 n1 tb s1 J G os F N;obtain ⟨ps',outs,re,T',τ,d',hm,hp,g,_,_,_,_,rfl⟩:=J;have cn:=g.len;have Y:=g.hm;rw[refsOf,aE] at cn;rw[refsOf,aE,cT] at Y;have c1:m1 (ae "result")=some (.ref RS):=(hm _ (by decide)).trans mr;have Kx:m1 (ae "n")=some (.int nn tn):=(hm _ (by decide)).trans mn;have sT:=g.h256;have cd:∃tok:Addr→Tok,(∀o∈outs,tok o.1≠0∧(o.1,dU #[.float (kq (tt o.2) ((o.2.2.length:Int)+(ys.length:Int))) (tok o.1),.ref o.2.1])∈(256,bS ps')::T')∧∀o∈outs,∀o'∈outs,tok o.1=tok o'.1→o=o':=let ⟨tok,h1,h2⟩:=g.ho;⟨tok,λo ho=>⟨(h1 o ho).1,bk 1 (h1 o ho).2.2⟩,h2⟩
  have c6:∀o∈outs,jq ((256,bS ps')::T') o.2:=λo ho=>by
   refine pU (H o.2 (bZ.mp (Y▸fZ ho:o.2∈R.filter _)).1) λva ep h1 h2=>?_;exact(vu va ep (bk 1 (g.h0 _ (bk 2 h1))) h2)
  refine zY (c:=c) (hP:=λ_ _=>ax _ G) (os.trans ig.2) (λf m' n' h=>h.elim λv h=>⟨v,h.1⟩) (cO (n':=(RS,listOf (refsOf outs).toArray re)::(256,bS ps')::T') (dL (Bb (fa:=288) (v1:=.int nn tn) (v2:=.ref RS) (P:=λv n'=>∃(NR:Addr) (outs2:List (Addr×(Addr×List Int))) (c2:Nat),v=.ref NR∧n'=(NR,listOf (refsOf outs2).toArray c2)::(256,bS ps')::T'∧Rel outs outs2∧(∀o∈outs2,o∈outs)∧outs2.length≤40) fV (ao Kx) (ao c1) (by with_unfolding_all rfl) λs Q E F N hq=>?_) λv n' h=>?_) (iB [2,1] 5 rfl)) F N hq
  .exact ds _ _ _ _ _ _ _ _ _ _ _ _ _ _ _ _ _ _ _ _ _ _ _ _ _ _ _ c.B F c.X N c.T c.hk (dl cD) (dl cU) (aw cn hR) (b4 outs Y) cd c6 λNR outs2 c2 h' tk' h1 h2 h3 _ F2 N2=>hq _ _ _ _ (Ow NR outs2 c2 rfl rfl h1 h2 h3) F2 N2
  .obtain ⟨NR,outs2,c2,rfl,rfl,h1,h2,h3⟩:=h
   refine bL ⟨λQ s hi hq=>iP (LCp.ListComp_P (cl:=[]) hi.at.1 (by rfl) (by decide) rfl (by decide) (by rfl) (by rfl) (by decide) ((ao (k:=(c.on s1 λ_ _=>ax _ G).cx) (x:=ae "result") (v:=.ref NR) rfl).run _ s hi λv s' d i'=>?_))⟩;cases d;refine CL (its:=(refsOf outs2).toArray) (k:=c2) rfl i'.at.1 i'.at.2 (a8 0 rfl) (by rw[aL,refsOf,aE];exact aw h3 (by decide)) λgg=>?_;refine yw (scr:=λq=>kq (tt q) ((q.2.length:Int)+(ys.length:Int))) rfl (λo ho=>cd.elim λtok h=>⟨_,bk 1 (h.1 o (h2 o ho)).2⟩) (.inr (c9 (listOf (refsOf outs2).toArray c2) (a8 0 rfl) rfl ⟨_,rfl⟩)) (λ_=>rfl) (λ_=>rfl) (by decide) ?_ _ 0 [] (by simp [refsOf]) rfl;intro OUT h7 d0 F7 N7 off;refine ku off λ_ bh oT=>?_
   try clear off
   exact hq (.ret (.ref OUT)) _ _ _ (db _ rfl ⟨OUT,outs,outs2,ps',T',rfl,Y,h1,h2,(λp hp=>g.h0 p (bk 2 hp)),xQ oT,sT,Ne.symm bh,hp,rfl⟩) (i'.to F7 (cm N7 (FC (a8 0 rfl) (FC (a8 2 rfl) λp hp=>bk 3 hp)))).lib
end
theorem Le{cv:Value}{ge:UInt64→Bool}{ys:List Int}{vw:List Value}{epw epp:Nat}{R:List (Addr×List Int)}{tt:Addr×List Int→Int}{news:Ns}{lw pp:Addr}{nn:Int}{O:Tok}{ps:Array Value}{Pre:List (Addr×(Addr×List Int))→Prop}{Rel:List (Addr×(Addr×List Int))→List (Addr×(Addr×List Int))→Prop}(ab:ee ps.toList)(ar:0<nn)(ax:MP P0 W0 cv)(as:MO P0 W0 cv)(aD:Ap P0 W0 cv ge)(aM:au vw ys)(U:ys.length≤32)(Y:0<ys.length)(aj:ys.Nodup)(s256:∀p∈news,p.1≠256)
  (u:∀q∈R,jq news q) (aa:∀q∈R,∀t,pM q.2 ys 0 q.2.length 0 ys.length t→t=tt q) (J:∀q∈R,∀z∈R,q.1=z.1→q=z) (B:∀q∈R,ge (kq (tt q) ((q.2.length:Int)+(ys.length:Int)))=true→ge (kq ((q.2.filter (·∈ys)).length:Int) ((q.2.length:Int)+(ys.length:Int)))=true∧ge (kq (if (ys.length:Int)<(q.2.length:Int) then (ys.length:Int) else (q.2.length:Int)) ((q.2.length:Int)+(ys.length:Int)))=true)
  (hR:R.length≤40) (hw:(lw,listOf vw.toArray epw)∈news) (ah:(pp,listOf (refsOf R).toArray epp)∈news) (H:∀outs:List (Addr×(Addr×List Int)),outs.map (·.2)=R.filter (λq=>ge (kq (tt q) ((q.2.length:Int)+(ys.length:Int))))→Pre outs) (ap:ss W0 nn (λq=>kq (tt q) ((q.2.length:Int)+(ys.length:Int))) Pre Rel):
  tO W0 294 [.ref lw,.ref pp,.int nn O,cv] ((256,bS ps)::news) 80 793 (λv n' _=>RE W0 R (λq=>ge (kq (tt q) ((q.2.length:Int)+(ys.length:Int)))) Rel news n' v):=
 Bi (body:=QB) (scope:=gcS) (binds:=[("word",.ref lw),("possibilities",.ref pp),("n",.int nn O),("cutoff",cv)]) (by with_unfolding_all rfl) (by with_unfolding_all rfl) (λs X=>pQ X rfl (by with_unfolding_all rfl) rfl rfl rfl) (sw rfl) rfl rfl rfl (by decide) λc Q hd hu _ _ hG hi hq=>by
  have hb:=HU (c:={c with P:=λs=>dB s.gens,hP:=λ_ _=>hG}) (m0:=λy=>([("word",.ref lw),("possibilities",.ref pp),("n",.int nn O),("cutoff",cv)]:List (Str×Value)).reverse.lookup y) hd hu rfl hG ab ar ax as aD aM U Y aj s256 u aa J B hR hw ah H ap rfl rfl rfl rfl
  exact hb.run Q c.s (let ⟨h',tk,e,F,N⟩:=hi;⟨h',tk,e,F,N⟩) λf m' n' s' r i=>by
   refine fN r λv G hv=>?_
   try clear r
   subst G;exact hq v m' n' s' hv i.2.1 i.1 i.2.2.1 i.2.2.2
theorem Jm{gp:Program}{gl:List Str}{mean:ExcName→Option Value}{mg mb:Lo}{dp un:Nat}{gd:Option (List sU)}{cn:Str}{cs:Scope}{a:Addr}{ccd:Value}{cl:List (Str×Addr)}{outer:List Env}{A₀:Around}{base h₀:Heap}{L:Addr}{m:Lo}{news:Ns}{s:Shared}{Q E:VP}{lw pp:Addr}{epw epp:Nat}{vw:List Value}{R:List (Addr×List Int)}{ps:Array Value}{nn:Int}{tn:Tok}{cv:Value}{ge:UInt64→Bool}{Pre:List (Addr×(Addr×List Int))→Prop}{Rel:List (Addr×(Addr×List Int))→List (Addr×(Addr×List Int))→Prop}
  (B:qU A₀ base outer h₀) (F:Fr h₀ L s.heap m) (X:(hd.heap_1 W0.params).In h₀) (N:ba h₀ L s.heap ((256,bS ps)::(lw,listOf vw.toArray epw)::(pp,listOf (refsOf R).toArray epp)::news)) (T:Top gp gl mean mg mb h₀) (hk:cs.kind=.function)
  (ap:dp+80<aH) (hu:un+800<cX) (ys:List Int) (aD:au vw ys) (O:ys.length≤32) (U:0<ys.length) (ab:ys.Nodup) (aa:ee ps.toList) (hG:dB s.gens) (hR:R.length≤40) (s256:∀p∈news,p.1≠256) (e1:@Ne Nat lw 256) (e2:@Ne Nat pp 256) (aj:0<nn) (as:MP cH.row.prog W0 cv) (ar:MO cH.row.prog W0 cv) (ax:Ap cH.row.prog W0 cv ge) (tt:Addr×List Int→Int) (e:∀q∈R,jq news q) (Y:∀q∈R,∀t,pM q.2 ys 0 q.2.length 0 ys.length t→t=tt q) (J:∀q∈R,∀z∈R,q.1=z.1→q=z) (u:∀q∈R,ge (kq (tt q) ((q.2.length:Int)+(ys.length:Int)))=true→ge (kq ((q.2.filter (·∈ys)).length:Int) ((q.2.length:Int)+(ys.length:Int)))=true∧ge (kq (if (ys.length:Int)<(q.2.length:Int) then (ys.length:Int) else (q.2.length:Int)) ((q.2.length:Int)+(ys.length:Int)))=true) (H:∀outs:List (Addr×(Addr×List Int)),outs.map (·.2)=R.filter (λq=>ge (kq (tt q) ((q.2.length:Int)+(ys.length:Int))))→Pre outs) (ah:ss W0 nn (λq=>kq (tt q) ((q.2.length:Int)+(ys.length:Int))) Pre Rel) (hret:∀(OUT:Addr) (outs outs2:List (Addr×(Addr×List Int))) (G:Array Value) (T:Ns) (s2:Shared),outs.map (·.2)=R.filter (λq=>ge (kq (tt q) ((q.2.length:Int)+(ys.length:Int))))→Rel outs outs2→(∀o∈outs2,o∈outs)→(∀p∈news,p∈T)→(∀p∈T,p.1≠OUT)→(∀p∈T,p.1≠256)→OUT≠256→OUT≠lw→OUT≠pp→ee G.toList→dB s2.gens→s2.os=s.os→Fr h₀ L s2.heap m→ba h₀ L s2.heap ((OUT,bB (outs2.map λo=>.ref o.2.1))::(256,bS G)::(lw,listOf vw.toArray epw)::(pp,listOf (refsOf R).toArray epp)::T)→Q (.ref OUT) s2)  :
  aA (aq cH.row.prog W0) (ij dp un gd cn cs L a ccd cl outer) (call (.ref 294) [.ref lw,.ref pp,.int nn tn,cv]) Q E s:=by
 refine(Le (news:=(lw,listOf vw.toArray epw)::(pp,listOf (refsOf R).toArray epp)::news) (Rel:=Rel) aa aj as ar ax aD O U ab (FC e1 (FC e2 s256)) (λq hq=>let ⟨va,ep,h1,h2⟩:=e q hq;⟨va,ep,bk 2 h1,h2⟩) Y J u hR (a8 0 rfl) (a8 1 rfl) H ah).run B F X N T hk ap (dl hu) hG λv n' s' hP G' ho F' N'=>?_;obtain ⟨OUT,outs,outs2,ps',T',rfl,h1,h2,h3,h4,h5,h6,h7,h8,rfl⟩:=hP;exact hret OUT outs outs2 ps' T' s' h1 h2 h3 (λp hp=>h4 p (bk 2 hp)) h5 h6 h7 (Ne.symm (h5 _ (h4 _ (a8 0 rfl)))) (Ne.symm (h5 _ (h4 _ (a8 1 rfl)))) h8 G' ho F' (cm N' (FC (a8 0 rfl) (FC (a8 1 rfl) (FC (bk 2 (h4 _ (a8 0 rfl))) (FC (bk 2 (h4 _ (a8 1 rfl))) λp hp=>bk 2 hp)))))
end
section
open W PyProof.Rows
open AutoSeq1 (wpAny_loadPart') in
open MeetsSeq in
theorem HQ(l b:Addr)(vs us:List Value)(xs ys:List Int)(n n2:Nat)(hx:au vs xs)(hy:au us ys)(k:Nat):
  ∀i:Nat,xs.length-i=k→i≤xs.length→i≤ys.length→GD (Builtin.«list.__eq__.loop» ⟨[.ref l,.ref b,n4 i,n4 4],[]⟩)
   (λ_ R s=>s.heap.get? l=some {cls:=.type "list",dict:=none,data:=.seq vs.toArray n,slots:=#[]}∧s.heap.get? b=some {cls:=.type "list",dict:=none,data:=.seq us.toArray n2,slots:=#[]}∧
    R (.ok (.ret (.bool (jF (ys.drop i) (xs.drop i))))) s):=by
 have Y:=hx.length;have ar:=hy.length
 induction k with
 | zero=>
  intro i hk h1 h2 prog w A R s h;obtain ⟨hp,g,d,tk,os⟩:=s;obtain ⟨hl,hb,h⟩:=h;have hi:i=xs.length:=Po hk h1;subst hi
  wp_walk using bq hl,bq hb
  have O:vs.toArray[((xs.length:Nat):Int).toNat]?=none:=by simp;exact Qm Y h1
  rw[O];rw[ou] at h
  have hd:jF (ys.drop xs.length) []=decide (vs.toArray.size > us.toArray.size):=by
   rw[aL,aL,Y,ar]
   cases e:ys.drop xs.length with
   | nil=>
    have:(ys.drop xs.length).length=0:=by rw[e];rfl
    rw[dn] at this
    symm
    exact decide_eq_false (λhh=>uH hh h2)
   | cons a r=>
    have:(ys.drop xs.length).length=r.length+1:=by rw[e];rfl
    rw[dn] at this
    symm
    exact decide_eq_false (λhh=>uH hh h2)
  rw[hd] at h
  wp_walk using bq hl,bq hb
  exact h
 | succ k ih=>
  intro i hk h1 h2 prog w A R s h;obtain ⟨hp,g,d,tk,os⟩:=s;obtain ⟨hl,hb,h⟩:=h
  wp_walk using bq hl,bq hb
  have H:i<xs.length:=Ni hk
  have hc:((i:Int)+1)=((i+1:Nat):Int):=by push_cast;rfl
  obtain ⟨_,ap⟩|⟨x,t,hv,ah⟩:=rm hx i
  .rw[am H] at ap;cases ap
  have O:vs.toArray[((i:Nat):Int).toNat]?=some (.int x t):=by simpa using hv
  have aj:xs.drop i=x::xs.drop (i+1):=by
   rw[gw H];rw[am H] at ah;rw[cS ah]
  rw[O]
  rcases rm hy i with ⟨hu,G⟩|⟨y,u,hu,G⟩
  .have J:us.toArray[((i:Nat):Int).toNat]?=none:=by simpa using hu
   rw[J];have ab:ys.length≤i:=iW.mp G;have U:ys.drop i=[]:=By ab;rw[aj,U] at h
   have hd:jF [] (x::xs.drop (i+1))=decide (vs.toArray.size > us.toArray.size):=by
    rw[aL,aL,Y,ar]
    symm
    exact decide_eq_true (aK ab H)
   rw[hd] at h
   wp_walk using bq hl,bq hb
   exact h
  .have J:us.toArray[((i:Nat):Int).toNat]?=some (.int y u):=by simpa using hu
   have B:i<ys.length:=(bz.mp G).1
   have U:ys.drop i=y::ys.drop (i+1):=by
    rw[gw B];rw[am B] at G;rw[cS G]
   rw[J];rw[aj,U] at h;refine af (ib ?_)
   by_cases e:x=y
   .have aa:(x==y)=true:=by simp [e]
    rw[aa]
    have h':R (.ok (.ret (.bool (jF (ys.drop (i+1)) (xs.drop (i+1)))))) {heap:=hp,gens:=g,drawn:=d,toks:=tk,os:=os}:=by
     have:jF (y::ys.drop (i+1)) (x::xs.drop (i+1))=jF (ys.drop (i+1)) (xs.drop (i+1)):=by simp [jF,e]
     rw[this] at h;exact h
    wp_walk
    rw[hc]
    exact⟨gZ eh _,eu je (by
     rw[dm eh _]
     exact ih (i+1) (PR hk) (fy H) (fy B) prog w A R _ (eP hl hb h'))⟩
   .have aa:(x==y)=false:=by simp [e]
    rw[aa]
    have h':R (.ok (.ret (.bool (decide (y<x))))) {heap:=hp,gens:=g,drawn:=d,toks:=tk,os:=os}:=by
     have:jF (y::ys.drop (i+1)) (x::xs.drop (i+1))=decide (y<x):=by
      refine(?_:(if y=x then _ else _)=_);rw[if_neg (Ne.symm e)]
     rw[this] at h;exact h
    wp_walk using bq hl,bq hb
    rw[O,J];refine af (PySem.compareOp_gives (op:=.Gt) (iE _ x t) (iE _ y u) PySem.F.slot_int_gt PySem.F.entry_int_gt (PySem.F.args_int_gt_2 _ _) (AutoIntG4.int___gt___int_int_0 x t y u) (λz=>nomatch z) ?_:aA _ _ (fo .Gt (.int x t) (.int y u)) _ _ _);exact ai h'
open AutoSeq1 (wpAny_loadPart') in
open MeetsSeq in
theorem HF(l b:Addr)(vs us:List Value)(xs ys:List Int)(n n2:Nat)(u:au vs xs)(e:au us ys):GD (Builtin.«list.__gt__» ⟨[.ref l,.ref b],[]⟩)
   (λ_ R s=>s.heap.get? l=some {cls:=.type "list",dict:=none,data:=.seq vs.toArray n,slots:=#[]}∧s.heap.get? b=some {cls:=.type "list",dict:=none,data:=.seq us.toArray n2,slots:=#[]}∧
    R (.ok (.ret (.bool (jF ys xs)))) s):=by
 intro prog w A R s h;obtain ⟨hp,g,d,tk,os⟩:=s;obtain ⟨hl,hb,h⟩:=h;have z:=xw
 wp_walk using bq hl,bq hb
 exact⟨gZ eh _,eu je (by
  rw[dm eh _]
  exact HQ l b vs us xs ys n n2 u e _ 0 rfl (cr _) (cr _) prog w A R _ (eP hl hb h))⟩
section
variable {prog:Program}{w:World}{A:Around}{E:VP}{s:Shared}{l b:Addr}{vs us:List Value}{xs ys:List Int}{n n2:Nat}
theorem LI(hu:A.units<cX)(hl:s.heap.get? l=some (listOf vs.toArray n))(hb:s.heap.get? b=some (listOf us.toArray n2))(u:au vs xs)(e:au us ys)(h:Q (.bool (jF ys xs)) s):
  aA (aq prog w) A (fo .Gt (.ref l) (.ref b)) Q E s:=by
 refine(?_:aA (aq prog w) A (jh .Gt (.ref l) (.ref b)) Q E s);exact IN (db _ hl rfl) (db _ hb rfl) PySem.F.slot_list_gt PySem.F.entry_list_gt (PySem.F.args_list_gt_2 _ _) (HF l b vs us xs ys n n2 u e) (nA hl hb (λz=>nomatch z) h) hu
end
end
section
open W PyProof.Rows
open PySem.Builtin
open PySem.Builtin.Tuple in
theorem JO(args:Args):Builtin.«tuple.__gt__» args=(do
  let (a,[b]) ← slotArgs "__gt__" 1 args|unsupported "internal:tuple.compare"
  if !(← jZ b (.type "tuple")) then return ← ret .notImplemented
  let xs ← tupleItemsOf a
  let ys ← tupleItemsOf b
  for (x,y) in xs.toList.zip ys.toList do
   if !(← yN x y) then
    rule "tuple.compare.by-the-first-pair-that-differs";return ← ret (← jh .Gt x y)
  ret (tupleCompareSizes .Gt xs.size ys.size)):=rfl
section
variable {prog:Program}{w:World}{A:Around}{E:VP}{s:Shared}{mc:Lo}
theorem wU(ht:t≠0)(hu:u≠0)(B:a≠b)(e:t≠u)(h:Q (cY a b==some dk) s):
  aA (aq prog w) A (yN (.float a t) (.float b u)) Q E s:=by
 unfold yN;rw[if_neg (by intro z;have:=eq_of_beq z;injection this;contradiction)];refine af ?_;refine(?_:aA (aq prog w) A (qp (a==b&&!Float64.isNaN a) t u) _ E s);unfold qp
 have h0:¬((t==0||u==0)=true):=by simp [ht,hu]
 rw[if_neg h0,if_neg (by simpa using e),if_pos (by simp [B])];refine ai ?_;refine af (yT ?_:aA _ _ (fo .Eq (.float a t) (.float b u)) _ _ _);exact aY h
noncomputable def NG(f1 f2:UInt64)(k1 k2:Tok)(a1 a2:Addr)(xs ys:List Int):Prop:=
 (f1=f2∧cY f1 f1=some dk∧(a1=a2∨(a1≠a2∧xs≠ys∧jF ys xs=false)))∨(f1≠f2∧k1≠k2∧cY f1 f2=some kf)
theorem JJ(hu:A.units+70<cX)(hn:s.heap.Ns n9 mc)(hm:mc gR=none)(h1:k1≠0)(h2:k2≠0)
  (B:s.heap.get? x=some (Dl J k1 a1)) (u:s.heap.get? y=some (Dl H k2 a2)) (hl:s.heap.get? a1=some (listOf vs.toArray n)) (hb:s.heap.get? a2=some (listOf us.toArray n2)) (hi:au vs xs) (hj:au us ys)
  (G:NG J H k1 k2 a1 a2 xs ys) (h:Q (.bool false) s):aA (aq prog w) A (jh .Gt (.ref x) (.ref y)) Q E s:=by
 refine wpAny_richCompare_same_room (T:="tuple") (db _ B rfl) (db _ u rfl) PySem.F.slot_tuple_gt (eE PySem.F.slot_tuple_gt (db _ B rfl) PySem.F.entry_tuple_gt ?_ (PySem.F.args_tuple_gt_2 _ _)) (C3 hu);rw[JO];refine af (bV (a:=(.ref x,[.ref y])) (by kernel_rfl) ?_);refine af (yJ (T:="tuple") (b:=true) (db _ u rfl) (by rw[dz];kernel_rfl) ?_);refine af (nY B rfl ?_);refine af (nY u rfl ?_)
 have fin:Gi false≠.notImplemented∧Q (.bool false) s:=⟨(λz=>nomatch z),h⟩
 rcases G with ⟨e1,e2,e3⟩|⟨e1,e2,e3⟩
 .refine af (af (af (wn hn hm h1 h2 λe he=>?_)))
  rw[he e1 e2];refine ai (af (af (yn (xs:=xs) (ys:=ys) (by refine(?_:A.in1.units+64<_);have:A.in1.units≤A.units+1:=aS _;exact Q6 hu (bR true)) hl hb hi hj λe h3 h4=>?_)))
  cases e with
  | true=>
   exact ai (ai (ai (db _ rfl fin)))
  | false=>
   rcases e3 with e3|⟨e4,e5,e6⟩
   .exact absurd (h3 e3) (by decide)
   .refine af (gy (af (LI (by have:A.in1.units≤A.units+1:=aS _;exact zE hu (bR true)) hl hb hi hj ?_:aA _ _ (fo .Gt (.ref a1) (.ref a2)) _ _ _)))
    rw[e6];exact af (ai (ai (ai (ai (db _ rfl fin)))))
 .refine af (af (af (wU h1 h2 e1 e2 ?_)))
  rw[e3]
  have:(some kf==some dk)=false:=by decide
  rw[this];refine af (gy (af (AutoFloatOps.gt_0 ?_:aA _ _ (fo .Gt (.float J k1) (.float H k2)) _ _ _)));rw[e3];exact af (ai (ai (ai (ai (db _ rfl fin)))))
end
end
section
open W PyProof.Rows
theorem FX(a d:Value):g5 "max" ⟨[a],[(PySem.Str.ofString "default",d),(PySem.Str.ofString "key",.none)]⟩:=by unfold g5;kernel_rfl
section
variable {prog:Program}{w:World}{A:Around}{E:VP}{s:Shared}{h₀:Heap}{L l I S:Addr}{m:Lo}{news:Ns}{vs:List Value}{v0 d:Value}{R:Result→Shared→Prop}{Q:VP}
theorem Et(hh:A.handled=none)(hl:∀h,ba h₀ L h news→h.IsList l vs.toArray)(ap:l≠I)(ah:S≠I)(aj:∀p∈news,p.1≠S)(G:∀p∈news,p.1≠I)
  (ab:∀(i:Nat) (v:Value),vs[i]?=some v→0<i→∀(h:Heap) (tk:Nat) (C:VP) (E':VP),Fr h₀ L h m→ba h₀ L h news→C (.bool false) {s with heap:=h,toks:=tk}→aA (aq prog w) A.in1 (jh .Gt v v0) C E' {s with heap:=h,toks:=tk})
  (hR:∀h' tk',Fr h₀ L h' m→ba h₀ L h' news→R (.ok (.ret v0)) {s with heap:=h',toks:=tk'}):
  ∀(r i:Nat) (h:Heap) (tk:Nat) (c:Nat) (oI:Obj),vs.length-i=r→1≤i→i≤vs.length→Fr h₀ L h m→
   ba h₀ L h (news++[(S,cG "list" #[v0,v0] c),(I,oI)])→h.IsListIter I l i→
   dY (aq prog w) A (.builtin "max.loop" ⟨[.ref I,.none,.ref S],[("default",d)]⟩) R {s with heap:=h,toks:=tk}:=by
 have B:(Mf "max"++Mf ".loop" : String) = "max.loop":=by decide
 have W:=su (prog:=prog) (w:=w) (A:=A.in1) hh I l ap vs.toArray;have hsz:vs.toArray.size=vs.length:=aL ..;intro r
 induction r with
 | zero=>
  intro i h tk c oI hr h1 hj F N H;have ar:i=vs.length:=Po hr hj;have u:=N (S,cG "list" #[v0,v0] c) (zR (.head _));have J:=N (I,oI) (zR (.tail _ (.head _)));have O:ba h₀ L h news:=λp hp=>N p (zL hp);refine eu PySem.F.entry_max_loop ?_;rw[dm PySem.F.plain_max_loop _];refine af (jg u.1 rfl ?_);refine af (jf (W.done _ _ _ ⟨by rw[hsz,← ar];exact H,hl h O⟩ λh' tk' e=>?_));have F1:=kmb_fr F e J.2.1 J.2.2;have N1:=Mz O e G;have as:=e S _ (by simpa using ah) u.1;have s1:=cE h' S (bJ λ_=>(#[]:Array Value));refine af ?_;refine jL as rfl (af (mh (ai ?_)));exact hR _ _ (ksk_fr F1 s1 u.2.1 u.2.2) (ksk_news N1 s1 aj)
 | succ r ih=>
  intro i h tk c oI hr h1 hj F N H;have aa:i<vs.length:=Ni hr;have u:=N (S,cG "list" #[v0,v0] c) (zR (.head _));have J:=N (I,oI) (zR (.tail _ (.head _)));have O:ba h₀ L h news:=λp hp=>N p (zL hp);refine eu PySem.F.entry_max_loop ?_;rw[dm PySem.F.plain_max_loop _];refine af (jg u.1 rfl ?_);refine af (jf (W.item i _ _ _ (by rw[hsz];exact aa) ⟨H,hl h O⟩ λv h' tk' hP z e=>?_))
  have hv:vs[i]?=some v:=by simpa using hP
  refine fM (id z.1) λU Y aD ax=>?_;have F1:=kmb_fr F e J.2.1 J.2.2
  have N1:ba h₀ L h' (news++[(S,cG "list" #[v0,v0] c),(I,U)]):=λp hp=>by
   rcases aC.mp hp with hp|hp
   .exact Mz O e G p hp
   .rcases ak.mp hp with rfl|hp
    .exact⟨e S _ (by simpa using ah) u.1,u.2⟩
    .rw[az.mp hp]
     exact⟨Y,J.2⟩
  refine(?_:aA _ A.in1 (tryCatch (gr [v,v] (jh .Gt v v0 >>= _)) _ >>= _) _ _ _);refine af (jf (bC (af (ab i v hv h1 h' tk' _ _ F1 (Mz O e G) ?_))));refine af (bC (aY ?_));refine af (mh (ai ?_));refine af (mh ?_);rw[B];exact ai ⟨gZ PySem.F.plain_max_loop _,ih (i+1) _ _ c U (PR hr) (dO h1) aa F1 N1 z.1⟩
theorem Hv(hh:A.handled=none)(F:Fr h₀ L s.heap m)(N:ba h₀ L s.heap ((I,oI)::news))(hl:(l,listOf vs.toArray n)∈news)(hI:s.heap.IsListIter I l 0)(B:∀p∈news,p.1≠I)(h0:vs[0]?=some v0)
  (ab:∀(i:Nat) (v:Value),vs[i]?=some v→0<i→∀(h:Heap) (tk:Nat) (C:VP) (E':VP),Fr h₀ L h m→ba h₀ L h news→C (.bool false) {s with heap:=h,toks:=tk}→aA (aq prog w) A.in1 (jh .Gt v v0) C E' {s with heap:=h,toks:=tk})
  (hQ:∀h' tk',Fr h₀ L h' m→ba h₀ L h' news→Q v0 {s with heap:=h',toks:=tk'}):
  aA (aq prog w) A (call (.builtin "max") [.ref I] [(PySem.Str.ofString "default",d),(PySem.Str.ofString "key",.none)]) Q E s:=by
 have u:(Mf "max"++Mf ".loop" : String) = "max.loop":=by decide
 have hL:L<s.heap.objs.size:=F.ns.lt;have ar:I<s.heap.objs.size:=bO (N _ (zH)).1;have nI:=N _ (zH)
 have z:∀h,ba h₀ L h news→h.IsList l vs.toArray:=λh N'=>(c9 _ ((N' _ hl).1) rfl ⟨n,rfl⟩)
 refine kmb_tree PySem.F.kind_max PySem.F.plain_max PySem.F.entry_max (FX _ _) ?_;refine af (bV (rfl:MV "max" ["key","default"] 0 ⟨[],[(PySem.Str.ofString "default",d),(PySem.Str.ofString "key",.none)]⟩=ck [some .none,some d]) ?_);refine af (ai ?_);refine af (wpAny_pyIter_listiter hI ?_);refine af (vh ?_ (cr _));rw[u];have W:=su (prog:=prog) (w:=w) (A:=A.in1) hh I l (B _ hl) vs.toArray;have J:0<vs.length:=(bz.mp h0).1;have hsz:vs.toArray.size=vs.length:=aL ..;have up:∀b o,s.heap.get? b=some o→(s.heap.push (cG "list" #[] 0)).get? b=some o:=λb o e=>aG _ e;have F1:Fr h₀ L (s.heap.push (cG "list" #[] 0)) m:=F.push _;have N1:=N.grown up;have hS:(s.heap.push (cG "list" #[] 0)).get? s.heap.objs.size=some (cG "list" #[] 0):=a9 _ rfl;have G:s.heap.objs.size≠I:=aF ar;have aa:∀p∈news,p.1≠s.heap.objs.size:=λp hp=>aB (bO (N p (zT hp)).1);have ah:s.heap.objs.size≠L:=aF hL;have aj:h₀.get? s.heap.objs.size=none:=jj F;have Nn:ba h₀ L (s.heap.push (cG "list" #[] 0)) news:=λp hp=>N1 p (zT hp)
 have aQ:(s.heap.push (cG "list" #[] 0)).IsListIter I l 0:=by refine fN hI λo e r=>?_;try clear hI;exact(db o (up _ _ e) r)
 refine ai ⟨gZ PySem.F.plain_max_loop _,eu PySem.F.entry_max_loop ?_⟩;rw[dm PySem.F.plain_max_loop _];refine af (jg hS rfl ?_);refine af (jf (W.item 0 _ _ _ (by rw[hsz];exact J) ⟨aQ,z _ Nn⟩ λv h' tk' hP Y O=>?_))
 have hv:vs[0]?=some v:=by simpa using hP
 have ax:v=v0:=cS (hv.symm.trans h0);subst ax;refine fM (id Y.1) λU H aM aD=>?_;have F2:=kmb_fr F1 O nI.2.1 nI.2.2;have N2:=Mz Nn O B;have ap:=O _ _ (by simpa using G) hS;have s1:=cE h' s.heap.objs.size (bJ λ_=>#[v,v])
 obtain ⟨c2,hc2⟩:∃c2,(h'.update s.heap.objs.size (bJ λ_=>#[v,v])).get? s.heap.objs.size=some (cG "list" #[v,v] c2):=⟨_,fF ap λ_=>#[v,v]⟩
 refine(?_:aA _ A.in1 (Gx s.heap.objs.size (λ_=>#[v,v]) >>= _) _ _ _);refine af ?_;refine jL ap rfl ?_;rw[u];refine ai ⟨gZ PySem.F.plain_max_loop _,Et hh z (B _ hl) G aa B ab (λh3 as F3 N3=>hQ h3 as F3 N3) _ 1 _ _ c2 U rfl (aS _) J (ksk_fr F2 s1 ah aj) (λp hp=>?_) (c9 U ((s1.2 I G.symm).trans H) aM aD)⟩
 rcases aC.mp hp with hp|hp
 .exact ksk_news N2 s1 aa p hp
 .rcases ak.mp hp with rfl|hp
  .exact(eP hc2 ah aj)
  .rw[az.mp hp]
   exact⟨(s1.2 I G.symm).trans H,nI.2⟩
end
theorem Af:kH w9 "iter"=some Builtin.«iter»:=qP (by kernel_rfl)
theorem Cz(a:Value):g5 "iter" ⟨[a],[]⟩:=by unfold g5;kernel_rfl
theorem Cs{prog:Program}{w:World}{A:Around}{E:VP}{s:Shared}{h₀:Heap}{L l:Addr}{m:Lo}{news:Ns}{its:Array Value}{n:Nat}{Q:VP}(F:Fr h₀ L s.heap m)(N:ba h₀ L s.heap news)(hl:(l,listOf its n)∈news)
  (h:∀D h',Fr h₀ L h' m→ba h₀ L h' ((D,({cls:=.type "list_iterator",data:=.fields #[.ref l,.int 0 0]} : Obj))::news)→(∀p∈news,p.1<D)→Q (.ref D) {s with heap:=h'}):aA (aq prog w) A (call (.builtin "iter") [.ref l]) Q E s:=by
 refine xt (by decide +kernel) (by decide +kernel) Af (Cz _) ?_;unfold Builtin.«iter»;refine af (m:=someArgs "iter" 1 2 _) (bV (a:=[bG l]) (by first|rfl|kernel_rfl) ?_);refine af (kC (c9 _ ((N _ hl).1) rfl ⟨n,rfl⟩) ?_);refine ai (db _ rfl (h _ _ (F.push _) (λp hp=>?_) λp hp=>bO (N p hp).1))
 rcases ak.mp hp with e|hp
 .rw[e];exact(eP (a9 _ rfl) (aF F.ns.lt) (jj F))
 .exact⟨aG _ (N p hp).1,(N p hp).2⟩
end
section
open W PyProof Rows
theorem rW:Slot "object" "__init__" "object.__init__":=
 .of (owner:="object") (n:="__init__") (by rw[cu,bw];kernel_rfl) (by decide +kernel) (by decide +kernel) (by decide +kernel)
  (by first|exact .inl (by decide +kernel)|exact .inr (by decide +kernel)) (by rw[dz];kernel_rfl)
theorem qy:mroOf (.type "object")=ck [.type "object"]:=by rw[mroOf_type];kernel_rfl
theorem rg:gz (.type "object") "__new__"=ck (some (.builtin "object.__new__")):=by rw[cu,bw];kernel_rfl
theorem qm:TypeCalled "object" "object.__new__" "object.__init__":=
 ⟨by decide +kernel,by decide +kernel,(rp _ _ qy),madeBy_type qy rg (by decide +kernel),by decide +kernel,by rw[dz];kernel_rfl,rW⟩
theorem sI:checkTypeCall "object" ⟨[],[]⟩=ck ():=by kernel_rfl
theorem uw:yP "object.__new__" ⟨[.type "object"],[]⟩=ck ():=by kernel_rfl
theorem sq(a:Value):g5 "object.__init__" ⟨[a],[]⟩:=by unfold g5;kernel_rfl
theorem sb:GD (Builtin.«object.__new__» ⟨[.type "object"],[]⟩) (λ_ R s=>R (.ok (.ret (.ref s.heap.objs.size))) {s with heap:=s.heap.push {cls:=.type "object",data:=.plain} }):=
 .of_wp λprog w A R s h=>by
  obtain ⟨hp,g,d,tk,os⟩:=s;have h1:=qy;have h2:=qm.made
  wp_walk
  exact(db _ rfl h)
theorem rf(e:Value):GD (Builtin.«object.__init__» ⟨[e],[]⟩) (λ_ R s=>R (.ok (.ret .none)) s):=Meets.of_wp λprog w A R s hs=>ai (db _ rfl hs)
theorem yB(F:Fr h₀ L s.heap m)(N:ba h₀ L s.heap news)
  (h:∀D h',Fr h₀ L h' m→ba h₀ L h' ((D,({cls:=.type "object",data:=.plain} : Obj))::news)→(∀p∈news,p.1<D)→Q (.ref D) {s with heap:=h'}):aA (aq prog w) A (call (.type "object") []) Q E s:=by
 refine callType_meets (Q₁:=λG s₁=>G=.ref s.heap.objs.size∧s₁ = {s with heap:=s.heap.push {cls:=.type "object",data:=.plain} }) qm sI uw PySem.F.entry_object_new PySem.F.entry_object_init sb ⟨rfl,rfl⟩ λG s₁ u=>?_;refine b8 u λB z=>?_
 try clear u
 subst B;subst z;refine(eP (db _ (a9 _ rfl) rfl) (sq _) ⟨_,rf _,rfl,h _ _ (F.push _) (λp hp=>?_) λp hp=>bO (N p hp).1⟩)
 rcases ak.mp hp with e|hp
 .rw[e];exact(eP (a9 _ rfl) (aF F.ns.lt) (jj F))
 .exact⟨aG _ (N p hp).1,(N p hp).2⟩
end
section
open W PyProof Rows PySem.Calls
noncomputable def IJ(scr:Addr×List Int→UInt64)(outs:List vC):Prop:=
 ∃o0 rest,outs=o0::rest∧∀o∈rest,(scr o.2=scr o0.2∧cY (scr o.2) (scr o.2)=some dk∧(o.2.1=o0.2.1∨(o.2.1≠o0.2.1∧o.2.2≠o0.2.2∧jF o0.2.2 o.2.2=false)))∨(scr o.2≠scr o0.2∧cY (scr o.2) (scr o0.2)=some kf)
noncomputable abbrev zx:Obj:={cls:=.type "object",data:=.plain}
theorem BZ{M:Model}{A:Around}{E:VP}{s:Shared}{Q:VP}{x y:Addr}{a:Array Value}(e:x≠y)(z:s.heap.get? x=some (dU a))(u:s.heap.get? y=some zx)(h:Q (.bool false) s):aA M A (fo .Is (.ref x) (.ref y)) Q E s:=by
 refine af ?_;refine(?_:aA M A (if (x==y)=true then ck true else _) _ E s);rw[if_neg (by rw[beq_iff_eq];exact e)];exact af (rF z (af (rF u (ai (ai h)))))
noncomputable def L6(outs outs2:List vC):Prop:=∀o0 rest,outs=o0::rest→outs2=[o0]
noncomputable abbrev Rg(l:Addr):Obj:={cls:=.type "list_iterator",data:=.fields #[.ref l,.int 0 0]}
section
variable {cs:Scope}{c:Fm W0 cs}{sc:Scope}{k:Cx c sc}{m:Lo}{n:Ns}{R:Re}{rest:List Stmt}
theorem Ii{f e:PE}{pos:Pos}{l:Addr}{its:Array Value}{ep:Nat}(hf:Ev c.cx m n f (.val (.builtin "iter")))(he:Ev c.cx m n e (.val (.ref l)))(hl:(l,listOf its ep)∈n)
  (h1:autoParam (CC c.env f [e] pos) zAa) (h2:autoParam (SE c.env e []) zAa):Er c.cx m n (.Call f [e] [] pos) (λv n'=>∃D,v=.ref D∧n'=(D,Rg l)::n∧∀p∈n,@aR Nat _ p.1 D):=
 oU (P:=λv n'=>v=.ref l∧n'=n) hf (fB (iM he) λv n' h=>⟨h.1,h.2⟩) (λv n' p Q s hi hq=>by
  obtain ⟨rfl,rfl⟩:=p
  exact Cs hi.at.1 hi.at.2 hl λD h' F N l=>hq _ _ _ ⟨D,rfl,rfl,l⟩ (hi.to (tk:=s.toks) F N)) h1 h2
theorem Cg{f:PE}{pos:Pos}(hf:Ev c.cx m n f (.val (.type "object")))(h1:autoParam (CC c.env f [] pos) zAa):Er c.cx m n (.Call f [] [] pos) (λv n'=>∃D,v=.ref D∧n'=(D,zx)::n∧∀p∈n,@aR Nat _ p.1 D):=
 ⟨λQ s hi hQ=>gu (hf.run _ s hi λv s1 e i1=>by
  cases e
  exact Bt (yB i1.at.1 i1.at.2 λD h' F N l=>hQ _ _ _ ⟨D,rfl,rfl,l⟩ (i1.to (tk:=s1.toks) F N))) h1⟩
theorem Fh{f e1 e2 e3:PE}{id:String}{x y:Str}{u e pos:Pos}{v1 v2 z:Value}{P:Value→Ns→Prop}(hf:Ev c.cx m n f (.val (.builtin id)))(h1:Ev c.cx m n e1 (.val v1))(h2:Ev c.cx m n e2 (.val v2))(h3:Ev c.cx m n e3 (.val z))
  (hC:∀(Q:VP) s,c.cx.Is m n s→(∀v n' s',P v n'→c.cx.Is m n' s'→Q v s')→aA (aq P0 W0) c.A (call (.builtin id) [v1] [(x,v2),(y,z)]) Q c.E s)
  (c1:autoParam (eval (.Call f [e1] [⟨some x,e2,u⟩,⟨some y,e3,e⟩] pos) c.env=(do iI pos (← eval f c.env) [] (fj pos (bW [e1] c.env)) (backToKw pos (keywordEach [⟨some x,e2,u⟩,⟨some y,e3,e⟩] c.env)))) zAa) (c2:autoParam (SE c.env e1 []) zAa):Er c.cx m n (.Call f [e1] [⟨some x,e2,u⟩,⟨some y,e3,e⟩] pos) P:=
 ⟨λQ s hi hQ=>by
  refine(?_:aA _ _ (eval (.Call f [e1] [⟨some x,e2,u⟩,⟨some y,e3,e⟩] pos) c.env) _ _ _);rw[show _=_ from c1];refine af (hf.run _ s hi λv s1 U i1=>?_);cases U;refine callWith_kw (kws:=[⟨some x,e2,u⟩,⟨some y,e3,e⟩]) ?_ (congrArg (fj pos) c2) (congrArg (λl=>(fj pos l).any (·.1)) c2);refine aI (h1.run _ s1 i1 λv s2 d2 i2=>bK ?_) c2;refine kws_cons (h2.run _ s2 i2 λv G O i3=>?_);refine kws_cons (h3.run _ G i3 λv B J H=>kws_nil ?_);cases d2;cases O;cases J
  exact hC Q B H hQ⟩
theorem Lx{test b1 b2:PE}{pos:Pos}{P:Value→Ns→Prop}(ht:Tw k m n test (eval test k.env) false)(h:Er k m n b2 P):Er k m n (.IfExp test b1 b2 pos) P:=
 ⟨λQ s hi hq=>wpAny_IfExp (ht.run _ s hi λs' i=>h.run Q s' i hq)⟩
theorem Nc{l r:PE}{pos:Pos}{wh}{x y:Addr}{a:Array Value}(hl:Ev k m n l (.val (.ref x)))(hr:Ev k m n r (.val (.ref y)))(z:(x,dU a)∈n)(u:(y,zx)∈n)(e:x≠y)(hm:autoParam (eR .Is r=false) zAc):Tw k m n (.Compare l [.Is] [r] pos) wh false:=
 ⟨λ_ s hi hq=>bY (hl.run _ s hi λv s1 B i1=>hr.run _ s1 i1 λv2 s2 d2 i2=>by
  cases B;cases d2
  exact BZ e (i2.get z) (i2.get u) (aY (hq _ i2))) hm⟩
theorem EX{body u:List Stmt}{h0:ExceptHandler}{hs:List ExceptHandler}{pos:Pos}(hb:∀(E':VP) (hE':lG (aq P0 W0) c.A c.env E'),cN {c with E:=E',hE:=hE'} m n body (λf m' n'=>f=.next∧cN c m' n' u (md c rest R))):cN c m n (.Try body (h0::hs) u [] pos::rest) R:=
 bL ⟨λQ s hi hq=>by
  refine wpAny_Try_except ?_;have hE:=c.hE;refine(hb (λe s₁=>aA (aq P0 W0) c.A (yM e c.env) (λ_ s₂=>aA (aq P0 W0) c.A (setFlight e none) (λ_ s₃=>aA (aq P0 W0) c.A (handleBy e c.env (h0::hs)) Q c.E s₃) c.E s₂) c.E s₁) ?hE').run _ s (let ⟨h,tk,e,F,N⟩:=hi;⟨h,tk,e,F,N⟩) λf m' n' s' r i=>?_
  case hE'=>passes_own
  obtain ⟨rfl,r⟩:=r
  exact r.run Q s' (let ⟨h,tk,e,F,N⟩:=i;⟨h,tk,e,F,N⟩) hq⟩
theorem Ls{u z:PE}{pos p:Pos}{i:Int}{P P':Value→Ns→Prop}(hv:Er k m n u P)(hu:∀n',Ev k m n' z (.int i))(hP:∀v n',P v n'→∃l vs ep,v=.ref l∧(l,listOf (bP vs) ep)∈n'∧vs.length≤1000∧jI vs.toArray.toList none (some i)=vs∧∀D,(∀q∈n',@aR Nat _ q.1 D)→P' (.ref D) ((D,listOf vs.toArray 0)::n'))
  (hs:autoParam (∀(l d:Addr),j8 (.Slice none (some z) none p) false (.ref l) (.ref d)=tQ [.ref d,.ref l] (pP (.ref l) (.ref d))) zAq):
  Er k m n (.Subscript u (.Slice none (some z) none p) pos) P':=
 ⟨λQ s hi hq=>oa (hv.run _ s hi λo n1 s1 B i1=>by
  obtain ⟨l,vs,ep,rfl,hm,hz,e,hD⟩:=hP _ _ B;refine yY (ai ((hu n1).run _ s1 i1 λv s2 d2 i2=>ai ?_));obtain ⟨t,rfl⟩:=d2;obtain ⟨m0,ex,F,N,cl⟩:=qw k i2
  exact kba_turn (value':=.Name "" pos) (λ_=>rfl) (Gh F N ⟨_,i2.get hm,rfl,⟨ep,rfl⟩⟩ .none (.int _ _) e (λD h' J H G=>hq _ _ _ (hD D λq hq=>G q (zR hq)) (cl h' s2.toks D _ J H)) (hs _ _) (λ_=>rfl) (by rw[aL];exact aw hz (by decide))))⟩
end
inductive MN(Rel:List vC→List vC→Prop)(outs:List vC)(news:Ns):Value→Ns→Prop
 | mk (NR:Addr) (outs2:List vC) (c2:Nat) (h1:Rel outs outs2) (h2:∀o∈outs2,o∈outs) (h3:outs2.length≤40) (h4:∀p∈news,@aR Nat _ p.1 NR):MN Rel outs news (.ref NR) ((NR,listOf (refsOf outs2).toArray c2)::news)
theorem Ej{c:Fm W0 (tw P0.main.body 9)}{m:Lo}{RS:Addr}{re:Nat}{outs:List vC}{scr:Addr×List Int→UInt64}{tn:Tok}{tok:Addr→Tok}{oK:Obj}{news N:Ns}(hK:(c.L+1,oK)∈N)(H:∀p∈(RS,listOf (refsOf outs).toArray re)::news,p∈N)(aj:c.cl=fT (c.L+1) (tw P0.main.body 9).names [])(dK:oK.data=.cell (some .none))(mn:m "n"=some (.int 1 tn))(mi:m "iterable"=some (.ref RS))(hu:c.un+197<cX)(U:IJ scr outs)(ho:∀o∈outs,tok o.1≠0∧(o.1,dU #[.float (scr o.2) (tok o.1),.ref o.2.1])∈news)(aa:∀o∈outs,∀o'∈outs,tok o.1=tok o'.1→o=o')(B:∀o∈outs,jq news o.2):
  cN c m N (vg P0.main.body 9) (λfl _ n'=>∃n2,MN L6 outs ((RS,listOf (refsOf outs).toArray re)::news) (x9 fl) n2∧∀p∈n2,p∈n'):=by
 obtain ⟨u,rest,rfl,hp⟩:=U;refine dE (eJ wp (ag mn) bf) (λ_=>?_) (λh=>nomatch h);refine dL (Ii cR (ao mi) (H _ (zH))) λv n' h=>?_;obtain ⟨I,rfl,rfl,l1⟩:=h;refine dL (Cg cR) λv n' h=>?_;obtain ⟨O,rfl,rfl,l2⟩:=h;have hw:∀{p:Addr×Obj},p∈news→p∈(O,zx)::N:=λh=>zT (H _ (zT h));refine dL (Fh (P:=λv n'=>v=.ref u.1∧n'=(O,zx)::N) cR (ao (bc cZ)) (ao cZ) (eN (a:=c.L+1) (o:=oK) (by refine(?_:c.cl.lookup _=_);rw[aj];rfl) (bk 2 hK) dK) λQ s hi hq=>?_) λv n' h=>?_
 .have i2:c.cx.Is _ ((I,Rg RS)::(O,zx)::N) s:=hi.sub (iB [1,0] 2 rfl)
  refine Hv (v0:=.ref u.1) (vs:=refsOf (u::rest)) (l:=RS) rfl i2.at.1 i2.at.2 (zT (H _ (zH))) ⟨_,i2.get (a8 0 rfl),rfl,rfl⟩ (FC (aF (l2 _ (a8 0 rfl))) λp hp=>aB (l1 p hp)) rfl (λi v hv h0 h' tk' C E' F' J hC=>?_) λh' tk' F' J=>hq _ _ _ ⟨rfl,rfl⟩ (i2.to F' J);obtain ⟨o,ab,rfl⟩:=mJ hv
  have Y:o∈rest:=by
   cases i with
   | zero=>exact absurd h0 (by decide)
   | succ i=>exact cq ab
  have G:o∈u::rest:=zT Y;obtain ⟨ah,m1⟩:=ho _ G;obtain ⟨hk2,m2⟩:=ho u (zH);obtain ⟨va,ea,l1,i1,_⟩:=B _ G;obtain ⟨vb,eb,l2,i2,_⟩:=B u (zH);obtain ⟨mc,hn,hm⟩:=ug (c.X.keeps F'.keep) (c.T.nolimit.keeps F'.keep) (by kernel_rfl);refine JJ (aK (bu (by decide:71≤197) c.un) hu:c.un+71<cX) hn hm ah hk2 (J _ (hw m1)).1 (J _ (hw m2)).1 (J _ (hw l1)).1 (J _ (hw l2)).1 i1 i2 ?_ hC
  rcases hp o Y with ⟨q1,q2,q3⟩|⟨q1,q2⟩
  .exact .inl ⟨q1,q2,q3⟩
  .exact .inr ⟨q1,λz=>q1 (by rw[aa o G u (zH) z]),q2⟩
 .obtain ⟨rfl,rfl⟩:=h
  have m0:=(ho u (zH)).2;refine mX (Lx (Nc (ao cZ) (ao (bc cZ)) (hw m0) (a8 0 rfl) (aB (l2 _ (bk 1 (H _ (zT m0))))) (by decide)) (rB (iM (ao cZ)) (P':=λv n'=>∃D,v=.ref D∧n'=(D,listOf [bG u.1].toArray 0)::(O,zx)::N∧∀p∈(RS,listOf (refsOf (u::rest)).toArray re)::news,@aR Nat _ p.1 D) λv n' D h l=>?_)) λv n' h=>?_
  .obtain ⟨h,rfl⟩:=h
   cases h;exact⟨D,rfl,rfl,λp hp=>l p (bk 1 (H p hp))⟩
  .obtain ⟨D,rfl,rfl,l⟩:=h
   exact⟨_,.mk D [u] 0 (λa b e=>by cases e;rfl) (λo h=>by rw[az.mp h];exact zH) (by decide:1≤40) l,FC (zH) λp hp=>bk 2 (H p hp)⟩
theorem AP{nn:Int}{scr:Addr×List Int→UInt64}{Pre:List vC→Prop}{Rel:List vC→List vC→Prop}(hb:∀{c:Fm W0 (tw P0.main.body 9)}{m:Lo}{RS:Addr}{re:Nat}{outs:List vC}{u:Tok}{tok:Addr→Tok}{oK:Obj}{news N:Ns},(c.L+1,oK)∈N→(∀p∈(RS,listOf (refsOf outs).toArray re)::news,p∈N)→c.cl=fT (c.L+1) (tw P0.main.body 9).names []→oK.data=.cell (some .none)→m "n"=some (.int nn u)→m "iterable"=some (.ref RS)→c.un+197<cX→Pre outs→(∀o∈outs,tok o.1≠0∧(o.1,dU #[.float (scr o.2) (tok o.1),.ref o.2.1])∈news)→(∀o∈outs,∀o'∈outs,tok o.1=tok o'.1→o=o')→(∀o∈outs,jq news o.2)→
  cN c m N (vg P0.main.body 9) (λfl _ n'=>∃n2,MN Rel outs ((RS,listOf (refsOf outs).toArray re)::news) (x9 fl) n2∧∀p∈n2,p∈n')):ss W0 nn scr Pre Rel:=by
 intro gp gl mean mg mb dp un gd cn cs a ccd cl outer A₀ base h₀ L m news s Q E RS re outs u B F X N T hk z hu hl hp ht hr hret;obtain ⟨tok,h1,h2⟩:=ht
 exact(tH (n:=(RS,listOf (refsOf outs).toArray re)::news) (P:=MN Rel outs ((RS,listOf (refsOf outs).toArray re)::news)) (dp:=19) (un:=197) (body:=vg P0.main.body 9) (scope:=tw P0.main.body 9) (binds:=[("n",.int nn u),("iterable",.ref RS),("key",.none)]) (by with_unfolding_all rfl) (by with_unfolding_all rfl) (λs X=>pQ X rfl (by with_unfolding_all rfl) rfl rfl rfl) rfl (by decide +kernel) rfl rfl rfl λc m H hd hu G Y off e=>by
  subst e;obtain ⟨o,rfl,d1⟩:=JA (n:=ae "key") (c:=c.L+1) Y
  exact hb (zH) (λp hp=>zT hp) G d1 rfl rfl hu hp h1 h2 hr).run B F X N T hk z hu λv n' h' tk' p F' N'=>by
  cases p with|mk NR outs2 c2 q1 U O J=>exact hret NR outs2 c2 h' tk' q1 U O (λp hp=>J p (zT hp)) F' (cm N' (FC (zH) λp hp=>zT (zT hp)))
theorem Ei{scr:Addr×List Int→UInt64} : ss W0 1 scr (IJ scr) L6:=AP Ej
theorem Lp{cs:Scope}{c:Fm W0 cs}{sc:Scope}{k:Cx c sc}{m:Lo}{n:Ns}{kk:Nat}{pos:Pos} : Ev k m n (.Constant (.bool true) kk pos) (.val (.bool true)):=⟨λ_ _ hi hq=>wpAny_Constant_bool (hq _ _ rfl hi)⟩
theorem DN{vs:List Value}{n:Nat}(h:vs.length≤n):jI vs.toArray.toList none (some (n:Int))=vs:=by
 have e:=BH h;rw[kms_pick_eq] at e;exact e
theorem BU{c:Fm W0 (tw P0.main.body 9)}{m:Lo}{RS:Addr}{re:Nat}{outs:List vC}{scr:Addr×List Int→UInt64}{tn:Tok}{tok:Addr→Tok}{oK:Obj}{news N:Ns}(hK:(c.L+1,oK)∈N)(hS:∀p∈(RS,listOf (refsOf outs).toArray re)::news,p∈N)(ax:c.cl=fT (c.L+1) (tw P0.main.body 9).names [])(dK:oK.data=.cell (some .none))(mn:m "n"=some (.int 16 tn))(mi:m "iterable"=some (.ref RS))(hu:c.un+197<cX)(G:outs.length≤16)(ho:∀o∈outs,tok o.1≠0∧(o.1,dU #[.float (scr o.2) (tok o.1),.ref o.2.1])∈news)(U:∀o∈outs,jq news o.2):
  cN c m N (vg P0.main.body 9) (λfl _ n'=>∃n2,MN (wt scr) outs ((RS,listOf (refsOf outs).toArray re)::news) (x9 fl) n2∧∀p∈n2,p∈n'):=by
 have u:(refsOf outs).length=outs.length:=aE ..;have Y:(refsOf outs).length≤16:=u▸G;refine dE (eJ wp (ag mn) bf) (λh=>nomatch h) (λ_=>bQ ?_);refine EX λE' hE'=>fx (qF cR (ao mi) (hS _ (zH)) (aw Y (by decide))) λt=>cb ⟨rfl,?_⟩;refine dE (eJ Fw (ag (bc mn)) (ag cZ)) (λ_=>?_) (λh=>absurd (dt.mpr Y) (of_decide_eq_false h));have hw:∀{p:Addr×Obj},p∈news→p∈N:=λh=>hS _ (zT h);refine mX (Ls (Fh (P:=λv n'=>∃D outs2 c2,v=.ref D∧wt scr outs outs2∧(∀p∈N,@aR Nat _ p.1 D)∧n'=(D,listOf (refsOf outs2).toArray c2)::N) cR (ao (bc mi)) (eN (a:=c.L+1) (o:=oK) (by refine(?_:c.cl.lookup _=_);rw[ax];rfl) hK dK) Lp λQ s hi hq=>?_) (P':=λv n'=>∃n2,MN (wt scr) outs ((RS,listOf (refsOf outs).toArray re)::news) v n2∧∀p∈n2,p∈n') (λn'=>ag (bc mn)) λv n' h=>?_) λv n' h=>h
 .refine uf (vs:=refsOf outs) (κ:=tuples' true) (R:=RA scr outs.reverse) (lt:=λi j=>jF (rl outs.reverse i) (rl outs.reverse j)) hi.at.1 hi.at.2 ⟨_,hi.get (hS _ (zH)),rfl,⟨re,rfl⟩⟩ (aK Y (by decide)) (ksk_s2 _ _ _) (λx=>ksk_l2 _ _ _) JZ (λh2 h' Q' F' O hq=>?_) (λi j h' tk C hi hj F' O hC=>?_) λD p cc h' tk hp ab hD F' O=>?_
  .obtain ⟨fs,t1,t2,t3⟩:=G3 (h:=h') (scr:=scr) (λo ar=>let ⟨_,hm⟩:=ho o ar;⟨_,(O _ (hw hm)).1⟩)
   refine kat_kind (T:=.type "float") (fs:=fs) t1 (by rw[u] at h2;rw[t3];exact iG h2) (λv hv=>?_) (by decide) hq;obtain ⟨f,t,rfl⟩:=t2 v hv;exact .now
  .have J:i<outs.reverse.length:=by rw[bg,← u];exact hi
   have H:j<outs.reverse.length:=by rw[bg,← u];exact hj
   rw[mH,g8 _ J,g8 _ H];have aj:outs.reverse[i]∈outs:=fG.mp (bH J);have ah:outs.reverse[j]∈outs:=fG.mp (bH H);obtain ⟨as,m1⟩:=ho _ aj;obtain ⟨hk2,m2⟩:=ho _ ah;obtain ⟨va,ea,l1,i1,_⟩:=U _ aj;obtain ⟨vb,eb,l2,i2,_⟩:=U _ ah;obtain ⟨mc,hn,hm⟩:=ug (c.X.keeps F'.keep) (c.T.nolimit.keeps F'.keep) (by kernel_rfl);refine JI (aK (bu (by decide:66≤197) c.un) hu:c.un+66<cX) hn hm as hk2 (O _ (hw m1)).1 (O _ (hw m2)).1 (O _ (hw l1)).1 (O _ (hw l2)).1 i1 i2 λb hb=>hC b tk ⟨J,H,λp p' e e'=>?_⟩;rw[am J] at e;rw[am H] at e';cases e;cases e';exact hb
  .have aa:P outs.reverse.length p:=by rw[bg,← u];exact hp
   have e2:(p.toList.map λi=>(refsOf outs).reverse.getD i Value.none).reverse=refsOf ((p.toList.map λi=>outs.reverse.getD i ((0,(0,[])):vC)).reverse):=by
    rw[mH,pj outs.reverse ((0,(0,[])):vC) aa,mH]
   rw[e2] at O;have B:=po outs.reverse ((0,(0,[])):vC) aa;refine hq _ _ _ ⟨D,_,cc,rfl,⟨(jP _).trans (B.trans (jP _)),λg1 g2 g3 g4=>?_⟩,hD,rfl⟩ (hi.to F' O);rw[ko]
   by_cases h2:2≤(refsOf outs).length
   .have gd:=Lc (scr:=scr) (outs:=outs.reverse) (λo h o' h'=>g1 o (fG.mp h) o' (fG.mp h')) (λo h=>g2 o (fG.mp h)) (by rw[vj];exact(jP _).nodup_iff.mpr g3) (λo h o' h'=>g4 o (fG.mp h) o' (fG.mp h'))
    rw[bg,← u] at gd;have:=ab h2 gd;rw[u,← bg] at this;exact Nr aa this _
   .have hl:(p.toList.map λi=>outs.reverse.getD i ((0,(0,[])):vC)).length<2:=by rw[B.length_eq,bg,← u];exact cK h2
    match hm:(p.toList.map λi=>outs.reverse.getD i ((0,(0,[])):vC)),hl with
    | [],_=>exact qc
    | [x],_=>exact gU _ _
 .obtain ⟨D,outs2,c2,rfl,z,hD,rfl⟩:=h
  have ap:(refsOf outs2).length≤16:=by rw[refsOf,aE,z.1.length_eq];exact G
  exact⟨D,refsOf outs2,c2,rfl,zH,aw ap (by decide),DN (n:=16) ap,λD2 l=>⟨_,.mk D2 outs2 0 z (λo h=>z.1.mem_iff.mp h) (aw (z.1.length_eq▸G) (by decide)) (λp hp=>l p (bk 1 (hS p hp))),FC (zH) λp hp=>bk 2 (hS p hp)⟩⟩
theorem BS{scr:Addr×List Int→UInt64} : ss W0 16 scr (λouts=>outs.length≤16) (wt scr):=AP λhK B e G u z hu hl ho _ hr=>BU hK B e G u z hu hl ho hr
end
section
open W PyProof Rows
theorem kw_LW15_0:True:=by
 k_with_none
 k_with "zcall ref"=>(k_here;refine sj ?_)
 k_with "zeval BinOp"=>(k_here;refine sj ?_)
 trivial
theorem km_LW15:True:=by
 k_with "zmm"=>first|with_reducible assumption|exact a8 0 rfl|exact a8 1 rfl|exact a8 2 rfl|exact a8 3 rfl|exact a8 4 rfl|exact a8 5 rfl|exact a8 6 rfl|exact a8 7 rfl|exact a8 8 rfl|exact a8 9 rfl|(refine bk 1 ?_;assumption)|(refine bk 2 ?_;assumption)|(refine bk 3 ?_;assumption)|(refine bk 4 ?_;assumption)|(refine bk 5 ?_;assumption)|(refine bk 6 ?_;assumption)|(refine bk 7 ?_;assumption)|(refine bk 8 ?_;assumption)|(refine bk 9 ?_;assumption)|k_extra "zmt"
 trivial
open PyProof.Rows.LCg
theorem B0(hb:0<b)(u:b≤40)(h2:2*m≤b):¬m7 (nH m b)=true:=by
 refine pU (tu (uh hb u h2).1) λx e h _=>?_;unfold m7;rw[h];intro e;cases e
theorem H6{cs:Scope}{c:Fm W0 cs}{sc:Scope}{k:Cx c sc}{m:Lo}{n:Ns}{l r:PE}{pos}{a b:Int}(hl:Ev k m n l (.int a))(hr:Ev k m n r (.int b)){p q:Nat}(ha:a=2*(p:Int))(hb:b=(q:Int))(h0:0<q)(H:q≤40)(h2:2*p≤q):Ev k m n (.BinOp l .Div r pos) (.flt (nH p q)):=
 ⟨λ_ s hi hq=>d9 (hl.run _ s hi λv s1 hv h1=>hr.run _ s1 h1 λv2 s2 G J=>by
  refine cp hv λt B=>?_
  try clear hv
  subst B;refine cp G λu z=>?_
  try clear G
  subst z
  have e:lH (decide (a<0) != decide (b<0)) a.natAbs b.natAbs=nH p q:=by
   rw[(uh h0 H h2).2,decide_eq_false (by exact λhh=>(qz (ia [a,p] 1 Y0 (.k (-1)) 1 (.a Z0 Y1) Y0 1 (.m 2 Z1) Z0 2 Y0 Z1 rfl hh (iu ha) j7))),decide_eq_false (by exact λhh=>(qz (ia [b,q] 2 Y0 (.k (-1)) 1 (.a Z0 Y1) Y0 1 (.a Y0 Y1) Z1 1 Z1 Z0 rfl hh (ef h0) (iu hb)))),show a.natAbs=2*p by lia,show b.natAbs=q by exact R8 hb];rfl
  refine xx (by simp;exact λhh=>(qz (ia [b,q] 1 Y0 (.k (-1)) 1 Z0 Y0 1 (.a Y0 Y1) Z1 1 Z1 Z0 rfl (gX hh) (ef h0) (iu hb)))) (by rw[e];exact B0 h0 H h2) ?_;rw[e]
  exact hq _ _ ⟨_,rfl⟩ J.toks)⟩
theorem QG(h0:0<q)(e:q≤40)(h2:2*p≤q):MP prog W0 (.float (nH p q) t):=λA E s u Q hq=>yS (by rw[xA h0 e h2];exact hq)
theorem QF(h0:0<q)(e:q≤40)(h2:2*p≤q):MO prog W0 (.float (nH p q) t):=λA E s u Q hq=>yS (by rw[zq h0 e h2];exact hq)
theorem QH:Ap prog W0 (.float x t) (λy=>HX y x):=λA E s y u Q hq=>AutoFloatOps.ge_0 hq
theorem ir(h:jq T q)(hs:∀p∈T,p∈T'):jq T' q:=by
 refine pU h λva ep h1 h2=>?_
 try clear h
 exact(vu va ep (hs _ h1) h2)
theorem ut{l:List Int}(h:l.Pairwise (· < ·)):l.Nodup:=h.imp λh e=>absurd (e▸h) (oh _)
theorem Ju(h:cV bs R Rw):∀q∈R,∀z∈R,q.1=z.1→q=z:=by
 intro q hq z hz e;obtain ⟨i,hi,rfl⟩:=lL hq;obtain ⟨j,hj,rfl⟩:=lL hz;have nd:=cf.mp h.nd
 rcases j4 i j with g|g|g
 .refine absurd ?_ (nd i j (by simp;omega) (by simp;omega) g)
  rw[cI,cI];exact e
 .subst g;rfl
 .refine absurd ?_ (nd j i (by simp;omega) (by simp;omega) g)
  rw[cI,cI];exact e.symm
theorem Pa(h:cV bs R Rw):R.length≤17:=by
 have l:=h.len
 rcases h.hR with e|⟨_,a,e⟩
 .rw[e];exact Kt l (bR true)
 .rw[e,aU,l];exact aS _
noncomputable def vZ(L:Addr)(o1 o2 o3 o4 o5:Obj)(ps:Array Value):Ns:=[(L+1+1+1+1+1,o5),(L+1+1+1+1,o4),(L+1+1+1,o3),(L+1+1,o2),(L+1,o1),(364,bS ps)]
theorem vY(hl:@aR Nat _ 366 L):∀p∈vZ L o1 o2 o3 o4 o5 ps,p.1≠256:=by
 have z:∀k:Nat,@aR Nat _ 256 (L+k):=λk=>aO (aP (by decide:(256:Nat)<366) hl) (bA L k);exact FC (jA (z 5)) (FC (jA (z 4)) (FC (jA (z 3)) (FC (jA (z 2)) (FC (jA (z 1)) (FC (by decide:(364:Nat)≠256) FN)))))
theorem AX(h:p∈vZ L o1 o2 o3 o4 o5 ps):p∈bN L o1 o2 o3 o4 o5 ps qs:=qY [(256,bS qs)] h
theorem uB{P:Addr×Obj→Prop}{L:Addr}{o1 o2 o3 o4 o5:Obj}{ps qs:Array Value}(h:∀p∈vZ L o1 o2 o3 o4 o5 ps,P p)(h2:P (256,bS qs)):∀p∈bN L o1 o2 o3 o4 o5 ps qs,P p:=FA (r:=[(256,bS qs)]) h (FC h2 FN)
theorem b9.n256(h:b9 L n)(hp:p∈n):p.1≠256:=h.all.2.2.2.2.2.2 p hp
theorem KR{c:Fm W0 lawS}{m:Lo}{n0:Ns}{Rr:Re}{rest:List Stmt}(hc:LawC c)(ht:oW c){o1 o2 o3 o4 o5:Obj}{ps qs:Array Value}{wa rl:Addr}{wv:List Value}{ew er:Nat}{bs:List Int}{R Rw:List RowT}{tm tb:Tok}(hof:b9 c.L n0)(hok:cV bs R Rw)
  (d3:o3.data=.cell (some (.int (dw (aZ bs)) tb))) (hwa:(wa,listOf wv.toArray ew)∈n0) (hwi:au wv (bx bs)) (hrl:(rl,listOf (refsOf R).toArray er)∈n0) (hrows:∀q∈R,jq n0 q) (htr:ee qs.toList)
  (hm1:m (ae "wishes")=some (.ref wa)) (hm2:m (ae "rows")=some (.ref rl)) (hm3:m (ae "most")=some (.int (df (aZ bs)) tm)) (hRr:∀f m n,Rr f m n→∃v,f=.ret v)
  (hnext:∀(c':Fm W0 lawS) (OUT:Addr) (NR:List RowT) (qs':Array Value),LawC c'→oW c'→c'.L=c.L→kn (aZ bs) Rw NR→ee qs'.toList→(∀p∈bN c.L o1 o2 o3 o4 o5 ps qs++n0,p.1≠OUT)→cN c' (cj m (ae "near") (.ref OUT)) (bN c.L o1 o2 o3 o4 o5 ps qs'++(OUT,bB (refsOf NR))::n0) rest Rr):
  cN c m (bN c.L o1 o2 o3 o4 o5 ps qs++n0) (bp 12::rest) Rr:=by
 refine(?_:cN c m _ (.Assign [.Name _ _] (.Call (.Name _ _) [.Name _ _,.Name _ _,_,.BinOp (.BinOp _ .Mult (.Name _ _) _) .Div (.Name _ _) _] [] _) _::_) _);have hkk:=mT (m:=m) (ks:=[(ae "wishes",.ref wa),(ae "rows",.ref rl)]) (eP hm1 hm2 trivial);refine ku (wV hok) λq0 q40 q2=>?_
 have hG:dB c.s.gens:=by
  have:=c.hP c.s.heap c.s.toks;rw[ht.hP] at this;exact this
 refine⟨λQ s hi hq=>?_⟩;rw[← hkk] at hi;obtain ⟨h1,tk1,rfl,F1,N1⟩:=hi;have BB:=c.B;have XX:=c.X;have TT:=c.T;dsimp only [Fm.cx,Fm.A,Fm.env]
 k_steps
 refine iH ?_;have v:=hok.vf;have vm0:=v.m0;have vmb:=v.mb;refine' Ev.run (k:=c.cx) (H6 (p:=(df (aZ bs)).toNat) (q:=(dw (aZ bs)).toNat) (km bf (ag (i:=df (aZ bs)) (t:=tm) (by rw[hkk];exact hm3)) (fO (by decide))) (qj (eN (a:=c.L+1+1+1) (o:=o3) (by refine(?_:c.cl.lookup _=_);rw[hc.cl];rfl) (zL (by k_extra "zmm")) d3)) (ny (cW [df (aZ bs),↑((df (aZ bs)).toNat)] 1 (.m 2 Z0) (.m 2 Z1) 2 Z0 Z1 rfl tq) (cW [↑((df (aZ bs)).toNat),df (aZ bs)] 1 (.m 2 Z0) (.m 2 Z1) 2 Z0 Z1 rfl (jb (cW [df (aZ bs)] 1 Y0 Z0 1 (.a Y0 Y1) Z0 rfl vm0)))) (ny (cW [dw (aZ bs),↑((dw (aZ bs)).toNat)] 1 Z0 Z1 1 Z0 Z1 rfl tq) (cW [↑((dw (aZ bs)).toNat),dw (aZ bs)] 1 Z0 Z1 1 Z0 Z1 rfl (jb (eV [dw (aZ bs),df (aZ bs)] 1 Y0 Z0 1 (.m 2 Z1) Z0 2 (.a Y0 Y1) Z1 rfl vmb vm0)))) q0 q40 q2) _ _ ⟨_,_,rfl,F1,N1⟩ ?_;intro v9 s2 zo429 i2;refine cp zo429 λt2 zo430=>?_;clear zo429;subst zo430;obtain ⟨h2,tk2,rfl,F2,N2⟩:=i2
 k_steps
 refine iH ?_;have N3:ba c.h₀ c.L h2 ((256,bS qs)::(wa,listOf wv.toArray ew)::(rl,listOf (refsOf R).toArray er)::(vZ c.L o1 o2 o3 o4 o5 ps++n0)):=cm N2 (FC (zL (a8 6 rfl)) (FC (zR hwa) (FC (zR hrl) (FA (λp hp=>zL (AX hp)) λp hp=>zR hp))));have w256:wa≠256:=hof.n256 hwa;have r256:rl≠256:=hof.n256 hrl;refine' Jm (ge:=λy=>HX y (wW (aZ bs))) (Pre:=λouts=>outs.length≤16) (Rel:=wt (lu bs)) ?B F2 ?X N3 ?T ?hk ?hd ?hu (bx bs) hwi ?yl ?y0 (ut iZ) htr hG ?R40 ?s256 w256 r256 (by decide) (QG q0 q40 q2) (QF q0 q40 q2) QH (AF bs) ?rows (λq hq t ht=>Dm hok hq ht) (Ju hok) (λq hq hp=>Kv hok hq hp) ?pre BS ?hret
 case B=>exact c.B
 case X=>exact c.X
 case T=>exact c.T
 case hk=>exact rfl
 case hd=>have:=hc.hd;exact zE this (bR true)
 case hu=>have:=hc.hu;exact zE this (bR true)
 case yl=>have:=hok.wl;exact r8 this.right.right (bR true)
 case y0=>have:=hok.wl;exact this.right.left
 case R40=>have:=Pa hok;exact r8 this (bR true)
 case s256=>
  exact FA (vY hc.lo) λp hp=>hof.n256 hp
 case rows=>exact λq hq=>ir (hrows q hq) λp hp=>zR hp
 case pre=>
  intro outs ho;have e:outs.map (·.2)=dR (aZ bs) Rw:=ho.trans (A7 hok);have:=Fu (Rw:=Rw) (aZ bs);rw[← e,aE] at this;exact this
 intro OUT outs outs2 ps2 T s2 ho hrel hsub2 hT o1' o2' o3' o4' o5' hps2 hG2 hos F5 N5
 k_steps
 rename Fr _ _ _ _=>FZ;rename ba _ _ _ _=>NZ;rw[hkk] at FZ;have hK:∀p∈vZ c.L o1 o2 o3 o4 o5 ps++n0,p.1≠OUT:=λp hp=>o1' p (hT p hp);have e:outs.map (·.2)=dR (aZ bs) Rw:=ho.trans (A7 hok);have hnear:=Hs hok e hrel
 have eo:outs2.map (λo=>bG o.2.1)=refsOf (outs2.map (·.2)):=by unfold refsOf;rw[iU];rfl
 rw[eo] at NZ;have hNZ:ba c.h₀ c.L _ (bN c.L o1 o2 o3 o4 o5 ps ps2++(OUT,bB (refsOf (outs2.map (·.2))))::n0):=cm NZ (FA (uB (λp h=>bk 4 (hT p (zL h))) (a8 1 rfl)) (FC (a8 0 rfl) λp h=>bk 4 (hT p (zR h))));refine zY (hP:=by intro h tk;rw[ht.hP];exact hG2) hos hRr (hnext (c.on _ _) OUT (outs2.map (·.2)) ps2 ⟨hc.cl,hc.hd,hc.hu,hc.lo⟩ ⟨ht.cd,ht.ch,ht.hP⟩ rfl hnear hps2 (FA (uB (λp h=>hK p (zL h)) (Ne.symm o3')) λp h=>hK p (zR h))) FZ hNZ hq
end
section
open W PyProof Rows
noncomputable def Jg(x:UInt64):Bool:=fL x 0==some pS||fL x 0==some dk
theorem wL(h0:0<n)(B:n≤40)(h2:2*t≤n):Jg (nH t n)=true:=by
 refine pU (tu (uh h0 B h2).1) λm e h _=>?_;unfold Jg fL;rw[h];dsimp only
 have u:∀z:Int,0≤z→(some (compare z 0)==some pS||some (compare z 0)==some dk)=true:=by
  intro z hz
  rcases Int.lt_or_eq_of_le hz with h|h
  .rw[JF.mpr h];rfl
  .subst h;rfl
 have hm:(0:Int)≤MT false m:=by refine(?_:(0:Int)≤if false=true then -(m:Int) else m);rw[if_neg (by decide)];exact j7
 split
 .exact u _ (Int.mul_nonneg hm (Int.pow_nonneg (by decide)))
 .rw[CV];exact u _ hm
theorem Bg(vs:List Int):∀i,(qJ vs i).1=0∨∃S:Nat,S<i∧qJ vs i=(fP vs (S:Int),((th (S:Int)).length:Int))
 | 0=>.inl rfl
 | i+1=>by
  by_cases h:fP vs i*(gx vs+5*(qJ vs i).2) > (qJ vs i).1*(gx vs+5*((th (i:Int)).length:Int))
  .exact .inr (db i (aJ _) (wX h))
  .rw[Ai h]
   rcases Bg vs i with e|⟨S,h1,h2⟩
   .exact .inl e
   .exact .inr (db S (aW h1) h2)
section
variable {bs:List Int}{R Rw NR:List RowT}
theorem Jj(h:cV bs R Rw){c:Nat}(hc:c<16)(hd:pW (aZ bs) (c:Int)=true):Rw.getD c (0,[])∈dR (aZ bs) Rw:=by
 unfold dR;exact eA.mpr (db c (bZ.mpr ⟨bE.mpr hc,hd⟩) rfl)
theorem OO(h:cV bs R Rw):dR (aZ bs) Rw≠[]:=by
 have v:=h.vf
 rcases Bg (aZ bs) 16 with e|⟨S,h1,h2⟩
 .have:=v.m0
  unfold df at this;exact λhh=>PA this (Eq.symm e)
 .refine List.ne_nil_of_mem (Jj h h1 ?_)
  rw[v.due S h1];refine decide_eq_true ?_;unfold dw df sizeOf;rw[h2]
theorem oH(h:cV bs R Rw)(hn:kn (aZ bs) Rw NR)(hq:q∈NR):q∈dR (aZ bs) Rw:=hn.perm.mem_iff.mp hq
theorem Bf(h:cV bs R Rw)(hq:q∈dR (aZ bs) Rw):q∈Rw:=by
 refine fM (ma h hq) λc hc e _=>?_;rw[e];exact(h.get hc).2
theorem L5(h:cV bs R Rw)(hq:q∈Rw):q∈R:=by
 rcases h.hR with e|⟨_,a,e⟩
 .rw[e];exact hq
 .rw[e];exact zL hq
noncomputable def R2(Rw NR:List RowT):List RowT:=NR.take 2++[Rw.getD 8 (0,[])]
theorem wu(h:cV bs R Rw)(hn:kn (aZ bs) Rw NR)(hq:q∈R2 Rw NR):q∈Rw:=by
 unfold R2 at hq
 rcases aC.mp hq with hq|hq
 .exact Bf h (oH h hn (gD hq))
 .rw[az.mp hq];exact(h.get (by exact uu (aS 8) (bR true))).2
theorem Kw(h:cV bs R Rw)(hq:q∈Rw):
  Jg (kq ((q.2.filter (·∈bx bs)).length:Int) ((q.2.length:Int)+((bx bs).length:Int)))=true∧Jg (kq (if ((bx bs).length:Int)<(q.2.length:Int) then ((bx bs).length:Int) else (q.2.length:Int)) ((q.2.length:Int)+((bx bs).length:Int)))=true:=by
 refine fN (h.idx hq) λc hc e0=>?_
 have e:q.2=gK c:=by rw[e0];exact(h.get hc).1
 refine ku (qZ h hc) λt1 t2 t3=>?_;have l:=tg c hc
 have el:q.2.length=5*(th (c:Int)).length:=by rw[e,l]
 have a:=ky h hc;have u:=rY h.bl c
 have B:((q.2.length:Int)+((bx bs).length:Int))=((5*(th (c:Int)).length+(bx bs).length:Nat):Int):=by exact ny (cW [q.snd.length,↑((bx bs).length),↑((th (c:Int)).length)] 1 (.a Z0 Z1) (.a (.m 5 Z2) Z1) 1 Z0 (.m 5 Z2) rfl (vX el)) (cW [↑((th (c:Int)).length),↑((bx bs).length),q.snd.length] 1 (.a (.m 5 Z0) Z1) (.a Z2 Z1) 1 (.m 5 Z0) Z2 rfl (l9 el))
 have z:(if ((bx bs).length:Int)<(q.2.length:Int) then ((bx bs).length:Int) else (q.2.length:Int))=((if (bx bs).length<q.2.length then (bx bs).length else q.2.length:Nat):Int):=Rd;rw[B,z,rq,rq];refine⟨wL t1 t2 ?_,wL t1 t2 (el▸Rh)⟩
 have e2:(q.2.filter (·∈bx bs)).length=((gK c).filter λx=>decide (x∈bx bs)).length:=by rw[e]
 exact nU (Jf [↑((eU (λ(x:Int)=>decide (x∈bx bs)) q.snd).length),↑((th (c:Int)).length),↑((bx bs).length),↑((eU (λ(x:Int)=>decide (x∈bx bs)) (gK c)).length),fP (aZ bs) (c:Int),↑((gK c).length)] 1 (.m 2 Z0) (.a (.m 5 Z1) Z2) 2 Z0 Z3 2 Z3 Z4 1 Z4 Z5 1 Z4 Z2 1 Z5 (.m 5 Z1) rfl (vX e2) (gX u) a.2.1 a.2.2 (vX l))
theorem J8(h:cV bs R Rw)(hq:q∈Rw):Jg (lu bs q)=true:=by
 refine fN (h.idx hq) λc hc e0=>?_
 have e:q.2=gK c:=by rw[e0];exact(h.get hc).1
 refine ku (qZ h hc) λt1 t2 t3=>?_;rw[(lS h e).resolve_right (by exact λhh=>uH hc hh)];exact wL t1 t2 t3
theorem DA(h:cV bs R Rw){q:RowT}(hq:q∈dR (aZ bs) Rw){c:Nat}(hc:c<16)(hd:pW (aZ bs) (c:Int)=false){z:RowT}(hz:z.2=gK c):cY (lu bs z) (lu bs q)=some kf:=by
 refine sJ (ma h hq) λc' e _ O G=>?_;rw[(lS h hz).resolve_right (by exact λhh=>uH hc hh),(lS h O).resolve_right (by exact λhh=>uH e hh)];refine ku (qZ h hc) λt1 t2 t3=>?_;refine ku (qZ h e) λu1 u2 u3=>?_;rw[(pn t1 t2 t3 u1 u2 u3).1,gI.mpr];rw[h.vf.due c hc] at hd;rw[h.vf.due c' e] at G;have hd:=of_decide_eq_false hd;have G:=of_decide_eq_true G;have le:=h.vf.le c hc;have w:=h.wl;have a:=ky h hc;have U:=ky h e;have m0:=h.vf.m0;have mb:=h.vf.mb;generalize (th (c:Int)).length=k at *;generalize (th (c':Int)).length=J at *;generalize fP (aZ bs) (c:Int)=x at *;generalize fP (aZ bs) (c':Int)=u at *;generalize df (aZ bs)=M at *;generalize dw (aZ bs)=B at *;generalize gx (aZ bs)=n at *
 have H:x*B<M*(n+5*(k:Int)):=by omega
 have g:x*(n+5*(J:Int))<u*(n+5*(k:Int)):=by
  refine Int.lt_of_mul_lt_mul_right (a:=B) ?_ (by exact eV [B,M] 1 Y0 Z0 1 (.m 2 Z1) Z0 2 (.a Y0 Y1) Z1 rfl mb m0);rw[io,io u,← G,io M];exact Int.mul_lt_mul_of_pos_right H (by exact eV [n,J,↑((bx bs).length)] 1 (.a Y0 Y1) (.a Z0 (.m 5 Z1)) 1 Z2 Z0 1 (.a Y0 Y1) (.a (.m 5 Z1) Z2) rfl (gX w.1) (ef u1))
 have e1:((x.toNat:Nat):Int)=x:=by exact EK a.left
 have e2:((u.toNat:Nat):Int)=u:=by exact EK U.left
 refine gJ.mp ?_;rw[dH,dH,e1,e2,jz,jz,dH,dH,w.1];rw[gi _ n,gi _ n];exact g
theorem Hr(h:cV bs R Rw)(hn:kn (aZ bs) Rw NR):(NR.map (·.1)).Nodup:=(hn.perm.map _).nodup_iff.mpr (Ft h)
theorem Jb(h:cV bs R Rw)(hn:kn (aZ bs) Rw NR){outs:List (Addr×RowT)}(ho:outs.map (·.2)=R2 Rw NR):IJ (lu bs) outs∧∀O rest,outs=O::rest→[O.2]=NR.take 1:=by
 have hne:NR≠[]:=λe=>OO h (by have:=hn.perm;rw[e] at this;exact this.nil_eq.symm)
 cases NR with
 | nil=>exact absurd rfl hne
 | cons G NT=>
  cases outs with
  | nil=>exact absurd (congrArg eK ho) (by unfold R2;simp)
  | cons O rest=>
   unfold R2 at ho;rw[List.take_succ_cons,fJ,kL] at ho;refine b8 (List.cons.inj ho) λe0 e1=>?_;have u:G∈dR (aZ bs) Rw:=oH h hn (zH);refine⟨(vu O rest rfl (λo U=>?_)),λa b e=>by cases e;rw[e0];rfl⟩
   have B:∀q∈NT,lu bs q=lu bs G∧cY (lu bs q) (lu bs q)=some dk∧(q.1=G.1∨(q.1≠G.1∧q.2≠G.2∧jF G.2 q.2=false)):=λq hq=>by
    have H:q∈dR (aZ bs) Rw:=oH h hn (zT hq);refine sJ (ma h H) λc hc _ e _=>?_;have nd:=(dZ.mp (Hr h hn)).1 q.1 (fZ hq);have ds:=(dZ.mp hn.desc).1 q hq;refine(eP (xJ h H u) (rd h hc e) (.inr (eP (Ne.symm nd) (uT h H u (Ne.symm nd)) ?_)))
    cases hl:jF G.2 q.2 with
    | false=>rfl
    | true=>exact absurd ds (EC _ _ hl)
   have Y:o.2∈NT.take 1++[Rw.getD 8 (0,[])]:=by rw[← e1];exact fZ U
   rw[e0]
   rcases aC.mp Y with h1|h1
   .exact .inl (B _ (gD h1))
   .have e8:=az.mp h1
    cases d8:pW (aZ bs) ((8:Nat):Int) with
    | true=>
     have m8:o.2∈G::NT:=by
      rw[e8];exact hn.perm.mem_iff.mpr (Jj h (by exact uu (aS 8) (bR true)) d8)
     rcases ak.mp m8 with e|e
     .refine sJ (ma h u) λc hc _ e' _=>?_
      rw[e];exact .inl (eP rfl (rd h hc e') (.inl rfl))
     .exact .inl (B _ e)
    | false=>
     have J:=DA h u (c:=8) (by exact uu (aS 8) (bR true)) d8 (z:=o.2) (by rw[e8];exact(h.get (by exact uu (aS 8) (bR true))).1);refine .inr ⟨λe=>?_,J⟩;refine sJ (ma h u) λc hc _ e' _=>?_;rw[e,rd h hc e'] at J;cases J
theorem Fn(h:cV bs R Rw){sv:List Value}(hs:sv=refsOf Rw):((aV 16).filter (λc:Nat=>pW (aZ bs) (c:Int))).map (λc=>sv.getD c .none)=refsOf (dR (aZ bs) Rw):=by
 unfold dR refsOf;rw[iU];refine rT λc hc=>?_;have hc:=bE.mp (bZ.mp hc).1;have hl:=h.len;rw[hs,g8 Rw (by exact pV hl hc)];refine(?_:bG _=bG (Rw.getD c (0,[])).1);rw[ay,am (by exact pV hl hc)];rfl
theorem yu(h:cV bs R Rw):(dR (aZ bs) Rw).Pairwise (λa b=>a.2≠b.2):=by
 have nd:=Ft h;rw[List.Nodup,jQ] at nd;exact nd.imp_of_mem λ{a b} ha hb hne=>uT h ha hb hne
end
end
section
open W PyProof Rows PySem.Spec PySem.SeqAt
section
variable {prog:Program}{A:Around}{E:VP}{s:Shared}{h₀:Heap}{L:Addr}{m:Lo}{news:Ns}
noncomputable def yt:Addr×List Int:=(0,[])
noncomputable def KC(rs:List (Addr×List Int))(i j:Nat):Bool:=jF (rs.getD i yt).2 (rs.getD j yt).2
theorem OD(hn:rs.Pairwise (λa b=>a.2≠b.2)):Good (λi j b=>b=KC rs i j) (KC rs) rs.length:=by
 refine⟨⟨λi j hi hj hne hf=>?_,λi j k a b=>pu a b⟩,λi j b h=>h⟩;unfold KC at hf ⊢;refine sd (λe=>?_) hf;rw[ay,ay,am hi,am hj] at e;have z:rs[i].2=rs[j].2:=e;have:=cf.mp hn
 rcases sZ hne with u|u
 .exact this i j hi hj u z
 .exact this j i hj hi u z.symm
theorem RN(hp:P rs.length p)(h:tL (KC rs) p rs.length):(p.toList.map λi=>rs.getD i yt).Pairwise (λa b=>jF a.2 b.2=true):=by
 rw[cf];intro i j hi hj B
 have z:p.toList.length=rs.length:=by rw[hp.list.length_eq,de]
 simp only[aE] at hi hj
 have e:∀(k:Nat) (hk:k<p.toList.length),p.toList[k]'hk=p.getD k 0:=by
  intro k hk
  have u:k<p.size:=by simpa using hk
  rw[qV];simp [Gp,u]
 rw[cI,cI,e i hi,e j hj];exact h i j B (pV (Eq.symm z) hj)
theorem J2(a v:Value):g5 "sorted" ⟨[a],[(PySem.Str.ofString "reverse",v)]⟩:=by unfold g5;kernel_rfl
theorem J1(a v:Value):g5 "list.sort" ⟨[a],[(PySem.Str.ofString "reverse",v)]⟩:=by unfold g5;kernel_rfl
theorem xF(hu:A.units+64<cX)(F:Fr h₀ L s.heap m)(N:ba h₀ L s.heap news)(hl:s.heap.IsList l (refsOf rs).toArray)(ab:rs.length<64)
  (ho:∀o∈rs,jq news o) (hn:rs.Pairwise (λa b=>a.2≠b.2))
  (h:∀D G c h' tk,G.Perm rs→G.Pairwise (λa b=>jF b.2 a.2=true)→(∀q∈news,q.1<D)→Fr h₀ L h' m→ba h₀ L h' ((D,listOf (refsOf G).toArray c)::news)→Q (.ref D) {s with heap:=h',toks:=tk}):
  aA (aq prog W0) A (call (.builtin "sorted") [.ref l] [(PySem.Str.ofString "reverse",.bool true)]) Q E s:=by
 have u:(refsOf rs).length=rs.length:=by simp [refsOf]
 refine uf (vs:=refsOf rs) (κ:=oneType') (R:=λi j b=>b=KC rs.reverse i j) (lt:=KC rs.reverse) F N hl (Hy u ab) (J2 _ _) (λx=>J1 _ _) J0 ?hk2 ?hc ?_
 case hk2=>
  intro h2 h' Q' F' U hq;refine kas_kind (T:=.type "list") h2 (λv hv=>?_) (by decide) (by decide) hq;refine fN (eA.mp hv) λo aa B=>?_;subst B;refine pU (ho o aa) λva ep h1 _=>?_;exact(kI (M:=aq prog W0) (part:=some n8) (U _ h1).1).andThen .now
 case hc=>
  intro i j h' tk C hi hj F' U hC
  have O:i<rs.reverse.length:=by rw[bg];exact pV (Eq.symm u) hi
  have J:j<rs.reverse.length:=by rw[bg];exact pV (Eq.symm u) hj
  rw[mH,g8 _ O,g8 _ J];refine gL (ho _ (fG.mp (bH O))) λva ea l1 i1 _=>?_;refine gL (ho _ (fG.mp (bH J))) λvb eb l2 i2 _=>?_;rw[keyLt'_oneType];refine Ka (by refine(?_:A.units+1+1<cX);exact Q6 hu (bR true)) (U _ l1).1 (U _ l2).1 i1 i2 (hC _ tk ?_);unfold KC;rw[ay,ay,am O,am J];rfl
 intro D p c h' tk hp Y hD F' U
 have H:P rs.reverse.length p:=by rw[bg,← u];exact hp
 have e2:(p.toList.map λi=>(refsOf rs).reverse.getD i Value.none).reverse=refsOf ((p.toList.map λi=>rs.reverse.getD i yt).reverse):=by
  rw[mH,pj rs.reverse yt H,mH]
 rw[e2] at U;have z:=po rs.reverse yt H;refine h D _ c h' tk ((jP _).trans (z.trans (jP _))) ?_ hD F' U;rw[ko]
 by_cases h2:2≤(refsOf rs).length
 .have gd:=OD (rs:=rs.reverse) (ko.mpr (hn.imp λh e=>h e.symm))
  rw[bg,← u] at gd;have:=Y h2 gd;rw[u,← bg] at this;exact RN H this
 .have hl:(p.toList.map λi=>rs.reverse.getD i yt).length<2:=by rw[z.length_eq,bg];exact Hy (Eq.symm u) (cK h2)
  match hm:(p.toList.map λi=>rs.reverse.getD i yt),hl with
  | [],_=>exact qc
  | [x],_=>exact gU _ _
noncomputable def ix(rs:List (Addr×List Int)):List PyData:=rs.map λq=>.list (q.2.map .int)
theorem qh:∀{rs:List (Addr×List Int)},(∀q∈rs,∃va ep,h.get? q.1=some (listOf va.toArray ep)∧au va q.2)→∃fp,ReadsAll h (refsOf rs) (ix rs) fp
 | [],_=>⟨[],.nil⟩
 | q::r,hr=>by
  refine pU (hr q (zH)) λva ep h1 h2=>?_;refine cp (qh λz hz=>hr z (zT hz)) λfp e=>?_;exact⟨_,.cons (reads_of_ints (c9 _ h1 rfl ⟨ep,rfl⟩) h2) e⟩
theorem xY:∀rs:List (Addr×List Int),sH (ix rs)=true
 | []=>by simp [ix,sH]
 | q::r=>by
  have:=xY r;simp only[ix] at this;simp [ix,sH,wx,canLayAll0_ints,this]
theorem uS:∀rs:List (Addr×List Int),vi (ix rs)≤3
 | []=>by simp [ix,vi]
 | q::r=>by
  have:=uS r;have h2:=W.depthAll_ints q.2;simp only[ix] at this;simp only[ix,kL,vi,sG];lia
theorem sy(rs:List (Addr×List Int)):shaped (.list (ix rs))=true:=by
 have h1:=uS rs
 have h2:sG (.list (ix rs))≤64:=by simp only[sG];exact r8 (fh h1 1) (bR true)
 refine(?_:(wx (.list (ix rs))&&decide (sG (.list (ix rs))≤64))=true);rw[dI];exact⟨by simp only[wx];exact xY rs,decide_eq_true h2⟩
theorem xU:∀rs:List (Addr×List Int),noMixAll (ix rs) (ix rs)=true
 | []=>by simp [ix,noMixAll]
 | q::r=>by
  have:=xU r;simp only[ix] at this;simp [ix,noMixAll,noMix,noMix_ints,this]
theorem vQ:∀rs:List (Addr×List Int),PySem.Spec.sameAll (ix rs) (ix rs)=true
 | []=>by simp [ix,PySem.Spec.sameAll]
 | q::r=>by
  have:=vQ r;simp only[ix] at this;simp [ix,PySem.Spec.sameAll,PySem.Spec.same,same_ints,this]
theorem AQ(hu:A.units+64<cX)(ha:s.heap.get? a=some (listOf (refsOf rs).toArray ea))(hb:s.heap.get? b=some (listOf (refsOf rs).toArray eb))(hr:∀q∈rs,∃va ep,s.heap.get? q.1=some (listOf va.toArray ep)∧au va q.2)(h:Q (.bool false) s):aA (aq prog W0) A (fo .NotEq (.ref a) (.ref b)) Q E s:=by
 refine cp (qh hr) λfp hf=>?_;refine ne_dataH_same (Reads.list ha rfl rfl (by simpa using hf)) (Reads.list hb rfl rfl (by simpa using hf)) (sy rs) (sy rs) hu (by simp only[noMix];exact xU rs) ?_;simp only[PySem.Spec.same];rw[vQ];exact h
end
end
section
open W PyProof Rows
theorem kw_LW16_0:True:=by
 k_with_none
 k_with "zk_ne"=>first|assumption|(refine' NE ?h ?m;(case h=>assumption);(case m=>k_memK))|(refine' NF ?h ?m;(case h=>assumption);(case m=>k_memK))|(refine neN ?_;(try dsimp only);lia)
 k_with "zk_all"=>first|assumption|(refine EJ ?_;assumption)|with_reducible exact List.forall_mem_nil _|((with_reducible refine zC ⟨?_,?_⟩);(focus k_ne);k_all)|(intro z9p9 z9hp9;refine' RQ ?h ?m;(case h=>assumption);(case m=>k_ownIn))
 k_with "zent"=>(refine' code_defC ?k1 ?k2 ?k3 ?k4 ?k5 ?kA ?kF ?kK ?k6 ?k7 ?k8 ?k9 ?kB ?kD ?_ ?c2 ?c3 ?c4;(case kA=>exact rfl);(case kF=>exact rfl);(case kK=>first|exact rfl|assumption);(case k1=>k_asm);(case k2=>k_asm);(case k3=>k_asm);(case k4=>k_asm);(case k5=>k_asm);(case k6=>k_is);(case k7=>k_is);(case k8=>ktr_room);(case k9=>first|exact dG rfl|exact pQ (by k_in) rfl (by k_is) rfl rfl rfl);(case kB=>exact rfl);(case kD=>decide +kernel);(case c2=>exact rfl);(case c3=>exact rfl);(case c4=>exact rfl);k_whole;intro z9gp z9Lp z9hp z9tkp z9cellsp z9FGp z9Fp z9Np z9Yp z9Bp z9Xp z9Tp z9l1;(try k_lt z9l1);k_cells z9Yp;(try simp only[fJ,ip] at z9Np);(try dsimp only);(try k_fold))
 k_with "zcall ref"=>(k_here;refine eG ?_;k_dflt ktr_enter)
 k_with "zgetAttr ref"=>(k_here;first
  | ((with_reducible show aA _ _ (jO (bG _) (ae "get") _) _ _ _);k_dflt (refine' O4 ?F ?N ?m ?d ?_;(case F=>k_asm);(case N=>k_asm);(case m=>k_mem);(case d=>assumption);k_whole);intro z9qp z9hp z9Fp z9Np z9l1;(try k_lt z9l1);(try k_sweep))
  | ((with_reducible show aA _ _ (jO (bG _) (ae "__contains__") _) _ _ _);k_dflt (refine' O3 ?F ?N ?m ?d ?_;(case F=>k_asm);(case N=>k_asm);(case m=>k_mem);(case d=>assumption);k_whole);intro z9qp z9hp z9Fp z9Np z9l1;(try k_lt z9l1);(try k_sweep))
  | ((with_reducible show aA _ _ (jO (bG _) (ae "__contains__") _) _ _ _);k_dflt (refine' Js ?F ?N ?m ?_;(case F=>k_asm);(case N=>k_asm);(case m=>k_mem);k_whole);intro z9qp z9hp z9Fp z9Np z9l1;(try k_lt z9l1);(try k_sweep)))
 k_with "zcallWith ref"=>(k_here;(with_reducible show aA _ _ (iI _ (bG _) _ (fj _ (bW (_::_) _)) []) _ _ _);k_dflt (refine' pK ?kfbN ?kfbM ?_;(case kfbN=>k_asm);(case kfbM=>k_mem);k_whole))
 k_with "zAnd"=>((with_reducible show tK _ _ _ _∧_);k_dflt (refine⟨zl (by k_asm) (by k_mem),?_⟩);(try dsimp only [ip,fJ]))
 k_with "zcall ref"=>(k_here;first
  | ((with_reducible show aA _ _ (call (bG _) [eY _ _,_]) _ _ _);k_dflt (refine' Jr ?N ?q ?m ?d ?lo ?e ?_;(case N=>k_asm);(case q=>k_mem);(case m=>k_mem);(case d=>assumption);(case lo=>assumption);(case e=>assumption));(try dsimp only [Option.getD]))
  | ((with_reducible show aA _ _ (call (bG _) [eY _ _]) _ _ _);k_dflt (refine' Jq ?N ?q ?m ?d ?lo ?e ?_;(case N=>k_asm);(case q=>k_mem);(case m=>k_mem);(case d=>assumption);(case lo=>assumption);(case e=>assumption));(try dsimp only [Option.isSome]))
  | ((with_reducible show aA _ _ (call (bG _) [eY _ _]) _ _ _);k_dflt (refine' Jn ?N ?q ?m ?_;(case N=>k_asm);(case q=>k_mem);(case m=>k_mem))))
 k_with "zgetMethod ref"=>(k_here;first
  | ((with_reducible show aA _ _ (gN (bG _) (ae "get") _) _ _ _);k_dflt (refine' NP ?N ?m ?d ?_;(case N=>k_asm);(case m=>k_mem);(case d=>assumption)))
  | ((with_reducible show aA _ _ (gN (bG _) (ae "setdefault") _) _ _ _);k_dflt (refine' NU ?N ?m ?d ?_;(case N=>k_asm);(case m=>k_mem);(case d=>assumption))))
 k_with "zcall builtin:dict.get"=>(k_here;(with_reducible show aA _ _ (call (ji "dict.get") [bG _,eY _ _,_]) _ _ _);k_dflt (refine' Jl ?N ?m ?d ?lo ?e ?_;(case N=>k_asm);(case m=>k_mem);(case d=>assumption);(case lo=>assumption);(case e=>assumption));(try dsimp only [Option.getD]))
 k_with "zsetItem ref int"=>(k_here;k_dflt (refine' kda_set (knd:=PySem.intKind _ _) ?F ?N ?U ?d (j0 _ _ _ _) ?z ?_;(case F=>k_asm);(case N=>k_asm);(case U=>k_updF);(case d=>assumption);(case z=>assumption));intro z9hp z9op z9Fp z9Np z9hdp;(try dsimp only at z9Np))
 k_with "zexec For Name Attribute cons nil"=>(k_here;(rename Fr _ _ _ _=>z9lFp);(with_unfolding_all refine' qS z9lFp ?_;k_whole))
 k_with "zpyIter ref"=>((with_reducible show aA _ _ (rK (bG _)) (λit s₂=>TurnsAt _ _ _ _ _ _ _ _ _ it s₂) _ _);k_dflt (refine' CJ ?hh ?F ?N ?m ?c ?d ?_;(case hh=>exact rfl);(case F=>k_asm);(case N=>k_asm);(case m=>k_mem);(case c=>exact rfl);(case d=>exact rfl));intro z9Ip z9l1;(try k_lt z9l1))
 k_with "zcall ref"=>(k_here;refine sj ?_)
 k_with "zeval BinOp"=>(k_here;refine sj ?_)
 k_with "zeval Subscript"=>(k_here;refine sj ?_)
 k_with "zcall builtin:sorted"=>(k_here;refine sj ?_)
 k_with "zcompareOp NotEq ref ref"=>(k_here;refine sj ?_)
 trivial
theorem km_LW16:True:=by
 k_with "zmt"=>first|with_reducible assumption|with_reducible exact zH|(with_reducible refine zR ?_;k_extra "zmt")|(with_reducible refine zL ?_;k_extra "zmt")|(with_reducible refine zT ?_;k_extra "zmt")
 k_with "zmm"=>first|with_reducible assumption|exact a8 0 rfl|exact a8 1 rfl|exact a8 2 rfl|exact a8 3 rfl|exact a8 4 rfl|exact a8 5 rfl|exact a8 6 rfl|exact a8 7 rfl|exact a8 8 rfl|exact a8 9 rfl|(refine bk 1 ?_;assumption)|(refine bk 2 ?_;assumption)|(refine bk 3 ?_;assumption)|(refine bk 4 ?_;assumption)|(refine bk 5 ?_;assumption)|(refine bk 6 ?_;assumption)|(refine bk 7 ?_;assumption)|(refine bk 8 ?_;assumption)|(refine bk 9 ?_;assumption)|k_extra "zmt"
 k_with "zsu"=>first|exact FN|(refine FC ?_ ?_;(focus k_extra "zmm");k_extra "zsu")|(refine FA ?_ ?_;(focus k_extra "zsu");k_extra "zsu")|(intro p9 hp9;k_extra "zmm")
 trivial
open PyProof.Rows.LCg
theorem Lv(he:Ev k m n e (.val x))(u:autoParam (∀r,SE k.env e r) zAb):Er k m n (.List [e] pos) (λv n'=>∃D,v=.ref D∧n'=(D,listOf [x].toArray 0)::n∧∀q∈n,@aR Nat _ q.1 D):=
 ⟨λQ s hi hq=>List_ (aI (he.run _ s hi λv s1 B i1=>bK (by
  cases B;refine gL (qw k i1) λm0 ex F N cl=>?_
  exact yQ F N (λD h' H G z=>hq _ _ _ (c9 D rfl rfl (λq hq=>z q (zR hq))) (cl h' s1.toks D _ H G)) (by refine(?_:1≤ec);decide))) (u _))⟩
theorem vU(l:List Value)(k:Nat):jI l.toArray.toList none (some (k:Int))=l.take k:=by
 unfold jI kms_lo kms_hi;dsimp only;rw[if_neg (λhh=>MJ hh j7),bM,MY,Nat.sub_zero]
 by_cases hb:k≤l.length
 .rw[qq hb]
 .have e:Min.min k l.length=l.length:=vN (aN (cK hb))
  rw[e,cT,pT (aN (cK hb))]
theorem vS(l:List (Addr×α))(k:Nat):(refsOf l).take k=refsOf (l.take k):=by
 unfold refsOf;rw[List.map_take]
theorem M8:MP prog W0 (.int 0 t):=λA E s u Q hq=>le_fi (by
 have e:(fL 0 0==some kf||fL 0 0==some dk)=true:=by decide +kernel
 rw[e];exact hq)
theorem M7:MO prog W0 (.int 0 t):=λA E s u Q hq=>le_if (by
 have e:(fL 4607182418800017408 0==some pS||fL 4607182418800017408 0==some dk)=true:=by decide +kernel
 rw[e];exact hq)
theorem M9:Ap prog W0 (.int 0 t) Jg:=λA E s y u Q hq=>ge_fi hq
theorem KL{c:Fm W0 lawS}{m:Lo}{n0:Ns}{Rr:Re}{rest:List Stmt}(hc:LawC c)(ht:oW c){o1 o2 o3 o4 o5:Obj}{ps qs:Array Value}{wa na dl sa:Addr}{wv:List Value}{ew en ed es:Nat}{bs:List Int}{R Rw NR:List RowT}(hof:b9 c.L n0)(hok:cV bs R Rw)(hnr:kn (aZ bs) Rw NR)
  (hwa:(wa,listOf wv.toArray ew)∈n0) (hwi:au wv (bx bs)) (hna:(na,listOf (refsOf NR).toArray en)∈n0) (hdl:(dl,listOf (refsOf (dR (aZ bs) Rw)).toArray ed)∈n0) (hsa:(sa,listOf (refsOf Rw).toArray es)∈n0) (hrows:∀q∈Rw,jq n0 q) (htr:ee qs.toList)
  (hm1:m (ae "wishes")=some (.ref wa)) (hm2:m (ae "near")=some (.ref na)) (hm3:m (ae "due")=some (.ref dl)) (hm4:m (ae "sets")=some (.ref sa)) (hRr:∀f m n,Rr f m n→∃v,f=.ret v)
  (hnext:∀(c':Fm W0 lawS) (qs':Array Value),LawC c'→oW c'→c'.L=c.L→cN c' m (bN c.L o1 o2 o3 o4 o5 ps qs'++n0) rest Rr):
  cN c m (bN c.L o1 o2 o3 o4 o5 ps qs++n0) (bp 17::rest) Rr:=by
 refine(?_:cN c m _ (.If (.BoolOp .Or [.Compare (.Name _ _) [.NotEq] [.Call (.Name _ _) [.Name _ _] [_] _] _,.Compare (.Call (.Name _ _) [.Name _ _,.BinOp (.Subscript (.Name _ _) (.Slice none (some _) none _) _) .Add (.List [.Subscript (.Name _ _) _ _] _) _,_,_] [] _) [.NotEq] [.Subscript (.Name _ _) (.Slice none (some _) none _) _] _] _) [.Return _ _] [] _::_) _);have hkk:=mT (m:=m) (ks:=[(ae "wishes",.ref wa),(ae "near",.ref na),(ae "due",.ref dl),(ae "sets",.ref sa)]) (OB hm1 hm2 hm3 hm4 trivial)
 have hG:dB c.s.gens:=by
  have:=c.hP c.s.heap c.s.toks;rw[ht.hP] at this;exact this
 have hDl:=Fu (Rw:=Rw) (aZ bs)
 have hNl:NR.length≤16:=by rw[hnr.perm.length_eq];exact hDl
 have hrz:(refsOf NR).length≤1000:=by rw[refsOf,aE];lia
 refine⟨λQ s hi hq=>?_⟩;rw[← hkk] at hi;obtain ⟨h1,tk1,rfl,F1,N1⟩:=hi;have BB:=c.B;have XX:=c.X;have TT:=c.T;dsimp only [Fm.cx,Fm.A,Fm.env]
 k_steps
 refine iH ?_;refine xF (rs:=dR (aZ bs) Rw) (by have:=hc.hu;refine(?_:c.un+64<cX);exact ltN (cW [c.un,cX] 1 (.a (.a Z0 (.k 64)) Y1) Z1 1 (.a (.a Z0 (.k 1000)) Y1) Z1 rfl (ef this))) F1 N1 (c9 _ ((N1 _ (zR hdl)).1) rfl ⟨ed,rfl⟩) (by lia) (λo ho=>ir (hrows o (Bf hok ho)) λp hp=>zR hp) (yu hok) ?_;intro Ds rs' cz h2 tk2 hperm hdesc hltD F2 N2;have ers:rs'=NR:=kn.eq (vs:=aZ bs) (Rw:=Rw) ⟨hperm,hdesc⟩ hnr;subst ers
 k_steps
 refine iH ?_;refine AQ (rs:=rs') (by have:=hc.hu;refine(?_:c.un+64<cX);exact ltN (cW [c.un,cX] 1 (.a (.a Z0 (.k 64)) Y1) Z1 1 (.a (.a Z0 (.k 1000)) Y1) Z1 rfl (ef this))) (N2 _ (zT (zR hna))).1 (N2 _ (zH)).1 (λq hq=>?_) ?_
 .refine gL (hrows q (Bf hok (oH hok hnr hq))) λva ep h1' h2' _=>?_
  exact(vu va ep ((N2 _ (zT (zR h1'))).1) h2')
 k_steps
 refine iH ?_;have hR8:=hok.get (c:=8) (ltN (kP [] (.a (.k 8) Y1) (.k 16) rfl))
 have hx8:(refsOf Rw)[(8:Int).toNat]?=some (.ref (Rw.getD 8 (0,[])).1):=by
  have hl:=hok.len;rw[show (8:Int).toNat=8 from rfl,refsOf,eS,am (by lia),ay,am (ltN (cW [Rw.length] 1 (.a (.k 8) Y1) Z0 1 (.k 16) Z0 rfl (l9 hl)))];rfl
 refine' Er.run (k:=c.cx) (m:=zN [(ae "wishes",.ref wa),(ae "near",.ref na),(ae "due",.ref dl),(ae "sets",.ref sa)] m) (P:=λv n'=>∃D,v=.ref D∧(D,listOf (refsOf (R2 Rw rs')).toArray 0)∈n'∧(∀p∈bN c.L o1 o2 o3 o4 o5 ps qs++n0,p∈n')∧D≠256) (wT (P:=λv n1=>∃D,v=.ref D∧n1=(D,listOf (refsOf (rs'.take 2)).toArray 0)::(Ds,listOf (refsOf rs').toArray cz)::(bN c.L o1 o2 o3 o4 o5 ps qs++n0)) (P2:=λv n2=>∃D,v=.ref D∧(D,listOf [bG (Rw.getD 8 (0,[])).1].toArray 0)∈n2) (fB (oR (lv:=none) (uv:=some 2) (ao (v:=.ref na) rfl) (zT (zR hna)) hrz mK (oG bf) ((vU _ 2).trans (vS _ 2))) λv n' h=>by refine fM h λD h1 h2 _=>?_;try clear h;exact(db D h1 h2)) (λv n1 p1=>?er2) ?er3) _ _ ⟨_,_,rfl,F2,N2⟩ ?kont
 case er2=>
  refine fN p1 λD zo432 zo433=>?_
  try clear p1
  subst zo432;subst zo433;refine fB (Lv (uM (ao (v:=.ref sa) rfl) bf (zT (zT (zR hsa))) hx8 (by decide) (by decide))) ?_;intro v2 n2 zo434;refine fM zo434 λD2 zo435 zo436 _=>?_;clear zo434;subst zo435;subst zo436;exact⟨(db D2 rfl (zH)),λp hp=>zT hp⟩
 case er3=>
  intro v n1 v2 n2 zo437 zo440 hsub;refine fN zo437 λD zo438 zo439=>?_;clear zo437;subst zo438;subst zo439;refine fN zo440 λD2 zo441 hm2=>?_;clear zo440;subst zo441;refine(K9 D D2 _ _ 0 0 rfl rfl (zH) hm2 (by rw[refsOf,aE,eO,di];exact nU (cW [↑(min 2 rs'.length)] 1 (.a Z0 Y1) (.k 1000) 1 Z0 (.k 2) rfl Kx)) (λD3 hlt=>⟨D3,rfl,?_,λp hp=>zT (hsub p (zT (zT hp))),jA (hlt (256,bS qs) (hsub _ (zT (zT (zL (by k_extra "zmm"))))))⟩))
  have e:refsOf (R2 Rw rs')=refsOf (rs'.take 2)++[bG (Rw.getD 8 (0,[])).1]:=by unfold refsOf R2;rw[aX];rfl
  rw[e];exact zH
 intro v n' s' zo442 i3;refine sJ zo442 λD3 zo443 hmD3 hsubN hD256=>?_;clear zo442;subst zo443;obtain ⟨h3,tk3,rfl,F3,N3⟩:=i3
 k_steps
 refine iH ?_;have N4:ba c.h₀ c.L h3 ((256,bS qs)::(wa,listOf wv.toArray ew)::(D3,listOf (refsOf (R2 Rw rs')).toArray 0)::(vZ c.L o1 o2 o3 o4 o5 ps++n0)):=cm N3 (FC (hsubN _ (zL (a8 6 rfl))) (FC (hsubN _ (zR hwa)) (FC hmD3 (FA (λp hp=>hsubN p (zL (AX hp))) λp hp=>hsubN p (zR hp)))));have w256:wa≠256:=hof.n256 hwa;have hfil:(R2 Rw rs').filter (λq=>Jg (kq (AF bs q) ((q.2.length:Int)+((bx bs).length:Int))))=R2 Rw rs':=rU.mpr λq hq=>J8 hok (wu hok hnr hq);refine' Jm (ge:=Jg) (Pre:=IJ (lu bs)) (Rel:=L6) ?B F3 ?X N4 ?T ?hk ?hd ?hu (bx bs) hwi ?yl ?y0 (ut iZ) htr hG ?R40 ?s256 w256 hD256 (by decide) M8 M7 M9 (AF bs) ?rows (λq hq t ht=>Dm hok (L5 hok (wu hok hnr hq)) ht) (λq hq z hz e=>Ju hok q (L5 hok (wu hok hnr hq)) z (L5 hok (wu hok hnr hz)) e) (λq hq _=>Kw hok (wu hok hnr hq)) (λouts ho=>(Jb hok hnr (ho.trans hfil)).1) Ei ?hret
 case B=>exact c.B
 case X=>exact c.X
 case T=>exact c.T
 case hk=>exact rfl
 case hd=>have:=hc.hd;exact ltN (cW [c.dp,aH] 1 (.a (.a Z0 (.k 80)) Y1) Z1 1 (.a (.a Z0 (.k 100)) Y1) Z1 rfl (ef this))
 case hu=>have:=hc.hu;exact ltN (cW [c.un,cX] 1 (.a (.a Z0 (.k 800)) Y1) Z1 1 (.a (.a Z0 (.k 1000)) Y1) Z1 rfl (ef this))
 case yl=>have:=hok.wl;exact nU (cW [↑((bx bs).length)] 1 Z0 (.k 32) 1 Z0 (.k 20) rfl (ef this.2.2))
 case y0=>have:=hok.wl;exact ltN (cW [↑((bx bs).length)] 1 (.a Y0 Y1) Z0 1 (.a Y0 Y1) Z0 rfl (ef this.2.1))
 case R40=>
  unfold R2;rw[aU,eO,di];exact nU (cW [↑(min 2 rs'.length)] 1 (.a Z0 Y1) (.k 40) 1 Z0 (.k 2) rfl Kx)
 case s256=>
  exact FA (vY hc.lo) λp hp=>hof.n256 hp
 case rows=>exact λq hq=>ir (hrows q (wu hok hnr hq)) λp hp=>zR hp
 intro OUT outs outs2 ps2 T s2 ho hrel hsub2 hT o1' o2' o3' o4' o5' hps2 hG2 hos F5 N5;refine b8 (Jb hok hnr (ho.trans hfil)) λzo444 htk=>?_;refine pU zo444 λo0 rest0 hou _=>?_
 try clear zo444
 rw[hrel o0 rest0 hou] at N5
 have hout:(([o0]:List (Addr×RowT)).map λo=>bG o.2.1)=refsOf (rs'.take 1):=by
  rw[← htk o0 rest0 hou];rfl
 rw[hout] at N5
 have hP2:∀h tk,c.P {s2 with heap:=h,toks:=tk}:=λh tk=>by
  rw[ht.hP];exact hG2
 have hTn:∀p∈n0,p∈(OUT,bB (refsOf (rs'.take 1)))::(256,bS ps2)::(wa,listOf wv.toArray ew)::(D3,listOf (refsOf (R2 Rw rs')).toArray 0)::T:=λp hp=>zT (zT (zT (zT (hT p (zR hp)))))
 k_steps
 refine iH ?_;refine' Er.run (k:=(c.on s2 hP2).cx) (m:=zN [(ae "wishes",.ref wa),(ae "near",.ref na),(ae "due",.ref dl),(ae "sets",.ref sa)] m) (oR (k:=(c.on s2 hP2).cx) (lv:=none) (uv:=some 1) (ao (v:=.ref na) rfl) (hTn _ hna) hrz mK (oG bf) ((vU _ 1).trans (vS _ 1))) _ _ ⟨_,_,rfl,F5,N5⟩ ?_;intro v n'' s'' zo445 i4;refine fM zo445 λD4 zo446 zo447 _=>?_;clear zo445;subst zo446;subst zo447;obtain ⟨h4,tk4,rfl,F6,N6⟩:=i4;have F6':Fr c.h₀ c.L h4 (zN [(ae "wishes",.ref wa),(ae "near",.ref na),(ae "due",.ref dl),(ae "sets",.ref sa)] m):=F6;have N6':ba c.h₀ c.L h4 ((D4,listOf (refsOf (rs'.take 1)).toArray 0)::(OUT,bB (refsOf (rs'.take 1)))::(256,bS ps2)::(wa,listOf wv.toArray ew)::(D3,listOf (refsOf (R2 Rw rs')).toArray 0)::T):=N6;clear F6 N6;dsimp only [Fm.on]
 k_steps
 refine iH ?_;refine AQ (rs:=rs'.take 1) (by have:=hc.hu;refine(?_:c.un+64<cX);exact ltN (cW [c.un,cX] 1 (.a (.a Z0 (.k 64)) Y1) Z1 1 (.a (.a Z0 (.k 1000)) Y1) Z1 rfl (ef this))) (N6' _ (zT (zH))).1 (N6' _ (zH)).1 (λq hq=>?_) ?_
 .refine gL (hrows q (Bf hok (oH hok hnr (gD hq)))) λva ep h1' h2' _=>?_
  exact(vu va ep ((N6' _ (zT (hTn _ h1'))).1) h2')
 k_steps
 rw[hkk] at F6';have hNZ:ba c.h₀ c.L h4 (bN c.L o1 o2 o3 o4 o5 ps ps2++n0):=cm N6' (FA (uB (λp h=>bk 5 (hT p (zL h))) (a8 2 rfl)) λp h=>zT (hTn p h));exact zY (s2:={heap:=h4,gens:=s2.gens,drawn:=s2.drawn,toks:=tk4,os:=s2.os}) (hP:=by intro h tk;rw[ht.hP];exact hG2) hos hRr (hnext (c.on _ _) ps2 ⟨hc.cl,hc.hd,hc.hu,hc.lo⟩ ⟨ht.cd,ht.ch,ht.hP⟩ rfl) F6' hNZ hq
end
section
open W PyProof Rows
section
variable {cs:Scope}{c:Fm W0 cs}{sc:Scope}{k:Cx c sc}{m:Lo}{n:Ns}{R:Re}{rest:List Stmt}
theorem Aa{pos}(hl:Ev k m n l (.int a))(hr:Ev k m n r (.int b))(hb:(b==0)=false):Ev k m n (.BinOp l .Mod r pos) (.int (a.fmod b)):=
 ⟨λ_ s hi hq=>d9 (hl.run _ s hi λv s1 hv h1=>hr.run _ s1 h1 λv2 s2 e h2=>by
  obtain ⟨t,rfl⟩:=hv;obtain ⟨u,rfl⟩:=e
  exact AutoIntOps.mod_1 (by rw[hb];decide) (hq _ _ ⟨_,rfl⟩ h2.toks))⟩
theorem zZ{o i e:PE}{z pos:Pos}{l:Addr}{va:List Value}{xs:List Int}{ep:Nat}{j y:Int}{n':Value→Ns}(ho:Ev c.cx m n o (.val (.ref l)))(hj:Ev c.cx m n i (.int j))(hv:Ev c.cx m n e (.int y))(hm:(l,listOf va.toArray ep)∈n)(Y:au va xs)(h0:0≤j)(h1:j<xs.length)(hf:j<2 ^ 63)
  (U:∀v,Upd l (listOf va.toArray ep) (listOf (va.set j.toNat v).toArray ep) n (n' v)) (h:∀u,au (va.set j.toNat (.int (xs.getD j.toNat 0+y) u)) (xs.set j.toNat (xs.getD j.toNat 0+y))→cN c m (n' (.int (xs.getD j.toNat 0+y) u)) rest R)
  (hi:autoParam (∀B G new,augStore i B G new=(do gr [new,B,G] (setItem B G new);release [new,B,G] [];ck .next)) zAr):cN c m n (.AugAssign (.Subscript o i z) .Add e pos::rest) R:=
 bL ⟨λQ s J hq=>wpAny_AugAssign_SubscriptAny (ho.run _ s J λv1 s1 d1 i1=>hj.run _ s1 i1 λv2 s2 d2 i2=>by
  cases d1;obtain ⟨u,rfl⟩:=d2;refine getItem_intsK (c9 _ (i2.get hm) rfl ⟨ep,rfl⟩) Y h0 h1 hf λt=>hv.run _ s2 i2 λv3 O d3 i3=>?_;obtain ⟨t3,rfl⟩:=d3;have H:=i3.toks (tk:=O.toks+1)
  exact iadd_int (ksa_set H.at.1 H.at.2 (U _) Y h0 h1 hf λh' F' N' hI _ _=>hq .next _ _ _ (h _ hI) (H.to (tk:=O.toks+1) F' N'))) hi⟩
theorem Ca(hf:Ev c.cx m n f (.val (.type "enumerate")))(he:Ev c.cx m n e (.val (.ref l)))(hl:c.h₀.IsList l vs.toArray)(hx:au vs xs)(J:Lo→Ns→Prop)(h0:J m n)
  (turn:∀(i:Nat) x t t2 B u own,xs[i]?=some x→J B u→(∀p∈own,∀q∈n,p.1≠q.1)→cN c (cj (cj B Y (.int (i:Int) t)) U (.int x t2)) (own++u) body (λf m' n'=>f=.next∧∃G,n'=own++G∧G.map (·.1)=u.map (·.1)∧J m' G)) (done:∀B u,J B u→cN c B u rest R)
  (c1:autoParam (CC c.env f [e] H) zAa) (c2:autoParam (SE c.env e []) zAa)
  (k1:autoParam (c.env.kindOf Y=some .local) zAa) (k2:autoParam (c.env.kindOf U=some .local) zAa) (hp:autoParam ((c.env.scope.kind == .class||(c.env.scope.kind == .module&&c.env.locals != c.env.globals))=false) zAa) (hs:autoParam (∀z,bX (.Call f [e] [] H) c.env z=ck z) zAb):
  cN c m n (.For (.Tuple [.Name Y pk,.Name U pv] kk pt) (.Call f [e] [] H) body [] pos::rest) R:=
 bL ⟨λQ s ah hq=>For_pair3 (env:=c.env) c.h₀ rfl k1 k2 hp (gu (hf.run _ s ah λv s1 d1 i1=>by
  cases d1;refine callWith_type1 (aI (he.run _ s1 i1 λv2 s2 d2 i2=>bK ?_) c2) c2;cases d2;obtain ⟨h1,aj,rfl,F0,N0⟩:=i2;refine call_enum_list rfl hl (IntsAre.areOf hx) F0 N0 λh' e' F' N' S=>S.at c.env rfl Y U body Q (λ_=>J) h0 (λi a t v B u s₃ own O ha hk j hn ho F1 N1=>?_) (λh3 tk m' n' F3 N3 _ j=>hq .next _ _ _ (done m' n' j) ⟨h3,tk,rfl,F3,N3⟩);obtain ⟨h3,ab,rfl⟩:=O;obtain ⟨t2,rfl⟩:=ItemKind.int_is hk;refine(turn i a t t2 B u own ha j ho).run _ _ ⟨h3,ab,rfl,F1,N1⟩ λf' m' n' s' r i'=>?_;obtain ⟨rfl,G,rfl,hm,j'⟩:=r;obtain ⟨h4,aa,rfl,F4,N4⟩:=i'
  exact⟨rfl,h4,aa,m',G,rfl,F4,N4,hm,j'⟩) c1) hs c.hE⟩
theorem Ff(h1:Ev c.cx m n e1 (.int a1))(h2:Ev c.cx m n e2 (.int a2))(h3:Ev c.cx m n e3 (.int a3))(h4:Ev c.cx m n e4 (.int a4))(h5:Ev c.cx m n e5 (.int a5))
  (O:autoParam (∀r,SE c.env e1 r) zAb) (J:autoParam (∀r,SE c.env e2 r) zAb) (H:autoParam (∀r,SE c.env e3 r) zAb) (G:autoParam (∀r,SE c.env e4 r) zAb) (B:autoParam (∀r,SE c.env e5 r) zAb):
  Er c.cx m n (.List [e1,e2,e3,e4,e5] pos) (λv n'=>∃D va,v=.ref D∧n'=(D,listOf (bP va) 0)::n∧au va [a1,a2,a3,a4,a5]∧∀q∈n,@aR Nat _ q.1 D):=
 ⟨λQ s hi hq=>List_ (aI (h1.run _ s hi λv1 s1 d1 i1=>aI (h2.run _ s1 i1 λv2 s2 d2 i2=>aI (h3.run _ s2 i2 λv3 z d3 i3=>aI (h4.run _ z i3 λv4 u d4 Y=>aI (h5.run _ u Y λv5 e d5 i5=>bK (by
  obtain ⟨t1,rfl⟩:=d1;obtain ⟨t2,rfl⟩:=d2;obtain ⟨t3,rfl⟩:=d3;obtain ⟨t4,rfl⟩:=d4;obtain ⟨t5,rfl⟩:=d5
  exact yQ i5.at.1 i5.at.2 (λD h' F' N' U=>hq _ _ _ (sh D _ rfl rfl (.cons _ _ (.cons _ _ (.cons _ _ (.cons _ _ (.cons _ _ .nil))))) U) (i5.to (tk:=e.toks) F' N')) (by decide:(5:Nat)≤ec))) (B _)) (G _)) (H _)) (J _)) (O _))⟩
structure CB(bs:List Int):Prop where
 l:bs.length=5
 b:∀b∈bs,0≤b∧b<16
 h:∃b r,bs=b::r∧1≤b∧b<16
theorem QO{xs:List Int}(h:xs.length=5):CB ((1+(xs.getD 0 0).fmod 15)::(xs.drop 1).map (·.fmod 16)) where
 l:=by rw[gV,aE,dn,h]
 b:=λb hb=>by
  rcases ak.mp hb with rfl|hb
  .exact⟨cF (by decide) (Lf _).1,(Lf _).2⟩
  .obtain ⟨z,_,rfl⟩:=eA.mp hb
   exact QC z
 h:=⟨_,_,rfl,Lf _⟩
theorem Cy{c:Fm W0 (tw P0.main.body 22)}{m:Lo}{n:Ns}{sl:Addr}{vs:List Value}{ns:List Int}(hm:m "script"=some (.ref sl))(hl:c.h₀.IsList sl vs.toArray)(hx:au vs ns)(hn:ns.length≤63):
  cN c m n (vg P0.main.body 22) (λfl _ n'=>∃D va bs ep,x9 fl=.ref D∧au va bs∧CB bs∧(∀p∈n,@aR Nat _ p.1 D)∧∀p∈(D,listOf (bP va) ep)::n,p∈n'):=by
 refine dL (Ff bf bf bf bf bf) λv n' h=>?_;obtain ⟨D,va,rfl,rfl,hi,lD⟩:=h;refine Ca cR (ao (bc hm)) hl hx (λm' n'=>m' "cells"=some (.ref D)∧∃va xs,n'=(D,listOf (bP va) 0)::n∧au va xs∧xs.length=5) ⟨cZ,va,_,rfl,hi,rfl⟩ (λi x t t2 O J own ha j ho=>?_) λO J j=>?_
 .obtain ⟨hc,va,xs,rfl,hi,h5⟩:=j
  have f5:=Sg (i:Int);refine zZ (n':=λv=>own++(D,listOf (va.set ((i:Int).fmod 5).toNat v).toArray 0)::n) (ao (bc (bc hc))) (Aa (ag (bc cZ)) bf rfl) (ag cZ) (zR (zH)) hi f5.1 (by rw[h5];exact f5.2) (j6 f5.2 (by decide)) (λv=>Az (λp hp=>ho p hp _ (zH)) (.head λp hp=>aB (lD p hp))) λu ab=>cb ⟨rfl,_,rfl,rfl,bc (bc hc),_,_,rfl,ab,by rw[List.length_set,h5]⟩
 .obtain ⟨hc,va,xs,rfl,hi,h5⟩:=j
  have z:(D,listOf (bP va) 0)∈(D,listOf (bP va) 0)::n:=zH;have e:∀p∈n,p∈(D,listOf (bP va) 0)::n:=λp h=>zT h;generalize (D,listOf (bP va) 0)::n=N at z e ⊢
  have U:va.length=5:=by rw[hi.length,h5]
  refine uI (wT (P:=λv n1=>∃A t,v=.ref A∧n1=(A,listOf [eY (1+(xs.getD 0 0).fmod 15) t].toArray 0)::N) (P2:=λv n2=>∃B G,v=.ref B∧(B,bB G)∈n2∧au G ((xs.drop 1).map (·.fmod 16))) (P':=λv n'=>∃D va bs ep,v=.ref D∧au va bs∧CB bs∧(∀p∈N,@aR Nat _ p.1 D)∧∀p∈(D,listOf (bP va) ep)::N,p∈n')
   (rB (iM (eg bf (Aa (ft (ao hc) bf z hi (by decide) (by rw[h5];decide) (by decide)) bf rfl))) λv n' A h _=>?_) (λv n1 h=>?_) λv n1 v2 n2 h h2 H=>?_) λv n' h=>?_
  .obtain ⟨⟨t,rfl⟩,rfl⟩:=h
   exact⟨A,t,rfl,rfl⟩
  .have Y:∀p∈N,p∈n1:=by
    obtain ⟨A,t,_,rfl⟩:=h;exact λp h=>zT h
   refine nB rfl (so (oR (ao hc) (Y _ z) (by rw[U];decide) (oG (i:=(1:Nat)) bf) mK rfl)) λv n' s1 h i1=>?_;obtain ⟨D2,rfl,rfl,l2⟩:=h;have S:=pC i1 (zH) (sf hi 1) (by rw[dn,h5];decide);refine⟨_,_,_,_,S.p,Ey (f:=(·.fmod 16)) rfl S (λC E' mC n2 y t hy aa hs2=>Aa (ag aa) bf rfl) λD G hz hl=>⟨⟨D,G,rfl,zH,hz⟩,λp hp=>zT (zT hp)⟩⟩
  .obtain ⟨A,t,rfl,rfl⟩:=h
   obtain ⟨B,G,rfl,hB,hz⟩:=h2;refine⟨A,B,_,G,0,_,rfl,rfl,zH,hB,by rw[hz.length,aE,dn,h5];exact(by decide:1+(5-1)≤1000),λD hD=>⟨D,_,_,0,rfl,.cons _ _ hz,QO h5,λp hp=>hD _ (H _ (zT hp)),FC (zH) λp hp=>zT (H _ (zT hp))⟩⟩
  .obtain ⟨D,va,bs,ep,rfl,h1,h2,h3,h4⟩:=h
   exact⟨D,va,bs,ep,rfl,h1,h2,λp hp=>h3 p (e p hp),FC (h4 _ (zH)) λp hp=>h4 p (zT (e p hp))⟩
theorem IF{sl:Addr}(hd:c.dp+1<aH)(hl:c.h₀.IsList sl vs.toArray)(H:au vs ns)(hn:ns.length≤63)(F:Fr c.h₀ c.L s.heap m)(N:ba c.h₀ c.L s.heap n)
  (hq:∀v n' h' tk',(∃D va bs ep,v=.ref D∧au va bs∧CB bs∧(∀p∈n,@aR Nat _ p.1 D)∧n'=(D,listOf (bP va) ep)::n)→Fr c.h₀ c.L h' m→ba c.h₀ c.L h' n'→Q v {s with heap:=h',toks:=tk'}):aA (aq P0 W0) (ij c.dp c.un c.gd c.cn cs c.L c.a c.ccd c.cl c.outer) (call (.ref 347) [.ref sl]) Q E s:=
 eG (xe (body:=vg P0.main.body 22) (scope:=tw P0.main.body 22) (binds:=[("script",.ref sl)]) c.B F c.X N c.T rfl rfl c.hk (by with_unfolding_all rfl) (by with_unfolding_all rfl) (by show _<aH;simp only;exact C3 hd) (dG rfl) (sw rfl) (λg L' u Y F' U B' J T'=>by
  refine wj (cs:=tw P0.main.body 22) B' F' J U T' rfl (by passes_own) (λz _ n'=>∃D va bs ep,x9 z=.ref D∧au va bs∧CB bs∧(∀p∈n,@aR Nat _ p.1 D)∧∀p∈(D,listOf (bP va) ep)::n,p∈n') (λc' _ _ _ _ _ hh=>Cy rfl (by rw[hh];exact hl.at λo e=>Y.keep _ o e) H hn) ?_;intro z m' n' h' tk hP F2 O;obtain ⟨D,va,bs,ep,e,h1,h2,h3,h4⟩:=hP
  exact tS F2 (cm O h4) λkF G=>hq _ _ _ _ ⟨D,va,bs,ep,e,h1,h2,h3,rfl⟩ kF G) rfl rfl rfl (by decide))
end
end
section
open W PyProof Rows
open PyProof.Rows.LCg
theorem PO(hl:@aR Nat _ 366 L)(e:b9 L n0):
  xf (L+1) o1 (bN L o1 o2 o3 o4 o5 ps qs++n0) (λo'=>bN L o' o2 o3 o4 o5 ps qs++n0):=by
 have z:∀k:Nat,@aR Nat _ (L+1) (L+1+(k+1)):=λk=>JB (bA (L+1) k);have y:∀a:Nat,a<366→a≠L+1:=λa h=>aB (aW (aP h hl));exact .tail (aF (z 3)) (.tail (aF (z 2)) (.tail (aF (z 1)) (.tail (aF (z 0)) (.head (FC (y 364 (by decide)) (FC (y 256 (by decide)) e.all.1))))))
theorem Oj{sl:Addr}(hc:LawC c)(G:o1.data=.cell none)(hm:m (ae "script")=some (.ref sl))(hl:c.h₀.IsList sl vs.toArray)(hi:au vs ns)(hn:ns.length≤63)(u:b9 c.L n0)
  (e:∀(D:Addr) (va:List Value) (bs:List Int) (ep:Nat) (o:Obj),au va bs→CB bs→o.data=.cell (some (.ref D))→(∀p∈bN c.L o1 o2 o3 o4 o5 ps qs++n0,@aR Nat _ p.1 D)→cN c m (bN c.L o o2 o3 o4 o5 ps qs++(D,listOf (bP va) ep)::n0) rest R):
  cN c m (bN c.L o1 o2 o3 o4 o5 ps qs++n0) (bp 0::rest) R:=by
 refine pF (a:=c.L+1) (Bc (fa:=347) (v0:=.ref sl) fV (ao hm) (by with_unfolding_all rfl) λs Q E F N hq=>IF (zE hc.hd (bR true)) hl hi hn F N hq) (by rw[hc.cl];rfl) λv n' h=>?_;obtain ⟨D,va,bs,ep,rfl,h1,h2,B,rfl⟩:=h;exact⟨o1,_,none,.tail (aF (B (c.L+1,o1) (a8 4 rfl))) (PO hc.lo u),G,λo' z=>cO (e D va bs ep o' h1 h2 z B) (FA (λp h=>zT (zL h)) (FC (zH) λp h=>zT (zR h)))⟩
end
section
open W PyProof Rows
open PyProof.Rows.LCg
theorem Oi(hc:LawC c)(B:o1.data=.cell (some (.ref D)))(hD:(D,listOf va.toArray ep)∈n0)(hi:au va bs)(z:bs.length=5):
  Ex c m (bN c.L o1 o2 o3 o4 o5 ps qs++n0) (bp 1) (λf m' n'=>f=.next∧∃(W:Addr) (ys:List Value),m'=cj m (ae "wishes") (.ref W)∧au ys (jE (zh bs) (λi j=>5*(i:Int)+(j:Int)) 5 4)∧(∀p∈bN c.L o1 o2 o3 o4 o5 ps qs++n0,p.1<W)∧n'=bN c.L o1 o2 o3 o4 o5 ps qs++(W,bB ys)::n0):=by
 refine H1 (Ij (P':=λv n'=>∃W ys,v=.ref W∧au ys (jE (zh bs) (λi j=>5*(i:Int)+(j:Int)) 5 4)∧(∀p∈bN c.L o1 o2 o3 o4 o5 ps qs++n0,p.1<W)∧n'=bN c.L o1 o2 o3 o4 o5 ps qs++(W,bB ys)::n0) (Fj (Ax (zR hD) hi z) fV (eN (a:=c.L+1) (o:=o1) (by refine(?_:c.cl.lookup _=_);rw[hc.cl];rfl) (a8 4 rfl) B) (by with_unfolding_all rfl) (aK (bu (by decide) _) hc.hd) (aK (bu (by decide) _) hc.hu)) λv n' h=>by
  obtain ⟨W,_,rfl,⟨ys,rfl,e⟩,rfl,u⟩:=h
  exact⟨_,⟨W,ys,rfl,e,u,rfl⟩,FA (λp h=>zT (zL h)) (FC (zH) λp h=>zT (zR h))⟩) λv n' h=>?_
 obtain ⟨W,ys,rfl,e,u,rfl⟩:=h;exact⟨rfl,W,ys,rfl,e,u,rfl⟩
end
section
open W PyProof Rows
open PyProof.Rows.LCg
noncomputable def Ok(bs:List Int):List Nat:=(aV 4).map (Fx bs)
theorem zM(bs:List Int):aZ bs=(Ok bs).map oZ:=by
 unfold aZ Ok;rw[iU];rfl
theorem EH(hl:bs.length=5):∀k∈Ok bs,k≤5:=by
 intro k hk;refine fN (eA.mp hk) λt _ e=>?_;subst e;exact aw (bU ..) (Kt hl (bR true))
structure L8(o3 o4 o5:Obj)(n0:Ns)(m:Lo)(bs:List Int)(Rw:List RowT):Prop where
 W:∃wa wv ew,m (ae "wishes")=some (.ref wa)∧(wa,listOf (bP wv) ew)∈n0∧au wv (bx bs)
 V:∃vt vv,o5.data=.cell (some (.ref vt))∧(vt,bB vv)∈n0∧au vv (aZ bs)
 P:∃pa vp,o4.data=.cell (some (.ref pa))∧(pa,bB vp)∈n0∧jr vp (Ok bs)
 Ro:∃ra va ea,m (ae "row")=some (.ref ra)∧(ra,listOf (bP va) ea)∈n0∧au va (eD (aZ bs) 4)
 Wd:∃wd dv ed,m (ae "wanted")=some (.ref wd)∧(wd,listOf (bP dv) ed)∈n0∧au dv (dJ (aZ bs))
 S:∃sa es,m (ae "sets")=some (.ref sa)∧(sa,listOf (refsOf Rw).toArray es)∈n0
 rows:∀q∈Rw,jq n0 q
 bo:∃tb,o3.data=.cell (some (.int (dw (aZ bs)) tb))
 mo:∃tm,m (ae "most")=some (.int (df (aZ bs)) tm)
section
variable {o3 o4 o5:Obj}{n0 n1:Ns}{m m':Lo}{bs:List Int}{R Rw:List RowT}
noncomputable def uE:List Str:=[ae "wishes",ae "row",ae "wanted",ae "sets",ae "most"]
theorem L8.mono(h:L8 o3 o4 o5 n0 m bs Rw)(hs:∀p∈n0,p∈n1)(hm:∀x∈uE,m' x=m x):L8 o3 o4 o5 n1 m' bs Rw:=by
 have k1:=hm (ae "wishes") (by k_extra "zmm");have k2:=hm (ae "row") (by k_extra "zmm");have k3:=hm (ae "wanted") (by k_extra "zmm");have k4:=hm (ae "sets") (by k_extra "zmm");have k5:=hm (ae "most") (by k_extra "zmm");obtain ⟨⟨wa,wv,ew,a1,a2,a3⟩,⟨vt,vv,b1,b2,b3⟩,⟨pa,vp,c1,c2,c3⟩,⟨ra,va,ea,B,d2,z⟩,⟨wd,dv,ed,e1,e2,e3⟩,⟨sa,es,u,e⟩,g,i,⟨tm,j⟩⟩:=h;exact⟨(nV wa wv ew (k1.trans a1) (hs _ a2) a3),(iw vt vv b1 (hs _ b2) b3),(iw pa vp c1 (hs _ c2) c3),(nV ra va ea (k2.trans B) (hs _ d2) z),(nV wd dv ed (k3.trans e1) (hs _ e2) e3),(vu sa es (k4.trans u) (hs _ e)),λq hq=>ir (g q hq) hs,i,⟨tm,k5.trans j⟩⟩
theorem EI(z:x∉uE):∀y∈uE,cj m x v y=m y:=λy u=>if_neg (λe:y=x=>z (e▸u))
noncomputable def Ao:Re:=λf m' n'=>f=.ret (.bool true)∧∃ps qs,(364,bS ps)∈n'∧(256,bS qs)∈n'
theorem uX:∀f m n,Ao f m n→∃v,f=.ret v:=λ_ _ _ h=>⟨_,h.1⟩
end
section
variable {c:Fm W0 lawS}{m:Lo}{n0:Ns}{bs:List Int}{R Rw NR:List RowT}{o1 o2 o3 o4 o5:Obj}{ps qs:Array Value}
theorem NY(hc:LawC c)(ht:oW c)(u:b9 c.L n0)(e:cV bs R Rw)(O:kn (aZ bs) Rw NR)(M:L8 o3 o4 o5 n0 m bs Rw){v2:Option Value}(d2:o2.data=.cell v2){na dl:Addr}{en ed:Nat}
  (U:(na,listOf (refsOf NR).toArray en)∈n0) (ah:(dl,listOf (refsOf (dR (aZ bs) Rw)).toArray ed)∈n0) (J:ee qs.toList) (aa:m (ae "near")=some (.ref na)) (Y:m (ae "due")=some (.ref dl)):
  cN c m (bN c.L o1 o2 o3 o4 o5 ps qs++n0) [bp 17,bp 18,bp 19,bp 20] Ao:=by
 have M0:=M;obtain ⟨⟨wa,wv,ew,a1,a2,a3⟩,⟨vt,vv,b1,b2,b3⟩,⟨pa,vp,c1,c2,c3⟩,⟨ra,va,ea,ar,ap,aj⟩,⟨wd,dv,aD,e1,e2,e3⟩,⟨sa,es,f1,f2⟩,g,i,⟨tm,j⟩⟩:=M;have vf:=e.vf;refine KL hc ht u e O a2 a3 U ah f2 g J a1 aa Y f1 uX λc' qs' z as eL=>?_;rw[← eL] at u ⊢;refine KJ z d2 u b1 b2 b3 rfl e2 e3 (wB _) e1 (λi hi=>vf.dif i hi) λm' oC v0 ab ax=>?_;refine KI z c1 b1 b2 c2 c3 rfl (zM bs) (EH e.bl) b3 λH G=>?_;have B:H (ae "row")=some (.ref ra):=(G _ (by decide) (by decide) (by decide)).trans ((ab _ (by decide)).trans ar)
 exact lg (KH z b1 b2 b3 rfl ap aj B vf.inc) λf m1 n1 h=>⟨h.1,ps,qs',h.2 _ (zL (by k_extra "zmm")),h.2 _ (zL (by k_extra "zmm"))⟩
theorem kW:cj m x v x=some v:=if_pos rfl
theorem jT(h:autoParam (y≠x) zAd):cj m x v y=m y:=if_neg h
theorem wD(h1:y≠B)(h2:y≠z)(h3:y≠u)(h4:y≠e):cj (cj (cj (cj m B v1) z v2) u G) e v4 y=m y:=(jT h4).trans ((jT h3).trans ((jT h2).trans (jT h1)))
theorem b9.consNe(h:b9 L n)(l:∀p∈bN L o1 o2 o3 o4 o5 ps qs,p.1≠D):b9 L ((D,o)::n):=by
 intro p hp
 rcases ak.mp hp with rfl|hp
 .simp only[bN,fc] at l
  refine Qi l λz B G l2 H u e _=>?_
  try clear l
  simp only[ak,bT,or_false,not_or];exact(Lb (Ne.symm H) (Ne.symm l2) (Ne.symm G) (Ne.symm B) (Ne.symm z) (Ne.symm u) (Ne.symm e))
 .exact h p hp
theorem Je(hc:LawC c)(ht:oW c)(ar:b9 c.L n0)(B:cV bs R Rw)(M:L8 o3 o4 o5 n0 m bs Rw){v2:Option Value}(d2:o2.data=.cell v2){rl:Addr}{er:Nat}{cA cB:Addr}(aQ:ps=kX (BV (bp 7)) (kX (oN (bp 6)) #[] cA) cB)
  (aM:(rl,listOf (refsOf R).toArray er)∈n0) (O:∀q∈R,jq n0 q) (aD:ee qs.toList) (a6:m (ae "rows")=some (.ref rl)):
  cN c m (bN c.L o1 o2 o3 o4 o5 ps qs++n0) [bp 12,bp 13,bp 14,bp 15,bp 16,bp 17,bp 18,bp 19,bp 20] Ao:=by
 have M0:=M;obtain ⟨⟨wa,wv,ew,a1,a2,a3⟩,⟨vt,vv,b1,b2,b3⟩,⟨pa,vp,c1,c2,c3⟩,⟨ra,va,ea,ab,aa,Y⟩,⟨wd,dv,bi,e1,e2,e3⟩,⟨sa,es,f1,f2⟩,g,⟨tb,i⟩,⟨tm,j⟩⟩:=M;have vf:=B.vf;have ah:=y9 B.bl;refine KR hc ht ar B i a2 a3 aM O aD a1 a6 j uX λc' OUT NR qs' G J eL a0 aj hne=>?_;have z:b9 c.L ((OUT,bB (refsOf NR))::n0):=ar.consNe λp hp=>hne p (zL hp);rw[← eL] at z ⊢;subst aQ;refine KQ G J z (True.intro) rfl i b1 (zT b2) b3 rfl ah ab j (zT aa) Y λcC u=>?_;refine KP G J z (True.intro) rfl i b1 (zT b2) b3 rfl ah ab j (zT aa) Y λcD e=>?_;refine KO λdl as=>?_;refine cO ?_ mO;have H:b9 c'.L ((dl,listOf ([]:List Value).toArray 0)::(OUT,bB (refsOf NR))::n0):=z.cons λp hp=>as p (zL hp);change cN c' (cj (cj (cj (cj m (ae "near") (.ref OUT)) (ae "low") (.int (jl (aZ bs):Nat) u)) (ae "high") (.int (gv (aZ bs):Nat) e)) (ae "due") (.ref dl)) _ _ _;have q1:(cj (cj (cj (cj m (ae "near") (.ref OUT)) (ae "low") (.int (jl (aZ bs):Nat) u)) (ae "high") (.int (gv (aZ bs):Nat) e)) (ae "due") (.ref dl)) (ae "row")=some (.ref ra):=(wD (by decide) (by decide) (by decide) (by decide)).trans ab;have q2:(cj (cj (cj (cj m (ae "near") (.ref OUT)) (ae "low") (.int (jl (aZ bs):Nat) u)) (ae "high") (.int (gv (aZ bs):Nat) e)) (ae "due") (.ref dl)) (ae "wanted")=some (.ref wd):=(wD (by decide) (by decide) (by decide) (by decide)).trans e1;have q3:(cj (cj (cj (cj m (ae "near") (.ref OUT)) (ae "low") (.int (jl (aZ bs):Nat) u)) (ae "high") (.int (gv (aZ bs):Nat) e)) (ae "due") (.ref dl)) (ae "sets")=some (.ref sa):=(wD (by decide) (by decide) (by decide) (by decide)).trans f1;have q4:(cj (cj (cj (cj m (ae "near") (.ref OUT)) (ae "low") (.int (jl (aZ bs):Nat) u)) (ae "high") (.int (gv (aZ bs):Nat) e)) (ae "due") (.ref dl)) (ae "due")=some (.ref dl):=kW;have q5:(cj (cj (cj (cj m (ae "near") (.ref OUT)) (ae "low") (.int (jl (aZ bs):Nat) u)) (ae "high") (.int (gv (aZ bs):Nat) e)) (ae "due") (.ref dl)) (ae "high")=some (.int (gv (aZ bs):Nat) e):=(jT).trans kW;have q6:(cj (cj (cj (cj m (ae "near") (.ref OUT)) (ae "low") (.int (jl (aZ bs):Nat) u)) (ae "high") (.int (gv (aZ bs):Nat) e)) (ae "due") (.ref dl)) (ae "low")=some (.int (jl (aZ bs):Nat) u):=(jT).trans ((jT).trans kW);have q7:(cj (cj (cj (cj m (ae "near") (.ref OUT)) (ae "low") (.int (jl (aZ bs):Nat) u)) (ae "high") (.int (gv (aZ bs):Nat) e)) (ae "due") (.ref dl)) (ae "near")=some (.ref OUT):=(jT).trans ((jT).trans ((jT).trans kW))
 have q8:∀x∈uE,(cj (cj (cj (cj m (ae "near") (.ref OUT)) (ae "low") (.int (jl (aZ bs):Nat) u)) (ae "high") (.int (gv (aZ bs):Nat) e)) (ae "due") (.ref dl)) x=m x:=λx hx=>by
  simp only[uE,ak,bT,or_false] at hx
  rcases hx with rfl|rfl|rfl|rfl|rfl<;>exact wD (by decide) (by decide) (by decide) (by decide)
 generalize (cj (cj (cj (cj m (ae "near") (.ref OUT)) (ae "low") (.int (jl (aZ bs):Nat) u)) (ae "high") (.int (gv (aZ bs):Nat) e)) (ae "due") (.ref dl))=m9 at q1 q2 q3 q4 q5 q6 q7 q8 ⊢;refine KN G (sv:=refsOf Rw) (vs:=aZ bs) d2 H (λp hp=>lc (as p (zR hp))) (zT aa) Y (zT e2) e3 (zT f2) (by rw[refsOf,aE];exact B.len) q1 q2 q3 q4 q5 q6 λm' oC v0 ed U bb=>?_;have a7:jW (aZ bs) (refsOf Rw) 16=refsOf (dR (aZ bs) Rw):=Fn B rfl;rw[a7]
 have bh:L8 o3 o4 o5 ((dl,listOf (refsOf (dR (aZ bs) Rw)).toArray ed)::(OUT,bB (refsOf NR))::n0) m' bs Rw:=M0.mono (λp hp=>zT (zT hp)) λx hx=>by
  have ax:x≠ae "lacking":=by
   simp only[uE,ak,bT,or_false] at hx
   rcases hx with rfl|rfl|rfl|rfl|rfl<;>decide
  exact(U x ax).trans (q8 x hx)
 have h9:=H (dl,listOf ([]:List Value).toArray 0) (zH)
 have ap:b9 c'.L ((dl,listOf (refsOf (dR (aZ bs) Rw)).toArray ed)::(OUT,bB (refsOf NR))::n0):=λp hp=>by
  rcases ak.mp hp with rfl|hp
  .exact h9
  .exact z p hp
 have r7:m' (ae "near")=some (.ref OUT):=(U _ (by decide)).trans q7;have r4:m' (ae "due")=some (.ref dl):=(U _ (by decide)).trans q4;have a4:(OUT,listOf (refsOf NR).toArray (refsOf NR).length)∈(dl,listOf (refsOf (dR (aZ bs) Rw)).toArray ed)::(OUT,bB (refsOf NR))::n0:=zT (zH);have a5:(dl,listOf (refsOf (dR (aZ bs) Rw)).toArray ed)∈(dl,listOf (refsOf (dR (aZ bs) Rw)).toArray ed)::(OUT,bB (refsOf NR))::n0:=zH;exact NY G J ap B a0 bh bb a4 a5 aj r7 r4
end
end
section
open W PyProof Rows
open PyProof.Rows.LCg
section
variable {c:Fm W0 lawS}{m:Lo}{n0:Ns}{bs:List Int}{Rw:List RowT}{o1 o2 o3 o4 o5:Obj}{ps qs:Array Value}
theorem KE(hc:LawC c)(ht:oW c)(ab:b9 c.L n0)(as:bs.length=5)(h0:gx (aZ bs)≠0)(hw:Rw.map (·.2)=(aV 16).map gK)(aj:(Rw.map (·.1)).Nodup)(M:L8 o3 o4 o5 n0 m bs Rw)(d2:o2.data=.cell v2)(Y:ps=kX (BV (bp 7)) (kX (oN (bp 6)) #[] cA) cB)(U:ee qs.toList):
  cN c m (bN c.L o1 o2 o3 o4 o5 ps qs++n0) [bp 10,bp 11,bp 12,bp 13,bp 14,bp 15,bp 16,bp 17,bp 18,bp 19,bp 20] Ao:=by
 have M0:=M;obtain ⟨⟨wa,wv,ew,a1,a2,a3⟩,_,_,_,_,⟨sa,es,f1,f2⟩,g,_,_⟩:=M
 have B:(refsOf Rw).length=16:=by
  have:=congrArg eK hw;rw[aE,aE,de] at this;rw[refsOf,aE,this]
 refine KU (zR f2) (Kt B (bR true)) f1 λrl er O=>?_;have H:cj m (ae "rows") (.ref rl) (ae "rows")=some (.ref rl):=kW;have ap:cj m (ae "rows") (.ref rl) (ae "wishes")=some (.ref wa):=(jT).trans a1;have hk:∀x∈uE,cj m (ae "rows") (.ref rl) x=m x:=EI (by decide);generalize cj m (ae "rows") (.ref rl)=m1 at ap H hk ⊢;refine KS (zR a2) a3 (aw td (gC 20 12)) (Kt B (bR true)) (λp hp=>lc (O p hp)) ap H λaQ er2 ex hx=>?_
 rcases hx with ⟨_,rfl,rfl⟩|⟨h3,u,z,e,rfl,rfl,ax,ar,aM⟩
 .have G:b9 c.L ((rl,listOf (refsOf Rw).toArray er2)::n0):=ab.consNe λp hp=>lc (O p (zL hp))
  refine cO (Je (R:=Rw) hc ht G ⟨as,h0,hw,.inl rfl,aj⟩ (M0.mono (λp hp=>zT hp) hk) d2 Y (zH) (λq hq=>ir (g q hq) λp hp=>zT hp) U H) mO
 .have e2:refsOf Rw++[bG u]=refsOf (Rw++[(u,(bx bs).reverse)]):=by
   unfold refsOf;rw[aX];rfl
  rw[e2];have aa:b9 c.L ((u,listOf z.toArray e)::n0):=ab.consNe λp hp=>lc (ar p (zL hp));have G:b9 c.L ((rl,listOf (refsOf (Rw++[(u,(bx bs).reverse)])).toArray er2)::(u,listOf z.toArray e)::n0):=aa.consNe λp hp=>lc (O p (zL hp));have sub:∀p∈n0,p∈(rl,listOf (refsOf (Rw++[(u,(bx bs).reverse)])).toArray er2)::(u,listOf z.toArray e)::n0:=λp hp=>zT (zT hp)
  have aD:∀q∈Rw++[(u,(bx bs).reverse)],jq ((rl,listOf (refsOf (Rw++[(u,(bx bs).reverse)])).toArray er2)::(u,listOf z.toArray e)::n0) q:=λq hq=>by
   rcases aC.mp hq with hq|hq
   .exact ir (g q hq) sub
   .rw[az.mp hq]
    refine(sh z e (zT (zH)) ax ?_ ?_)
    .refine(?_:(bx bs).reverse.length≤32)
     rw[bg];exact aw td (gC 20 12)
    .exact ko.mpr ((ut (iZ (bs:=bs))).imp Ne.symm)
  have ah:((Rw++[(u,(bx bs).reverse)]).map (·.1)).Nodup:=by
   rw[aX];refine List.nodup_append.mpr (eP aj (by simp) (λa ha b hb=>?_));rw[List.map_singleton,az] at hb;refine fN (eA.mp ha) λq hq J=>?_;subst J;refine pU (g q hq) λva ep hm _=>?_;rw[hb];exact lc (ar _ (zR hm))
  refine cO (Je (o1:=o1) (R:=Rw++[(u,(bx bs).reverse)]) hc ht G ⟨as,h0,hw,.inr ⟨h3,u,rfl⟩,ah⟩ (M0.mono sub hk) d2 Y (zH) aD U H) λp (hp:p∈bN c.L o1 o2 o3 o4 o5 ps qs++(rl,listOf (refsOf (Rw++[(u,(bx bs).reverse)])).toArray er2)::(u,listOf z.toArray e)::n0)=>?_;simp only[aC,ak,bT,or_false,ip,List.singleton_append,fJ] at hp ⊢
  rcases hp with h|h|h|h
  .exact .inr (.inr (.inl h))
  .exact .inl h
  .exact .inr (.inl h)
  .exact .inr (.inr (.inr h))
theorem KG(hc:LawC c)(ht:oW c)(a4:b9 c.L n0)(z:bs.length=5)(h0:gx (aZ bs)≠0)(hw:Rw.map (·.2)=(aV 16).map gK)(a5:(Rw.map (·.1)).Nodup)(d1:o1.data=.cell (some (.ref B)))(d2:o2.data=.cell v2)(d3:o3.data=.cell none)(d4:o4.data=.cell none)(d5:o5.data=.cell none)
  (hB:(B,listOf va.toArray ep)∈n0) (hi:au va bs) (W:∃wa wv ew,m (ae "wishes")=some (.ref wa)∧(wa,listOf (bP wv) ew)∈n0∧au wv (bx bs)) (S:∃sa es,m (ae "sets")=some (.ref sa)∧(sa,listOf (refsOf Rw).toArray es)∈n0) (a0:∀q∈Rw,jq n0 q):
  cN c m (bN c.L o1 o2 o3 o4 o5 #[] #[]++n0) [bp 3,bp 4,bp 5,bp 6,bp 7,bp 8,bp 9,bp 10,bp 11,bp 12,bp 13,bp 14,bp 15,bp 16,bp 17,bp 18,bp 19,bp 20] Ao:=by
 refine zB W λwa wv ew w1 w2 w3=>?_
 try clear W
 refine pU S λsa es s1 s2=>?_
 try clear S
 have as:(Ok bs).length=4:=rfl;refine Og hc d1 d5 hB hi z a4 λV vv o5' e5 hv ar pV=>?_;refine Of hc d1 d4 (zT hB) hi z ar λP vp o4' e4 hp U RV=>?_;refine Oe λra Hy=>?_;refine cO ?_ mO;have ah:∀p∈(P,bB vp)::(V,bB vv)::n0,p.1≠ra:=λp hp=>lc (Hy p (zR hp));have ap:b9 c.L ((ra,bB [])::(P,bB vp)::(V,bB vv)::n0):=U.consNe λp hp=>lc (Hy p (zL hp));have k1:cj m (ae "row") (.ref ra) (ae "row")=some (.ref ra):=kW;have k2:cj m (ae "row") (.ref ra) (ae "wishes")=some (.ref wa):=(jT).trans w1;have k3:cj m (ae "row") (.ref ra) (ae "sets")=some (.ref sa):=(jT).trans s1;generalize cj m (ae "row") (.ref ra)=m1 at k1 k2 k3 ⊢;refine Od hc ht ap ah e4 (zH) hp as (zM bs) (EH z) k1 λJ H er cA oc Y ab _ aM=>?_;have j1:=(Y (ae "row") (by decide)).trans k1;have j2:=(Y (ae "wishes") (by decide)).trans k2;have j3:=(Y (ae "sets") (by decide)).trans k3;have aj:b9 c.L ((cA,oc)::(P,bB vp)::(V,bB vv)::n0):=U.consNe λp hp=>lc (aM p (zL hp));have O:b9 c.L ((ra,listOf H.toArray er)::(cA,oc)::(P,bB vp)::(V,bB vv)::n0):=aj.consNe λp hp=>lc (Hy p (zL hp));refine Oc hc ht O (True.intro) rfl e4 (zT (zT (zH))) hp as (zM bs) (EH z) j1 (zH) ab λwd cB e u aQ aD=>?_;have G:b9 c.L ((wd,listOf e.toArray u)::(ra,listOf H.toArray er)::(cA,oc)::(P,bB vp)::(V,bB vv)::n0):=O.consNe λp hp=>lc (aD p (zL hp));have sub:∀p∈n0,p∈(wd,listOf e.toArray u)::(ra,listOf H.toArray er)::(cA,oc)::(P,bB vp)::(V,bB vv)::n0:=λp hp=>zT (zT (zT (zT (zT hp))));have mV:(V,bB vv)∈(wd,listOf e.toArray u)::(ra,listOf H.toArray er)::(cA,oc)::(P,bB vp)::(V,bB vv)::n0:=zT (zT (zT (zT (zH))));have mP:(P,bB vp)∈(wd,listOf e.toArray u)::(ra,listOf H.toArray er)::(cA,oc)::(P,bB vp)::(V,bB vv)::n0:=zT (zT (zT (zH)));have mR:(ra,listOf H.toArray er)∈(wd,listOf e.toArray u)::(ra,listOf H.toArray er)::(cA,oc)::(P,bB vp)::(V,bB vv)::n0:=zT (zH);have mW:(wd,listOf e.toArray u)∈(wd,listOf e.toArray u)::(ra,listOf H.toArray er)::(cA,oc)::(P,bB vp)::(V,bB vv)::n0:=zH;generalize (wd,listOf e.toArray u)::(ra,listOf H.toArray er)::(cA,oc)::(P,bB vp)::(V,bB vv)::n0=n6 at G sub mV mP mR mW ⊢;refine Ob hc e5 mV hv rfl (y9 z) λt1 t2=>?_;have z1:cj (cj (cj J (ae "wanted") (.ref wd)) (ae "most") (.int (df (aZ bs)) t1)) (ae "size") (.int (sizeOf (aZ bs)) t2) (ae "row")=some (.ref ra):=(jT).trans ((jT).trans ((jT).trans j1));have z2:cj (cj (cj J (ae "wanted") (.ref wd)) (ae "most") (.int (df (aZ bs)) t1)) (ae "size") (.int (sizeOf (aZ bs)) t2) (ae "wishes")=some (.ref wa):=(jT).trans ((jT).trans ((jT).trans j2));have z3:cj (cj (cj J (ae "wanted") (.ref wd)) (ae "most") (.int (df (aZ bs)) t1)) (ae "size") (.int (sizeOf (aZ bs)) t2) (ae "sets")=some (.ref sa):=(jT).trans ((jT).trans ((jT).trans j3));have z4:cj (cj (cj J (ae "wanted") (.ref wd)) (ae "most") (.int (df (aZ bs)) t1)) (ae "size") (.int (sizeOf (aZ bs)) t2) (ae "wanted")=some (.ref wd):=(jT).trans ((jT).trans kW);have z5:cj (cj (cj J (ae "wanted") (.ref wd)) (ae "most") (.int (df (aZ bs)) t1)) (ae "size") (.int (sizeOf (aZ bs)) t2) (ae "most")=some (.int (df (aZ bs)) t1):=(jT).trans kW;have z6:cj (cj (cj J (ae "wanted") (.ref wd)) (ae "most") (.int (df (aZ bs)) t1)) (ae "size") (.int (sizeOf (aZ bs)) t2) (ae "size")=some (.int (sizeOf (aZ bs)) t2):=kW;change cN c (cj (cj (cj J (ae "wanted") (.ref wd)) (ae "most") (.int (df (aZ bs)) t1)) (ae "size") (.int (sizeOf (aZ bs)) t2)) _ _ _;generalize cj (cj (cj J (ae "wanted") (.ref wd)) (ae "most") (.int (df (aZ bs)) t1)) (ae "size") (.int (sizeOf (aZ bs)) t2)=m3 at z1 z2 z3 z4 z5 z6 ⊢;have aa:wv.length=(bx bs).length:=w3.length;have ax:(bx bs).length≤20:=td;refine Oa hc G d3 (sub _ w2) (r8 (Qm aa ax) (bR true)) z2 z6 λo3' tb e3=>?_
 have hb:((wv.length:Nat):Int)+5*sizeOf (aZ bs)=dw (aZ bs):=by
  rw[aa,xB z];rfl
 rw[hb] at e3;exact KE hc ht G z h0 hw a5 ⟨(nV wa wv ew z2 (sub _ w2) w3),(iw V vv e5 mV hv),(iw P vp e4 mP hp),(nV ra H er z1 mR ab),(nV wd e u z4 mW aQ),(vu sa es z3 (sub _ s2)),λq hq=>ir (a0 q hq) sub,⟨tb,e3⟩,⟨t1,z5⟩⟩ d2 rfl True.intro
end
theorem Ix:∀n:Fin 16,n.val≠0→(jH 0 n.val||jH 1 n.val||jH 2 n.val||jH 3 n.val)=true:=by decide
theorem GQ(h1:1≤b)(e:b<16):gx (aZ (b::bs))≠0:=by
 have hb:=Ix ⟨b.toNat,by exact ltN (eV [b.toNat,b] 1 (.a Z0 Y1) (.k 16) 1 (.a Z1 Y1) (.k 16) 1 Z0 Z1 rfl e (jb (cW [b] 1 Y0 Z0 1 Y1 Z0 rfl h1)))⟩ (by refine(?_:b.toNat≠0);exact λhh=>(qz (ia [b.toNat,b] 1 Y0 (.k (-1)) 1 Z0 Y0 1 Y1 Z1 1 Z1 Z0 rfl (vX hh) h1 tq)));have hn:((b.toNat:Nat):Int)=b:=ny (cW [b.toNat,b] 1 Z0 Z1 1 Z0 Z1 rfl (jb (cW [b] 1 Y0 Z0 1 Y1 Z0 rfl h1))) (cW [b,b.toNat] 1 Z0 Z1 1 Z0 Z1 rfl tq);dsimp only at hb;rw[hn] at hb
 have pos:∀t,jH t b=true→0<jX (b::bs) t:=λt h=>by
  unfold jX;exact gJ.mpr (Bu (bZ.mpr ⟨zH,h⟩))
 have nn:∀t,0≤jX (b::bs) t:=λt=>by unfold jX;exact j7
 unfold aZ;rw[Ay];have n0:=nn 0;have n1:=nn 1;have n2:=nn 2;have n3:=nn 3;simp only[gB] at hb
 rcases hb with ((h|h)|h)|h
 .have:=pos 0 h;exact λhh=>(qz (Jf [jX (b::bs) 0,jX (b::bs) 1,jX (b::bs) 2,jX (b::bs) 3] 1 Y0 (.k (-1)) 1 (.a (.a (.a Z0 Z1) Z2) Z3) Y0 1 (.a Y0 Y1) Z0 1 Y0 Z3 1 Y0 Z2 1 Y0 Z1 rfl (gX hh) this n3 n2 n1))
 .have:=pos 1 h;exact λhh=>(qz (Jf [jX (b::bs) 0,jX (b::bs) 1,jX (b::bs) 2,jX (b::bs) 3] 1 Y0 (.k (-1)) 1 (.a (.a (.a Z0 Z1) Z2) Z3) Y0 1 (.a Y0 Y1) Z1 1 Y0 Z3 1 Y0 Z2 1 Y0 Z0 rfl (gX hh) this n3 n2 n0))
 .have:=pos 2 h;exact λhh=>(qz (Jf [jX (b::bs) 0,jX (b::bs) 1,jX (b::bs) 2,jX (b::bs) 3] 1 Y0 (.k (-1)) 1 (.a (.a (.a Z0 Z1) Z2) Z3) Y0 1 (.a Y0 Y1) Z2 1 Y0 Z3 1 Y0 Z1 1 Y0 Z0 rfl (gX hh) this n3 n1 n0))
 .have:=pos 3 h;exact λhh=>(qz (Jf [jX (b::bs) 0,jX (b::bs) 1,jX (b::bs) 2,jX (b::bs) 3] 1 Y0 (.k (-1)) 1 (.a (.a (.a Z0 Z1) Z2) Z3) Y0 1 (.a Y0 Y1) Z3 1 Y0 Z2 1 Y0 Z1 1 Y0 Z0 rfl (gX hh) this n2 n1 n0))
theorem Nt{l:List RowT}(h:l.Pairwise (λa b=>@aR Nat _ a.1 b.1)):(l.map (·.1)).Nodup:=jQ.mpr (h.imp λh=>lc h)
theorem HG{c:Fm W0 lawS}{m:Lo}{o1 o2 o3 o4 o5:Obj}(hc:LawC c)(ht:oW c)(d1:o1.data=.cell none)(d2:o2.data=.cell none)(d3:o3.data=.cell none)(d4:o4.data=.cell none)(d5:o5.data=.cell none){sl:Addr}{vs:List Value}{ns:List Int}(hm:m (ae "script")=some (.ref sl))(hl:c.h₀.IsList sl vs.toArray)(hi:au vs ns)(hn:ns.length≤63):
  cN c m (bN c.L o1 o2 o3 o4 o5 #[] #[]) HI Ao:=by
 have B:b9 c.L []:=λ_ h=>nomatch h;rw[← iq (bN c.L o1 o2 o3 o4 o5 #[] #[])];have eB:HI=[bp 0,bp 1,bp 2,bp 3,bp 4,bp 5,bp 6,bp 7,bp 8,bp 9,bp 10,bp 11,bp 12,bp 13,bp 14,bp 15,bp 16,bp 17,bp 18,bp 19,bp 20]:=rfl;rw[eB];refine Oj hc d1 hm hl hi hn B λD va bs ep o ab ar ah pV=>?_;obtain ⟨aa,ax,b0,br,eb,g0,g1⟩:=ar;have h0:gx (aZ bs)≠0:=eb▸GQ g0 g1;have Y:b9 c.L ((D,listOf (bP va) ep)::[]):=B.consNe λp hp=>lc (pV p (zL hp));refine bL (H2 (Oi hc ah (zH) ab aa) ?_);intro f m1 n' u;refine b8 u λz e=>?_;clear u;subst z;refine hZ e λW ys H ap aj G=>?_
 try clear e
 subst H;subst G;have k1:cj m (ae "wishes") (.ref W) (ae "wishes")=some (.ref W):=kW;have U:b9 c.L ((W,bB ys)::[(D,listOf va.toArray ep)]):=Y.consNe λp hp=>lc (aj p (zL hp));generalize cj m (ae "wishes") (.ref W)=m2 at k1 ⊢;refine Oh hc λS Rw Wn n1 J aD as=>?_;have k2:cj m2 (ae "sets") (.ref S) (ae "wishes")=some (.ref W):=(jT).trans k1;have k3:cj m2 (ae "sets") (.ref S) (ae "sets")=some (.ref S):=kW;generalize cj m2 (ae "sets") (.ref S)=m3 at k2 k3 ⊢
 have O:b9 c.L ((S,bB (refsOf Rw))::(Wn++(W,bB ys)::[(D,listOf va.toArray ep)])):=by
  refine b9.consNe (o1:=o) (o2:=o2) (o3:=o3) (o4:=o4) (o5:=o5) (ps:=#[]) (qs:=#[]) (λp hp=>?_) λp hp=>lc (as p (zL hp))
  rcases aC.mp hp with hp|hp
  .exact b9.consNe (o:=p.2) (o1:=o) (o2:=o2) (o3:=o3) (o4:=o4) (o5:=o5) (ps:=#[]) (qs:=#[]) B (λq hq=>lc (J.hf p hp q (zL hq))) p (zH)
  .exact U p hp
 have mN:∀p∈(W,bB ys)::[(D,listOf va.toArray ep)],p∈(S,bB (refsOf Rw))::(Wn++(W,bB ys)::[(D,listOf va.toArray ep)]):=λp hp=>zT (zR hp);have mA:∀p∈Wn,p∈(S,bB (refsOf Rw))::(Wn++(W,bB ys)::[(D,listOf va.toArray ep)]):=λp hp=>zT (zL hp);refine cO (KG (bs:=bs) (Rw:=Rw) hc ht O aa h0 J.hl (Nt J.hp) ah d2 d3 d4 d5 (mN _ (zT (zH))) ab (nV W ys _ k2 (mN _ (zH)) ap) (vu S _ k3 (zH)) λq hq=>ir (J.hr q hq) mA) λp hp=>?_;rw[J.hn]
 rcases aC.mp hp with h|h
 .exact zT (zR (zL h))
 .rcases ak.mp h with h|h
  .rw[h];exact zH
  .rcases aC.mp h with h|h
   .exact zT (zL h)
   .exact zT (zR (zR h))
end
section
open W PyProof Rows
open PyProof.Rows.LCg
theorem Cp{h:Heap}{c P:Addr}(C:IV h c P):@aR Nat instLTNat c h.objs.size:=by
 refine PZ C λo _ _ _ _ _ _ _ _ e _=>?_
 try clear C
 exact bO e
noncomputable def QY(s₁:Shared)(tabs:List (Addr×Addr))(r:Result)(s':Shared):Prop:=
 r=.ok (.ret (.bool true))∧(∀b o,(ghostOf s₁.heap tabs).get? b=some o→s'.heap.get? b=some o)∧s'.os=s₁.os∧dB s'.gens∧GrownAll tabs s'.heap
theorem BL(hT:TabsAt u s₁.heap)(hr:∀x,J.raises args x=false)(hp:J.post args (.bool true) args=true)
  (h:dY M A cd (QY s₁ u) s):dY M A cd (GoodWG J cl mean args s₁) s:=
 xa h λr s' ⟨hc,hk,H,O,G⟩=>by
  refine(nA (.inl ⟨_,_,[],hc,hr,.bool true,hp,unshared_nil⟩) ⟨λb o e=>?_,λb o e=>?_⟩ H O)
  .by_cases hb:b∈u.map (·.2)
   .refine fN (eA.mp hb) λq hq B=>?_
    subst B;have e2:=(hT q hq).2;refine cp (G.get q hq) λps hP=>?_;have ht:=((hT q hq).1.tab (hT q hq).2).isCodeTable;rw[e] at e2;obtain rfl:=cS e2;exact .inr (.inl (eP ht rfl ⟨#[],ps,rfl,by rw[Array.empty_append];exact hP⟩))
   .exact .inl (hk b o (ghost_ne e hb))
  .by_cases hb:b∈u.map (·.2)
   .refine fN (eA.mp hb) λq hq z=>?_
    subst z;refine cp (G.get q hq) λps hP=>?_;exact⟨_,hP⟩
   .exact⟨o,hk b o (ghost_ne e hb)⟩
end
section
open W PyProof.Rows
theorem lawx:cH.Holds:=QP hd W0 Sn (by
 k_fill
 intro s₀ s₁ mg mb G Y fa o pm cd doc dV kV ho hdd hcd hD hmg hg args vals as hpre hlay hrd hwl hlo;have KX:=km_in_of Y;have hT8:=km_tabs_of Y;have X:=(Ground.X G).1;have V:=(Ground.X G).2;refine Ground.open G ?_;intro T B D TE TW
 try (refine guard_noD D (by decide +kernel) ?_;clear D)
 have hT9:TabsAt ([(366,364),(260,256)]:List (Addr×Addr)) _:=zC ⟨⟨Mt (c:=366) (P:=364) KX (by kernel_rfl),hT8 364 (by k_mem)⟩,zC ⟨⟨Mt (c:=260) (P:=256) KX (by kernel_rfl),hT8 256 (by k_mem)⟩,(λ_ h=>nomatch h)⟩⟩;have he9:cd=PySem.Value.ref 366:=law_code (x:=PySem.Str.ofString "law") (c:=366) (P:=364) KX (Top.g T) (by kernel_rfl) hmg ho hdd;subst he9;clear hmg
 wrow_args hpre hlay hrd hwl hlo
 all_goals (
  first|refine callC_kw (enter_call ?_)|refine enter_call ?_
  w_top on
  refine BL hT9 (raisesW_false (by wrow_none_raised)) (postW_of (X:=true) (by wrow_shape) (by wtm_val) (by first|rfl|w_fin)) ?_
  w_call any ho hdd hcd hD T F
  clear hdd
  kn_ghosts F T
  k_drop
  skip)
 (all_goals try k_fold)
 rename qU _ _ _ _=>BW;rename Frag.In _ _=>XW;rename Top _ _ _ _ _ _=>TW;rename Fr _ _ _ _=>FW;rename ba _ _ _ _=>NW;rename au _ _=>hI;rename ¬(_<_)=>h63;rename Heap.IsList _ _ _=>lifted9
 have cd1:IV (ghostOf s₁.heap [(366,364),(260,256)]) 366 364:=by assumption
 have h366:@aR Nat instLTNat 366 s₁.heap.objs.size:=Cp (hT9 (366,364) (zH)).1;refine B5 (cs:=lawS) (body:=HI) BW FW XW NW TW rfl (by passes_own) (λs'=>dB s'.gens) (λ_ _=>AllBare.of_eq hg) Ao ?h ?hq uX
 case h=>
  intro c hdp hun hcl hL hccd hh0 hP
  have hC:LawC c:=⟨by rw[hcl,hL];rfl,by rw[hdp];decide +kernel,by rw[hun];decide +kernel,by rw[hL];exact h366⟩
  have hT:oW c:=⟨hccd,by rw[hh0];exact cd1,hP⟩
  have hl:=lifted9;rw[← hh0] at hl;rw[← hL];exact HG hC hT (by assumption) (by assumption) (by assumption) (by assumption) (by assumption) rfl hl hI (by omega)
 case hq=>
  intro v m' n' s' hR hos hP F' N';refine b8 hR λhv zo459=>?_
  try clear hR
  refine pU zo459 λps qs g1 g2=>?_
  try clear zo459
  cases hv
  exact(Lb rfl F'.keep hos hP (GrownAt.of N' g1) (GrownAt.of N' g2) True.intro))
end
end Mine
theorem PySem.Challenge.cw_wb0115_01_holds : PySem.Challenge.rw_wb0115_01.Holds := by
  exact Mine.lawx
