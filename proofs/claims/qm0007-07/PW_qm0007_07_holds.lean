import PyProof.Rows.All
import Wide.All
import OpenK.AllK
import Wide.FinOn
import PySem.Challenge.RW_qm0007_07
set_option Elab.async false
set_option maxRecDepth 100000
set_option maxHeartbeats 0
set_option genInjectivity false
set_option genSizeOf false
set_option genCtorIdx false
set_option bootstrap.genMatcherCode false
set_option backward.match.sparseCases false
set_option linter.all false
open Array renaming any_toList→Q4,eraseIdxIfInBounds→Q5,getElem?_eq_getElem→Q6,getElem?_eq_none→Q8,mem_toList_iff→wA,toList_inj→wB
open Bool renaming and_assoc→wD,and_comm→Hh,and_eq_true→gE,and_eq_true_iff→fV,and_false→ho,and_self→Q9,and_true→Ra,eq_false_iff→Hi,eq_iff_iff→AI,false→ac,false_and→wF,false_eq_true→Rb,false_ne_true→oB,false_or→oC,not_eq_true'→oD,not_false→Rc,not_true→wG,or_eq_false_iff→AJ,or_eq_true→nj,or_eq_true_iff→rG,or_false→rH,or_true→Rd,true→aa,true_and→Hj
open Eq renaming trans→AO
open Exists renaming elim→ak
open False renaming elim→fK
open ForIn renaming forIn→wM
open ForInStep renaming yield→rL
open Int renaming le_of_lt→Rq,le_trans→AR,max_eq_right→Hy,min_eq_left→Rr,natCast_nonneg→kU,natCast_pos→Rt,ne_of_gt→Ru,negSucc→tL,negSucc_lt_zero→Hz,not_le→Rv,not_lt→HA,ofNat→c1,ofNat_le→oG,ofNat_lt→AU
open Int.ofNat renaming inj→AS
open List renaming all_eq_true→fL,any_cons→RC,any_eq_true→RD,any_toArray→RE,append_assoc→bt,append_eq_nil_iff→RF,append_nil→dj,append_toArray→HB,cons_append→HC,cons_ne_nil→HD,contains_iff_mem→rP,drop→HE,dropLast_eq_take→RG,drop_drop→AW,drop_eq_getElem_cons→RH,drop_left→RI,drop_nil→AX,drop_of_length_le→HF,drop_zero→HG,eq_nil_of_length_eq_zero→wQ,eq_of_mem_replicate→RJ,filter→AY,filterMap_cons→HH,find?→HI,find?_cons→wR,flatten_cons→HJ,forall_mem_cons→wU,getD_eq_getElem?_getD→AZ,getElem?_append_right→tN,getElem?_drop→RK,getElem?_eq_getElem→nr,getElem?_eq_none_iff→wV,getElem?_eq_some_iff→A0,getElem?_map→HK,getElem?_toArray→lC,getElem_map→RL,getElem_mem→HL,getLastD_cons→RM,isEmpty_iff→HM,length→A1,length_append→bL,length_cons→du,length_drop→A2,length_map→ed,length_nil→eX,length_replicate→A3,length_tail→wW,length_take→HN,lookup_cons→mo,lookup_eq_none_iff→RN,lookup_nil→HO,map_append→lD,map_cons→p2,map_eq_nil_iff→RO,map_map→oH,mem_append→A4,mem_cons→e5,mem_cons_of_mem→eY,mem_cons_self→eo,mem_map→wX,mem_map_of_mem→tO,mem_of_getElem?→HP,mem_of_mem_take→HQ,mem_range→HR,mem_singleton→jU,nil_append→RP,nodup_append→A5,nodup_cons→p3,nodup_nil→RQ,not_mem_nil→eG,pairwise_cons→RR,push_toArray→RS,range→A6,replicate→gP,replicate_succ→RT,size_toArray→hq,take_append_drop→p4,take_left→RU,take_nil→tP,take_of_length_le→HS,zip_cons_cons→RV
open List.Pairwise renaming cons→aiv,map→AV
open List.cons renaming inj→gv
open Nat renaming add_assoc→p6,add_comm→kV,add_le_add→fW,add_le_add_left→iW,add_le_add_right→h1,add_right_comm→RZ,add_sub_cancel→R0,add_sub_cancel_left→A9,beq→bA,beq_refl→Ba,ble→gF,ble_eq_true_of_le→mq,blt→d4,eq_of_beq_eq_true→fg,le_add_left→lF,le_add_left_of_le→HU,le_add_right→gG,le_of_ble_eq_true→cS,le_of_eq→fh,le_of_lt→kv,le_of_not_le→HV,le_of_sub_eq_zero→R1,le_refl→fi,le_succ→kx,le_succ_of_le→tR,le_total→R2,le_trans→bf,log2_le_self→R3,lt_irrefl→HW,lt_of_le_of_lt→wZ,lt_of_lt_of_le→p7,lt_or_ge→R4,lt_succ_of_le→tS,lt_succ_of_lt→R5,lt_succ_self→nt,lt_trans→Bb,min_eq_left→w0,min_eq_right→HX,min_le_left→R6,min_le_right→R7,mod_lt→mr,mul_le_mul_left→tT,ne_of_beq_eq_false→w1,ne_of_gt→HY,ne_of_lt→ms,not_le_of_lt→HZ,not_lt→mu,sub_eq_zero_of_le→H0,sub_le→oJ,sub_le_sub_right→R8,sub_self→w2,succ→tU,succ_le_succ→iX,succ_ne_self→R9,succ_pos→w3,zero_add→jt,zero_le→fu
open Nat.succ renaming inj→Bc
open Ne renaming symm→iY
open Option renaming bind_eq_some_iff→p8,isNone_iff_eq_none→Be,isSome_iff_exists→w4,isSome_or→Sa,map→H2,map_eq_some_iff→p9,none→af,or_assoc→Sb,or_none→Sd,some→ab
open Option.some renaming inj→bQ
open Or renaming inl→d5,inr→cW
open Prod renaming fst→H3
open Prod.mk renaming inj→tX
open PyProof.Rows renaming StrsAre→Bf,assign_Name→qb,call_isinstance_yes→aiw,joinParts_cons→Bg,joinParts_consE→Sf
open PySem renaming Addr→aR,Arg→iz,Around→c2,Builtin→oN,CmpOp→hr,DictEntry→cT,Env→dm,Flow→nv,FuncData→jV,GenState→Ia,Heap→cu,Keyword→mv,MethodOn→Ie,Model→tZ,NameKind→mw,Obj→bW,Operator→mx,OsState→cc,Params→cv,Pos→er,Program→cP,Result→nx,Scope→cN,Sem→hJ,Shared→az,Stmt→cy,Str→a7,SubscriptOn→rS,Thread→w5,Value→ah,World→ba,arm_eval_BoolOp→SM,arm_exec_Assign→SN,assignEach→oT,backTo→iZ,backToKw→mz,behindInMarks→By,binaryOp→qc,bindArgs→Iw,bindC→t4,boolOp→Bz,builtinLookup_eq_fast→SO,builtinsNs→oU,cStatics→xe,call→iA,callEnv→jW,callWith→t5,call_isinstance→SP,call_meets→Iy,call_meetsIn→BA,cellOf→BB,closureFor→Iz,codeAny→nz,codeAny_builtin→SQ,codeAny_forLoop→SR,compEnvC→jw,compareOp→qd,eval→dz,evalEach→xf,evalPart→BC,eval_Subscript→SS,exec→qe,execs→nA,fillsInplaceSlot→SU,foldedSetIterable→SV,getAttr→BD,getitemInPython_of_ne→SW,importedModules→BE,inplaceOp→xg,intText?→IA,isinstance_outer→SX,keeperOf→rX,keywordEach→mA,letOwnedTupleGo→IB,lookup_relabel_local→SY,mainNs→jx,methodCallForm→IC,methodCallPos→BF,model→bp,notedBy→t6,seqIndex?→xh,sizeLine→dZ,sizeLine_eq→gi,sliceRange→xi,sliceRange_one→S0,standAt→xj,starEach→h2,strIterType→rY,strKind→BG,strValues→BH,swappedStores→BI,swapsWith→xk,sysModules→lI,treeTable→qf,typeIs_str→xl,typeLookup→ID,typeLookup_type→S1,valueAt→rZ,wpAny→bg,wpAny_Assign_Name→IE,wpAny_AugAssign_Name→S2,wpAny_Call_Name_kw→xm,wpAny_Call_method_late→S3,wpAny_Compare1→S4,wpAny_Constant_int→S5,wpAny_For→BJ,wpAny_List_spliced→S6,wpAny_Name→t7,wpAny_bind→bx,wpAny_call→IF,wpAny_evalAll_nil→S7,wpAny_execs_cons→BK,wpAny_execs_nil→t8,wpAny_forIn_list→IG,wpAny_holding→gj,wpAny_isTrue_BoolOp→S8,wpAny_letTemporaryGo→IH,wpAny_loadName_local→BL,wpAny_loadPart→II,wpAny_loadPart'→nB,wpAny_mkText→xn,wpAny_mono→h3,wpAny_operating→BM,wpAny_pure→dc,wpAny_pyIter_dict→S9,wpAny_pyIter_list→BN,wpAny_pyIter_listiter→Ta,wpAny_pyIter_range→Tb,wpAny_pyNext_dict_end→Tc,wpAny_richCompare_same_room→Td,wpAny_specialOf→IJ,wpAny_standAt→gH,wpAny_storeName_local→BO,wpAny_truthy_bool→t9,wpAny_unpack_tuple→IK
open PySem.Around renaming under_plainId→Sg
open PySem.Builtin.List renaming listTooLong→Sh
open PySem.Builtin.Range renaming rangeSize→aix
open PySem.Builtin.Str renaming strSliceIndices→Bh,tooLong→Si
open PySem.Builtin.Tuple renaming tupleCompareSizes→aiy
open PySem.Calls renaming loadGlobal_builtin→H4,spliced_cons→Bi,spliced_nil→H5
open PySem.Challenge renaming pw_qm0007_07→H6,rw_qm0007_07→rQ
open PySem.Data renaming noConfusion→H7
open PySem.Env renaming kindOf→H8
open PySem.F renaming plainAttrs_dict→Sj,plainAttrs_list→Bj,slot_dict_copy→Sk,slot_dict_keys→Sl,slot_list_append→Sm,slot_list_eq→Sn,slot_list_getitem→So,slot_list_iadd→H9,slot_list_pop→Sp,slot_str_getitem→Sq,slot_str_mod→Sr,slot_tuple_eq→Ss,type_list_pop→Su
open PySem.Heap renaming SameBut→Bk,get?_push_of_some→tY,get?_push_size→ju,get?_update_self→Sv,lt_size→oO,size_push→Sw
open PySem.Heap.SameBut renaming update→aiz
open PySem.IsL renaming update→Sx
open PySem.IsRange renaming new→Sy
open PySem.Made renaming str→Ib,val→Ic
open PySem.NameKind renaming cell→Sz,free→jv
open PySem.Obj renaming mapSeq→Bl,putName→Ig
open PySem.P renaming truthy_str→SA
open PySem.PyData renaming keyHash→kW
open PySem.SeqAt renaming EqAt→Ih
open PySem.SeqAt.EqAt renaming int_int→SD,same→Ii,str_str→Ij
open PySem.Shared renaming heap→SE
open PySem.Str renaming length→Ik,mk→rR,ofString→cE
open PySem.Txt renaming startswith→SF
open PySem.Value renaming bool→SG,isInt→SH,isStrOf→Bm,isStrOf_shape→Il,ref→w6,str→SI
open PySem.Value.ref renaming inj→Bn
open PySem.W renaming BT→Im,Frag→bY,SharedT→t2,WData→w7,behindTheImports→SJ,boot_drawn→oP,boot_heap→oQ,boot_toks→Bp,callWith_of→Bq,clsIn→my,copiedNames→rT,dictOf→eB,emptyDict→w8,findIn→hK,getL→lG,handedIn→ny,hasDictIn→Br,instObj→kX,keepIn→Bs,ks_loadName_global→Iu,lookIn→Bt,lookIn_dict→Bu,look_both→rU,makesIn→rV,methodObj→w9,noRoadLSs→ky,plainGet→Bv,plainGet_of→xa,plainOver→Iv,putL→lH,putName_dict→Bw,readsOut→xb,specialIn→oR,takerIn→Bx,takesIn→xc,topFrame→rW,topRun→xd,typeIn→oS
open PySem.W.WData renaming bool→Bo,int→Io
open PySem.W.WShape renaming has→Ip,hasAll→Iq,hasItems→Ir
open PySem.W.WTm renaming eq→It
open PySem.WalksT renaming enumerateD→SK
open ToString renaming toString→qk
open PySem PySem.W PySem.Calls PyProof.Rows
noncomputable section
namespace Q7
section
theorem bT {α β:Sort _} {p:α->β->Prop} {G:Prop} (h: ∃a b,p a b) (k: ∀a b,p a b->G):G:=h.elim λa h=>h.elim λb h=>k a b h
theorem c5 {α β mj:Sort _} {p:α->β->mj->Prop} {G:Prop} (h: ∃a b c,p a b c) (k: ∀a b c,p a b c->G):G:=h.elim λa h=>h.elim λb h=>h.elim λc h=>k a b c h
theorem nh {α β mj oy:Sort _} {p:α->β->mj->oy->Prop} {G:Prop} (h: ∃a b c d,p a b c d) (k: ∀a b c d,p a b c d->G):G:=h.elim λa h=>h.elim λb h=>h.elim λc h=>h.elim λd h=>k a b c d h
theorem wt {α β mj oy rB:Sort _} {p:α->β->mj->oy->rB->Prop} {G:Prop} (h: ∃a b c d e,p a b c d e) (k: ∀a b c d e,p a b c d e->G):G:=h.elim λa h=>h.elim λb h=>h.elim λc h=>h.elim λd h=>h.elim λe h=>k a b c d e h
theorem QS {α β mj oy rB wx:Sort _} {p:α->β->mj->oy->rB->wx->Prop} {G:Prop} (h: ∃a b c d e f,p a b c d e f) (k: ∀a b c d e f,p a b c d e f->G):G:=h.elim λa h=>h.elim λb h=>h.elim λc h=>h.elim λd h=>h.elim λe h=>h.elim λf h=>k a b c d e f h
theorem aii {α β mj oy rB wx G8:Sort _} {p:α->β->mj->oy->rB->wx->G8->Prop} {G:Prop} (h: ∃a b c d e f g,p a b c d e f g) (k: ∀a b c d e f g,p a b c d e f g->G):G:=h.elim λa h=>h.elim λb h=>h.elim λc h=>h.elim λd h=>h.elim λe h=>h.elim λf h=>h.elim λg h=>k a b c d e f g h
theorem aih {α β mj oy rB wx G8 aip ι aiq air ais ait:Sort _} {p:α->β->mj->oy->rB->wx->G8->aip->ι->aiq->air->ais->ait->Prop} {G:Prop} (h: ∃a b c d e f g i j l m n o,p a b c d e f g i j l m n o) (k: ∀a b c d e f g i j l m n o,p a b c d e f g i j l m n o->G):G:=h.elim λa h=>h.elim λb h=>h.elim λc h=>h.elim λd h=>h.elim λe h=>h.elim λf h=>h.elim λg h=>h.elim λi h=>h.elim λj h=>h.elim λl h=>h.elim λm h=>h.elim λn h=>h.elim λo h=>k a b c d e f g i j l m n o h
noncomputable def l2:List String:= ["_","c","i","m","n","br","ch","id","due","end","eof","got","int","key","law","len","max","pop","str","tag","Mark","Rows","copy","data","done","emit","flow","head","join","keys","line","list","mark","name","peek","root","rows","self","step","tags","tape","text","told","wide","Event","Token","asked","block","count","empty","event","first","flags","found","hints","index","later","level","lines","major","marks","minor","other","plain","range","split","start","state","style","super","token","value","width","write","Parser","Reader","anchor","append","breaks","buffer","chunks","closed","column","ending","events","extend","folded","handle","indent","length","parser","prefix","scalar","script","sorted","spaces","states","stream","tokens","update","Emitter","Scanner","choices","emitter","forward","handles","hanging","indents","mapping","pointer","version","KeyToken","TagToken","__init__","analysis","chomping","encoding","end_mark","explicit","get_mark","implicit","sequence","tag_mark","NodeEvent","SimpleKey","YAMLError","_law_next","_law_text","_law_told","canonical","character","check_key","enumerate","get_event","get_token","increment","indention","indicator","multiline","AliasEvent","AliasToken","TokenClass","ValueToken","_law_lines","best_width","flow_level","indentless","isinstance","line_break","max_indent","min_indent","open_ended","parse_node","peek_event","peek_token","raw_buffer","raw_decode","simple_key","start_mark","startswith","whitespace","AnchorToken","ParserError","ReaderError","ScalarEvent","ScalarToken","_law_PIECES","allow_block","best_indent","break_space","check_token","check_value","expect_node","handle_text","line_breaks","need_events","prefix_text","process_tag","space_break","tag_handles","DEFAULT_TAGS","EmitterError","ScannerError","_law_ENDINGS","_law_HANDLES","fetch_folded","flush_stream","prepared_tag","root_context","scan_tag_uri","tag_prefixes","tokens_taken","version_text","write_folded","write_indent","yaml_version","BlockEndToken","_is_printable","allow_unicode","current_event","expect_scalar","fetch_literal","leading_break","leading_space","unwind_indent","write_literal","DirectiveToken","FlowEntryToken","ScalarAnalysis","StreamEndEvent","StreamEndToken","analyze_scalar","expect_nothing","previous_break","previous_space","process_anchor","process_scalar","scan_directive","stream_pointer","trailing_break","trailing_space","BlockEntryToken","MappingEndEvent","MarkedYAMLError","best_line_break","check_directive","check_printable","fetch_directive","flow_indicators","increase_indent","mapping_context","need_whitespace","prepare_version","prepared_anchor","scan_line_break","scan_tag_handle","write_indicator","DocumentEndEvent","DocumentEndToken","SequenceEndEvent","StreamStartEvent","StreamStartToken","allow_flow_plain","allow_simple_key","block_indicators","fetch_stream_end","min_token_number","need_more_events","need_more_tokens","parse_block_node","sequence_context","write_line_break","write_stream_end","MappingStartEvent","allow_block_plain","check_block_entry","fetch_more_tokens","leading_non_space","scan_block_scalar","CollectionEndEvent","DocumentStartEvent","DocumentStartToken","SequenceStartEvent","check_document_end","fetch_block_scalar","fetch_document_end","fetch_stream_start","parse_document_end","parse_stream_start","prepare_tag_handle","prepare_tag_prefix","process_directives","scan_to_next_token","simple_key_context","special_characters","unicode_characters","write_stream_start","FlowMappingEndToken","allow_double_quoted","allow_single_quoted","choose_scalar_style","expect_document_end","expect_stream_start","indentless_sequence","scan_directive_name","write_tag_directive","CollectionStartEvent","DEFAULT_TAG_PREFIXES","FlowSequenceEndToken","check_document_start","check_empty_document","expect_document_root","fetch_document_start","parse_document_start","possible_simple_keys","FlowMappingStartToken","determine_block_hints","expect_document_start","BlockMappingStartToken","FlowSequenceStartToken","followed_by_whitespace","parse_document_content","preceded_by_whitespace","BlockSequenceStartToken","write_version_directive","fetch_document_indicator","next_possible_simple_key","scan_block_scalar_breaks","scan_tag_directive_value","scan_tag_directive_handle","scan_tag_directive_prefix","scan_yaml_directive_value","remove_possible_simple_key","scan_yaml_directive_number","stale_possible_simple_keys","expect_first_document_start","scan_directive_ignored_line","scan_block_scalar_indicators","parse_implicit_document_start","scan_block_scalar_indentation","scan_block_scalar_ignored_line"]
noncomputable def uF:List Nat->Nat->Nat
 | [],a=>a
 |c::l,a=>uF l (a*1114112+c+1)
noncomputable def us (a:Nat):List Nat->Bool
 | []=>aa
 |b::l=>d4 a b&&us b l
theorem T9 {l:List Nat}: ∀{a:Nat},us a l=aa->(∀x∈l,a<x)/\l.Pairwise (· < ·):=by
 induction l with
 |nil=>exact λ_=> ⟨λx h=>absurd h eG,.nil⟩
 |cons b l ai=>
  intro a h
  have h:=fV.mp h
  have ag:a<b:=cS h.1
  refine⟨λx aH=> ?_,.cons (ai h.2).1 (ai h.2).2⟩
  cases aH with
  |head=>exact ag
  |tail _ aH=>exact Bb ag ((ai h.2).1 x aH)
theorem ab4:us 0 (l2.map λs=>uF (cE s).cps.toList 0)=aa:=by decide+kernel
theorem ab5:(l2.all λs=> (cE s).cps.all λc=>decide (c<1114112))=aa:=by decide+kernel
def nm (n:Nat):a7:=match l2[n]? with
 |some s=>cE s
 |none=> ⟨#[1114112+n]⟩
theorem n7 (a b:Nat) (h:nm a=nm b):a=b:=by
 have low: ∀(n:Nat) (s:String),l2[n]? =ab s-> ∀k,cE s≠⟨#[1114112+k]⟩:=λn s e k q=>by
  have:=fL.mp ab5 s (HP e)
  rw[q] at this
  simp at this
  omega
 unfold nm at h
 cases aE:l2[a]? with
 |none=>
  cases ag:l2[b]? with
  |none=>
   rw[aE,ag] at h
   simp at h
   exact h
  |some t=>rw[aE,ag] at h;exact absurd h.symm (low b t ag a)
 |some s=>
  cases ag:l2[b]? with
  |none=>rw[aE,ag] at h;exact absurd h (low a s aE b)
  |some t=>
   rw[aE,ag] at h
   have h:cE s=cE t:=h
   obtain ⟨aau,j3⟩:=A0.mp aE
   obtain ⟨lb,bZ⟩:=A0.mp ag
   have P:=List.pairwise_iff_getElem.mp (T9 ab4).2
   have aA:(l2.map λs=>uF (cE s).cps.toList 0).length=l2.length:=ed ..
   have eq:(l2.map λs=>uF (cE s).cps.toList 0)[a]'(by rw[aA];exact aau)=(l2.map λs=>uF (cE s).cps.toList 0)[b]'(by rw[aA];exact lb):=by
    rw[RL,RL,j3,bZ,h]
   rcases Nat.lt_trichotomy a b with q|q|q
   ·exact absurd eq (ms (P a b _ _ q))
   ·exact q
   ·exact absurd eq.symm (ms (P b a _ _ q))
noncomputable abbrev aK (l:List Nat):a7:=⟨l.toArray⟩
inductive aj where
 |none|bool (b:Bool) |int (i:Int) |str (s:List Nat) |st (a:Nat) |dd (id:String) |ty (n:String) |any
 |tup (l:List aj) |lst (l:List aj) |inst (c:Nat) (ns:List Nat) (l:List aj) |ei (ks:List (List Nat)) (l:List aj)
inductive ae where
 |f (v:aj)
 |ap (x:Nat)
 |dy (x:Nat) (f:Nat)
inductive cb where
 |inst (c:Nat) (ns:List Nat) (l:List ae)
 |list (l:List ae)
 |dict (ks:List (List Nat)) (l:List ae)
abbrev b4:=List (Nat×cb)
noncomputable def aL {α:Type} (n:Nat):List (Nat×α)->Option α
 | []=>af
 |p::r=>match bA p.1 n with
  |true=>ab p.2
  |false=>aL n r
noncomputable def up {α:Type} (n:Nat) (v:α):List (Nat×α)->List (Nat×α)
 | []=> [(n,v)]
 |p::r=>match bA p.1 n with
  |true=> (n,v)::r
  |false=>p::up n v r
def gs {α:Type} (n:Nat) (l:List (Nat×Option α)):Option α:=match aL n l with
 |some o=>o
 |none=>af
def nf {α:Type} (n:Nat) (v:α) (l:List (Nat×Option α)):List (Nat×Option α):=up n (ab v) l
structure St where
 loc:List (Nat×Option ae)
 hp:b4
 lh:b4
 lu:List Nat
theorem beq_eq (a b:Nat):bA a b=decide (a=b):=BT.beq_eq a b
theorem vu {α:Type} (n:Nat) (v:α) (l:List (Nat×α)) (x:Nat):aL x (up n v l)=if x=n then ab v else aL x l:=by
 have K: ∀r:List (Nat×α),(match bA n x with
  |true=>ab v
  |false=>aL x r)=if x=n then ab v else aL x r:=λr=>by
  cases q:bA n x with
  |true=>exact(if_pos (fg q).symm).symm
  |false=>exact(if_neg (iY (w1 q))).symm
 induction l with
 |nil=>exact K []
 |cons p r ai=>
  show aL x (match bA p.1 n with
   |true=> (n,v)::r
   |false=>p::up n v r)=if x=n then ab v else(match bA p.1 x with
   |true=>ab p.2
   |false=>aL x r)
  cases q:bA p.1 n with
  |true=>
   refine(K r).trans ?_
   rw[fg q]
   cases e9:bA n x with
   |true=>rw[if_pos (fg e9).symm,if_pos (fg e9).symm]
   |false=>rfl
  |false=>
   show(match bA p.1 x with
    |true=>ab p.2
    |false=>aL x (up n v r))=_
   rw[ai]
   cases e9:bA p.1 x with
   |true=>exact(if_neg λe=>w1 q ((fg e9).trans e)).symm
   |false=>rfl
theorem abi {α:Type} (n:Nat) (v:α) (l:List (Nat×Option α)) (x:Nat):gs x (nf n v l)=if x=n then ab v else gs x l:=by
 unfold gs nf
 rw[vu]
 by_cases h:x=n
 ·rw[if_pos h,if_pos h]
 ·rw[if_neg h,if_neg h]
inductive bC {α β:Type} (R:α->β->Prop):List α->List β->Prop
 |nil:bC R [] []
 |cons {a:α} {b:β} {l:List α} {m:List β} (h:R a b) (t:bC R l m):bC R (a::l) (b::m)
theorem bC.mono {α β:Type} {R R':α->β->Prop} (f: ∀a b,R a b->R' a b) {l:List α} {m:List β} (x:bC R l m):bC R' l m:=by
 induction x with
 |nil=>exact .nil
 |cons h _ ai=>exact .cons (f _ _ h) ai
theorem bC.length {α β:Type} {R:α->β->Prop} {l:List α} {m:List β} (x:bC R l m):l.length=m.length:=by
 induction x with
 |nil=>rfl
 |cons _ _ ai=>simp[ai]
abbrev bh:=aR->Option bW
class WP where
 P:cv
variable [WP]
noncomputable abbrev lobj (vs:List ah) (n:Nat):bW:={cls:= .type "list",data:= .seq vs.toArray n}
noncomputable abbrev mc (vs:List ah) (n:Nat):bW:={cls:= .type "tuple",data:= .seq vs.toArray n}
mutual
inductive bq (aP:bh):aj->ah->Prop
 |none:bq aP .none .none
 |bool (b:Bool):bq aP (.bool b) (.bool b)
 |int (i:Int) (t:Tok):bq aP (.int i) (.int i t)
 |str (s:List Nat) (t:Tok) (h:s.length<=dZ):bq aP (.str s) (.str (aK s) t)
 |st (a:Nat):bq aP (.st a) (.ref a)
 |dd (i:String) (h:ny (.builtin i)=aa):bq aP (.dd i) (.builtin i)
 |ty (n:String):bq aP (.ty n) (.type n)
 |any (v:ah) (h:ny v=aa):bq aP .any v
 |tup {l:List aj} {a:aR} {vs:List ah} (h:aP a=ab (mc vs 0)) (aA:ew aP l vs):bq aP (.tup l) (.ref a)
 |lst {l:List aj} {a:aR} {vs:List ah} {n:Nat} (h:aP a=ab (lobj vs n)) (aA:ew aP l vs):bq aP (.lst l) (.ref a)
 |inst {c:Nat} {ns:List Nat} {l:List aj} {a d:aR} {es:List cT} {n:Nat} (h:aP a=ab (kX c d))
   (hd:aP d=ab (eB es n)) (aS:bC (λk e=> ∃t,(e:cT).key= .str (nm k) t) ns es) (aA:ew aP l (es.map (·.val))):bq aP (.inst c ns l) (.ref a)
 |ei {ks:List (List Nat)} {l:List aj} {a:aR} {es:List cT} {n:Nat} (bX:(ks.Nodup/\ ∀k∈ks,k.length<=dZ)/\(a==lI)=ac) (h:aP a=ab (eB es n))
   (aS:bC (λk e=> (∃t,(e:cT).key= .str (aK k) t)/\e.hash=kW WP.P (aK k)) ks es) (aA:ew aP l (es.map (·.val))):bq aP (.ei ks l) (.ref a)
inductive ew (aP:bh):List aj->List ah->Prop
 |nil:ew aP [] []
 |cons {v:aj} {w:ah} {l:List aj} {ws:List ah} (h:bq aP v w) (t:ew aP l ws):ew aP (v::l) (w::ws)
end
def dT (F G:bh):Prop:= ∀b o,F b=ab o->G b=ab o
theorem dT.refl (F:bh):dT F F:=λ_ _ e=>e
theorem dT.trans {F G H:bh} (x:dT F G) (y:dT G H):dT F H:=λb o e=>y b o (x b o e)
theorem bq.mono {F G:bh} (k:dT F G) {v:aj} {w:ah} (h:bq F v w):bq G v w:=
 bq.rec (motive_1:=λv w _=>bq G v w) (motive_2:=λl ws _=>ew G l ws) .none .bool .int .str .st .dd .ty .any (λh _ i=> .tup (k _ _ h) i) (λh _ i=> .lst (k _ _ h) i) (λh hd aS _ i=> .inst (k _ _ h) (k _ _ hd) aS i) (λP h aS _ i=> .ei P (k _ _ h) aS i) .nil (λ_ _ i j=> .cons i j) h
theorem ew.mono {F G:bh} (k:dT F G) {v:List aj} {w:List ah} (h:ew F v w):ew G v w:=
 ew.rec (motive_1:=λv w _=>bq G v w) (motive_2:=λl ws _=>ew G l ws) .none .bool .int .str .st .dd .ty .any (λh _ i=> .tup (k _ _ h) i) (λh _ i=> .lst (k _ _ h) i) (λh hd aS _ i=> .inst (k _ _ h) (k _ _ hd) aS i) (λP h aS _ i=> .ei P (k _ _ h) aS i) .nil (λ_ _ i j=> .cons i j) h
def St.g (σ:St) (x:Nat):Option cb:=match d4 x 100 with
 |true=>aL x σ.hp
 |false=>aL x σ.lh
def dO (g:Nat->Option cb) (lu:List Nat) (x:Nat):Prop:=((g x).isSome=aa/\x<100)\/x∈lu
def d9 (aP:bh) (ax:Nat->aR) (U:Nat->Prop):ae->ah->Prop
 | .f v,w=>bq aP v w
 | .ap x,w=>U x/\w= .ref (ax (2*x))
 | .dy x f,w=>U x/\ ∃a,w= .ref a/\aP a=ab (w9 (.ref f) (.ref (ax (2*x))))
noncomputable def glob:ae->Bool
 | .f _=>aa
 | .ap x=>d4 x 100
 | .dy x _=>d4 x 100
theorem d9.mono {F G:bh} {ax ρ':Nat->aR} {U U':Nat->Prop} (k:dT F G) (u: ∀x,U x->U' x) (r: ∀x,U x->ρ' (2*x)=ax (2*x)) {v:ae} {w:ah} (h:d9 F ax U v w):d9 G ρ' U' v w:=by
 cases v with
 |f v=>exact bq.mono k h
 |ap x=>exact⟨u _ h.1,by rw[r _ h.1];exact h.2⟩
 |dy x f=>exact⟨u _ h.1,ak h.2 λa e=> ⟨a,e.1,by rw[r _ h.1];exact k _ _ e.2⟩⟩
noncomputable def adr (ax:Nat->aR) (x:Nat):cb->List aR
 | .inst .. => [ax (2*x),ax (2*x+1)]
 |_=> [ax (2*x)]
def lz (aP:bh) (ax:Nat->aR) (U:Nat->Prop) (h:cu) (x:Nat):cb->Prop
 | .inst c ns l=>h.get? (ax (2*x))=ab (kX c (ax (2*x+1)))/\ ∃es n,h.get? (ax (2*x+1))=ab (eB es n)/\es.length<=1000/\
   bC (λk e=> ∃t,(e:cT).key= .str (nm k) t) ns es/\bC (λa e=>d9 aP ax U a (e:cT).val/\glob a=aa) l es
 | .list l=> ∃vs n,h.get? (ax (2*x))=ab (lobj vs n)/\bC (λa v=>d9 aP ax U a v/\glob a=aa) l vs
 | .dict ks l=> ∃es n,∃_:(ks.Nodup/\ ∀k∈ks,k.length<=dZ)/\(ax (2*x)==lI)=ac,h.get? (ax (2*x))=ab (eB es n)/\
   bC (λk e=> (∃t,(e:cT).key= .str (aK k) t)/\e.hash=kW WP.P (aK k)) ks es/\bC (λa e=>d9 aP ax U a (e:cT).val/\glob a=aa) l es
structure fc (aP Fr:bh) (ax:Nat->aR) (g:Nat->Option cb) (lu:List Nat) (h:cu):Prop where
 bE: ∀b o,aP b=ab o->h.get? b=ab o
 fr: ∀b o,Fr b=ab o->h.get? b=ab o/\aP b=af
 cell: ∀x ao,g x=ab ao->lz aP ax (dO g lu) h x ao
 ca: ∀x ao,g x=ab ao-> ∀a∈adr ax x ao,aP a=af/\Fr a=af
 gm: ∀x y ao bo,g x=ab ao->g y=ab bo->x≠y-> ∀a∈adr ax x ao,a∉adr ax y bo
structure RW (aP Fr:bh) (ax:Nat->aR) (L:aR) (σ:St) (h:cu):Prop where
 ns: ∃m,h.Ns L m/\ ∀n av,gs n σ.loc=ab av-> ∃v,m (nm n)=ab v/\d9 aP ax (dO σ.g σ.lu) av v
 free:aP L=af/\Fr L=af
 b0: ∀x ao,σ.g x=ab ao->L∉adr ax x ao
 lu: ∀x∈σ.lu,100<=x
end
section
variable [WP]
structure bM where
 Fr:bh
 L:aR
 base:cu
 gens:Array Ia
 os:cc
 pin:Nat->Option aR
structure bG where
 aP:bh
 ax:Nat->aR
 σ:St
abbrev bG.U (T:bG):Nat->Prop:=dO T.σ.g T.σ.lu
structure aX (Γ:bM) (T:bG) (s:az):Prop where
 aY:fc T.aP Γ.Fr T.ax T.σ.g T.σ.lu s.heap
 lo:RW T.aP Γ.Fr T.ax Γ.L T.σ s.heap
 base:dT Γ.base.get? T.aP
 gens:s.gens=Γ.gens
 os:s.os=Γ.os
 pin: ∀x a,Γ.pin x=ab a->T.U x/\T.ax (2*x)=a
structure bG.dS (T a4:bG):Prop where
 bE:dT T.aP a4.aP
 dN: ∀x,T.U x->a4.U x
 ax: ∀x,T.U x->a4.ax (2*x)=T.ax (2*x)
theorem bG.dS.refl (T:bG):T.dS T:=⟨dT.refl _,λ_ h=>h,λ_ _=>rfl⟩
theorem bG.dS.trans {T a4 mB:bG} (x:T.dS a4) (y:a4.dS mB):T.dS mB:=⟨x.bE.trans y.bE,λa h=>y.dN a (x.dN a h),λa h=> (y.ax a (x.dN a h)).trans (x.ax a h)⟩
abbrev bG.A (T:bG):ae->ah->Prop:=d9 T.aP T.ax T.U
theorem d9.ex {T a4:bG} (x:T.dS a4) {v:ae} {w:ah} (h:T.A v w):a4.A v w:=h.mono x.bE x.dN x.ax
theorem bC.ex {T a4:bG} (x:T.dS a4) {v:List ae} {w:List ah} (h:bC T.A v w):bC a4.A v w:=h.mono λ_ _ r=>r.ex x
theorem aX.keeps {Γ:bM} {T:bG} {s:az} (N:aX Γ T s): ∀b o,Γ.base.get? b=ab o->s.heap.get? b=ab o:=λb o e=>N.aY.bE b o (N.base b o e)
theorem iw {aP eF:bh} {ax ρ':Nat->aR} {U U':Nat->Prop} {h h':cu} {x:Nat} {ao:cb} (k:dT aP eF) (u: ∀x,U x->U' x) (r: ∀x,U x->ρ' (2*x)=ax (2*x))
  (jN: ∀a∈adr ax x ao,h.get? a=h'.get? a) (zS:ρ' (2*x)=ax (2*x)) (gB:ρ' (2*x+1)=ax (2*x+1)) (C:lz aP ax U h x ao):lz eF ρ' U' h' x ao:=by
 cases ao with
 |inst c ns l=>
  obtain ⟨aq,es,n,aC,cG,bz,ee⟩:=C
  refine⟨?_,es,n, ?_,cG,bz,ee.mono λa e q=> ⟨q.1.mono k u r,q.2⟩⟩
  ·rw[zS,gB,<-jN _ (by simp[adr])];exact aq
  ·rw[gB,<-jN _ (by simp[adr])];exact aC
 |list l=>
  obtain ⟨vs,n,aq,aC⟩:=C
  exact⟨vs,n,by rw[zS,<-jN _ (by simp[adr])];exact aq,aC.mono λa e q=> ⟨q.1.mono k u r,q.2⟩⟩
 |dict ks l=>
  obtain ⟨es,n,P,aq,aC,bz⟩:=C
  exact⟨es,n,by rw[zS];exact P,by rw[zS,<-jN _ (by simp[adr])];exact aq,aC,bz.mono λa e q=> ⟨q.1.mono k u r,q.2⟩⟩
theorem lL {aP:bh} {ax:Nat->aR} {U:Nat->Prop} {h:cu} {x:Nat} {ao:cb} (C:lz aP ax U h x ao): ∀a∈adr ax x ao,∃o,h.get? a=ab o:=by
 intro a aE
 cases ao with
 |inst c ns l=>
  obtain ⟨aq,es,n,aC,_⟩:=C
  simp only[adr,e5,eG,or_false] at aE
  rcases aE with rfl|rfl
  ·exact⟨_,aq⟩
  ·exact⟨_,aC⟩
 |list l=>
  obtain ⟨vs,n,aq,_⟩:=C
  simp only[adr,e5,eG,or_false] at aE
  subst aE;exact⟨_,aq⟩
 |dict ks l=>
  obtain ⟨es,n,P,aq,_⟩:=C
  simp only[adr,e5,eG,or_false] at aE
  subst aE;exact⟨_,aq⟩
theorem aX.grow {Γ:bM} {T:bG} {s s':az} (N:aX Γ T s) (k: ∀b o,s.heap.get? b=ab o->s'.heap.get? b=ab o) (cI:s'.gens=s.gens) (bV:s'.os=s.os):aX Γ T s' where
 aY:=⟨λb o e=>k b o (N.aY.bE b o e),λb o e=> ⟨k b o (N.aY.fr b o e).1,(N.aY.fr b o e).2⟩,
  λx ao e=>iw (dT.refl _) (λ_ h=>h) (λ_ _=>rfl) (λa aE=>by obtain ⟨o,aq⟩:=lL (N.aY.cell x ao e) a aE;rw[aq,k _ _ aq]) rfl rfl (N.aY.cell x ao e),N.aY.ca,N.aY.gm⟩
 lo:=by
  obtain ⟨⟨m,ar,hm⟩,hf,aE,eT⟩:=N.lo
  exact⟨⟨m,ar.keeps k,hm⟩,hf,aE,eT⟩
 base:=N.base
 gens:=cI.trans N.gens
 os:=bV.trans N.os
 pin:=N.pin
theorem aX.tok {Γ:bM} {T:bG} {h:cu} {g:Array Ia} {d:Drawn} {t dR:Nat} {os:cc} (N:aX Γ T ⟨h,g,d,t,os⟩):aX Γ T ⟨h,g,d,dR,os⟩:=N.grow (λ_ _ e=>e) rfl rfl
theorem aX.toks {Γ:bM} {T:bG} {s:az} (N:aX Γ T s) (t:Nat):aX Γ T {s with toks:=t}:=N.grow (λ_ _ e=>e) rfl rfl
theorem aX.push {Γ:bM} {T:bG} {s:az} (N:aX Γ T s) (o:bW):aX Γ T {s with heap:=s.heap.push o}:=N.grow (λ_ _ e=>tY _ e) rfl rfl
noncomputable def bh.ins (F:bh) (a:aR) (o:bW):bh:=λb=>open Classical in if b=a then ab o else F b
theorem bh.gb (F:bh) (a:aR) (o:bW):F.ins a o a=ab o:=by simp[bh.ins]
theorem bh.yV {F:bh} {a:aR} {o:bW} (h:F a=af\/F a=ab o):dT F (F.ins a o):=λb x e=>by
 by_cases q:b=a
 ·subst q
  rcases h with h|h
  ·rw[h] at e;cases e
  ·rw[h] at e;cases e;exact F.gb b o
 ·simp[bh.ins,q,e]
theorem bh.f9 (F:bh) {a b:aR} (o:bW) (h:b≠a):F.ins a o b=F b:=by simp[bh.ins,h]
theorem aX.fast {Γ:bM} {T:bG} {s:az} (N:aX Γ T s) {a:aR} {o:bW} (aE:s.heap.get? a=ab o) (hv:T.aP a=af) (DA:Γ.Fr a=af) (d6:a≠Γ.L)
  (aD: ∀x ao,T.σ.g x=ab ao->a∉adr T.ax x ao):aX Γ ⟨T.aP.ins a o,T.ax,T.σ⟩ s/\T.dS ⟨T.aP.ins a o,T.ax,T.σ⟩:=by
 have le:=bh.yV (o:=o) (.inl hv)
 refine⟨⟨⟨λb x e=> ?_,λb x e=> ⟨(N.aY.fr b x e).1, ?_⟩,λx ao e=>iw le (λ_ h=>h) (λ_ _=>rfl) (λ_ _=>rfl) rfl rfl (N.aY.cell x ao e),λx ao e b ag=> ⟨?_,(N.aY.ca x ao e b ag).2⟩,N.aY.gm⟩,
  ⟨?_,⟨?_,N.lo.free.2⟩,N.lo.b0,N.lo.lu⟩,N.base.trans le,N.gens,N.os,N.pin⟩,le,λ_ h=>h,λ_ _=>rfl⟩
 ·dsimp only at e
  by_cases q:b=a
  ·subst q;rw[bh.gb] at e;cases e;exact aE
  ·rw[bh.f9 _ _ q] at e;exact N.aY.bE b x e
 ·have:b≠a:=λq=>by subst q;rw[DA] at e;cases e
  rw[show(⟨T.aP.ins a o,T.ax,T.σ⟩:bG).aP=T.aP.ins a o from rfl,bh.f9 _ _ this];exact(N.aY.fr b x e).2
 ·have:b≠a:=λq=>by subst q;exact aD x ao e ag
  rw[show(⟨T.aP.ins a o,T.ax,T.σ⟩:bG).aP=T.aP.ins a o from rfl,bh.f9 _ _ this];exact(N.aY.ca x ao e b ag).1
 ·obtain ⟨m,ar,hm⟩:=N.lo.ns
  exact⟨m,ar,λn av e=>let ⟨v,a1,a2⟩:=hm n av e;⟨v,a1,a2.mono le (λ_ h=>h) λ_ _=>rfl⟩⟩
 ·rw[show(⟨T.aP.ins a o,T.ax,T.σ⟩:bG).aP=T.aP.ins a o from rfl,bh.f9 _ _ (iY d6)];exact N.lo.free.1
theorem aX.vO {Γ:bM} {T:bG} {s:az} (N:aX Γ T s) (o:bW) (hf:o.isFreed=ac):
  aX Γ ⟨T.aP.ins s.heap.objs.size o,T.ax,T.σ⟩ {s with heap:=s.heap.push o}/\T.dS ⟨T.aP.ins s.heap.objs.size o,T.ax,T.σ⟩:=by
 have fresh: ∀b x,s.heap.get? b=ab x->s.heap.objs.size≠b:=λb x e q=>absurd (oO e) (by rw[q];exact HW _)
 refine(N.push o).fast (ju _ hf) ?_ ?_ ?_ ?_
 ·cases q:T.aP s.heap.objs.size with
  |none=>rfl
  |some x=>exact absurd rfl (fresh _ _ (N.aY.bE _ _ q))
 ·cases q:Γ.Fr s.heap.objs.size with
  |none=>rfl
  |some x=>exact absurd rfl (fresh _ _ (N.aY.fr _ _ q).1)
 ·obtain ⟨m,⟨ef,_,_,e,_⟩,_⟩:=N.lo.ns
  exact fresh _ _ e
 ·intro x ao e hm
  obtain ⟨ef,aq⟩:=lL (N.aY.cell x ao e) _ hm
  exact fresh _ _ aq rfl
theorem aX.store {Γ:bM} {T:bG} {s:az} (N:aX Γ T s) {h':cu} {m:a7->Option ah} {x:Nat} {av:ae} {v:ah} {t:Nat} (aW:T.A av v)
  (hm: ∀n av,gs n T.σ.loc=ab av-> ∃v,m (nm n)=ab v/\T.A av v)
  (ar:h'.Ns Γ.L (λy=>if y=nm x then ab v else m y)) (hs:Bk Γ.L s.heap h') (inj: ∀a b,nm a=nm b->a=b):
  aX Γ ⟨T.aP,T.ax,⟨nf x av T.σ.loc,T.σ.hp,T.σ.lh,T.σ.lu⟩⟩ {s with heap:=h',toks:=t}:=by
 have EV: ∀b o,T.aP b=ab o->b≠Γ.L:=λb o e q=>by subst q;rw[N.lo.free.1] at e;cases e
 refine⟨⟨λb o e=> (hs.2 b (EV b o e)).trans (N.aY.bE b o e),λb o e=> ⟨(hs.2 b λq=>by subst q;rw[N.lo.free.2] at e;cases e).trans (N.aY.fr b o e).1,(N.aY.fr b o e).2⟩,
  λy ao e=>iw (dT.refl _) (λ_ h=>h) (λ_ _=>rfl) (λa aE=> (hs.2 a λq=>by subst q;exact N.lo.b0 y ao e aE).symm) rfl rfl (N.aY.cell y ao e),N.aY.ca,N.aY.gm⟩,
  ⟨⟨_,ar,λn bv e=> ?_⟩,N.lo.free,N.lo.b0,N.lo.lu⟩,N.base,N.gens,N.os,N.pin⟩
 dsimp only at e
 rw[abi] at e
 by_cases q:n=x
 ·subst q
  rw[if_pos rfl] at e
  cases e
  exact⟨v,by simp,aW⟩
 ·rw[if_neg q] at e
  obtain ⟨w,aq,aC⟩:=hm n bv e
  exact⟨w,by show(if nm n=nm x then ab v else m (nm n))=ab w;rw[if_neg λz=>q (inj _ _ z)];exact aq,aC⟩
def St.put (σ:St) (x:Nat) (bo:cb):St:=match d4 x 100 with
 |true=> ⟨σ.loc,up x bo σ.hp,σ.lh,σ.lu⟩
 |false=> ⟨σ.loc,σ.hp,up x bo σ.lh,σ.lu⟩
theorem St.Fo (σ:St) (x:Nat) (bo:cb) (y:Nat):(σ.put x bo).g y=if y=x then ab bo else σ.g y:=by
 unfold St.put St.g
 cases q:d4 x 100 with
 |true=>
  cases r:d4 y 100 with
  |true=>exact vu x bo σ.hp y
  |false=>
   have:y≠x:=λe=>by subst e;rw[q] at r;cases r
   simp[this]
 |false=>
  cases r:d4 y 100 with
  |false=>exact vu x bo σ.lh y
  |true=>
   have:y≠x:=λe=>by subst e;rw[q] at r;cases r
   simp[this]
theorem St.adk (σ:St) (x:Nat) (bo:cb):(σ.put x bo).loc=σ.loc:=by unfold St.put;cases d4 x 100<;>rfl
theorem St.Pp (σ:St) (x:Nat) (bo:cb):(σ.put x bo).lu=σ.lu:=by unfold St.put;cases d4 x 100<;>rfl
theorem aX.Qs {Γ:bM} {T:bG} {s:az} (N:aX Γ T s) {x:Nat} {ao bo:cb} (aH:T.σ.g x=ab ao) {a:aR} (aE:a∈adr T.ax x ao) {h':cu} {t:Nat} (hs:Bk a s.heap h')
  (same:adr T.ax x bo=adr T.ax x ao) (C:lz T.aP T.ax T.U h' x bo):
  aX Γ ⟨T.aP,T.ax,T.σ.put x bo⟩ {s with heap:=h',toks:=t}/\T.dS ⟨T.aP,T.ax,T.σ.put x bo⟩:=by
 have ca:=N.aY.ca x ao aH a aE
 have dN: ∀y,T.U y->dO (T.σ.put x bo).g (T.σ.put x bo).lu y:=λy cO=>by
  rw[St.Pp]
  rcases cO with⟨aq,aC⟩ |h
  ·refine .inl ⟨?_,aC⟩
   rw[St.Fo];split
   ·rfl
   ·exact aq
  ·exact .inr h
 have ex:T.dS ⟨T.aP,T.ax,T.σ.put x bo⟩:=⟨dT.refl _,dN,λ_ _=>rfl⟩
 have EV:Γ.L≠a:=λq=>by subst q;exact N.lo.b0 x ao aH aE
 have ad: ∀y cB,(T.σ.put x bo).g y=ab cB-> ∃qC,T.σ.g y=ab qC/\adr T.ax y cB=adr T.ax y qC:=λy cB e=>by
  rw[St.Fo] at e
  by_cases q:y=x
  ·subst q;rw[if_pos rfl] at e;cases e;exact⟨ao,aH,same⟩
  ·rw[if_neg q] at e;exact⟨cB,e,rfl⟩
 refine⟨⟨⟨λb o e=> (hs.2 b λq=>by subst q;rw[ca.1] at e;cases e).trans (N.aY.bE b o e),
   λb o e=> ⟨(hs.2 b λq=>by subst q;rw[ca.2] at e;cases e).trans (N.aY.fr b o e).1,(N.aY.fr b o e).2⟩,λy cB e=> ?_,λy cB e b ag=> ?_,λy z cB qC e1 e2 ne b ag=> ?_⟩,
  ⟨?_,N.lo.free,λy cB e=> ?_,by rw[St.Pp];exact N.lo.lu⟩,N.base,N.gens,N.os,λy a e=> ⟨dN y (N.pin y a e).1,(N.pin y a e).2⟩⟩,ex⟩
 ·dsimp only at e
  rw[St.Fo] at e
  by_cases q:y=x
  ·subst q
   rw[if_pos rfl] at e
   cases e
   exact iw (dT.refl _) dN (λ_ _=>rfl) (λ_ _=>rfl) rfl rfl C
  ·rw[if_neg q] at e
   exact iw (dT.refl _) dN (λ_ _=>rfl) (λb ag=> (hs.2 b λz=>by subst z;exact N.aY.gm y x cB ao e aH q _ ag aE).symm) rfl rfl (N.aY.cell y cB e)
 ·obtain ⟨d,aq,aC⟩:=ad y cB e
  rw[aC] at ag
  exact N.aY.ca y d aq b ag
 ·obtain ⟨d1,aq,aC⟩:=ad y cB e1
  obtain ⟨dB,bz,ee⟩:=ad z qC e2
  rw[aC] at ag
  rw[ee]
  exact N.aY.gm y z d1 dB aq bz ne b ag
 ·obtain ⟨m,ar,hm⟩:=N.lo.ns
  exact⟨m,ar.sameBut hs EV,λn av e=>by
   dsimp only at e
   rw[St.adk] at e
   obtain ⟨v,a1,a2⟩:=hm n av e
   exact⟨v,a1,a2.ex ex⟩⟩
 ·obtain ⟨d,aq,aC⟩:=ad y cB e
  rw[aC]
  exact N.lo.b0 y d aq
theorem aX.turn {Γ:bM} {T:bG} {s:az} (N:aX Γ T s) {x:Nat} {ao bo:cb} (aH:T.σ.g x=ab ao) {a:aR} (aE:a∈adr T.ax x ao) {f:bW->bW} {t:Nat}
  (same:adr T.ax x bo=adr T.ax x ao) (C:lz T.aP T.ax T.U (s.heap.update a f) x bo):
  aX Γ ⟨T.aP,T.ax,T.σ.put x bo⟩ {s with heap:=s.heap.update a f,toks:=t}/\T.dS ⟨T.aP,T.ax,T.σ.put x bo⟩:=N.Qs aH aE (aiz ..) same C
end
inductive X where
 |cq|bF (b:Bool) |a5 (i:Int) |ks (s:List Nat)
 |lo (n:Nat) |gl (n:Nat)
 |at (o:X) (n:Nat)
 |cn (o i:X) |aK (o a b:X) |no
 |bin (op:mx) (a b:X)
 |cmp (op:hr) (a b:X) |fw (hS iN:hr) (a b c:X)
 |and (l:X) |or (l:X) |not (a:X) |neg (a:X)
 |j8 (c a b:X)
 |tup (l:X) |lst (l:X) |cell (x:Nat) (l:X) |o7 (x:Nat)
 |call (f args kws:X) |aG (o:X) (n:Nat) (args kws:X) |mb (c f:Nat) (args:X)
 |len (a:X) |gy (a cs:X) |vk (a:X) |rm (a:X) |sP (a:X) |tk (a:X) |mY (a b:X) |clo (n:Nat) |fmt (k:Nat) (a:X) |uY (n m:Nat)
 |cF (o a:X) |ext (o a:X) |rd (o:X) |rf (o:X) |join (s l:X) |tm (a b:X) |uJ (o:X) |uK (x:Nat) (o:X)
 |pf (a:X) |uT (a b:X) |hB (x n:Nat) (fr:List Nat) (e i:X) |vr (n:Nat) (fr:List Nat) (e i:X)
 |nil|cons (a r:X) |eZ (n:Nat) (a r:X)
inductive S where
 |exp (x:X) |aN (n:Nat) (x:X) |jB (ns:List Nat) (x:X) |a9 (o:X) (n:Nat) (x:X) |qp (o i x:X) |ast (ns:List Nat) (x:X) |se (n:Nat) (x:X)
 |gS (n:Nat) (op:mx) (x:X) |kz (o:X) (n:Nat) (op:mx) (x:X)
 |ite (c:X) (b o:S) |eR (c:X) (b:S) |fr (n:Nat) (x:X) (b:S) |qI (n:Nat) (x:X) (b:S) |sy (n m:Nat) (x:X) (b:S) |u0 (n:Nat) (x:X) (b:S)
 |ret (x:X) |rh|ta|brk|bK|try (b:S) |sb (x:X) |uu (n a m:Nat) (i:X)
 |nil|cons (a r:S)
inductive cD where
 |aQ|c0|df|hF (v:ae)
inductive At where
 |no|fn (f:Nat) |val (v:aj)
abbrev a3:=List ae->b4->(ae->b4->Prop)->Prop
structure cL where
 g:List (Nat×aj)
 ih:List (Nat×List (Nat×At))
 sub:List (Nat×List (Nat×Bool))
 mL:List (Nat×List (Nat×aj))
 a8:List (Nat×(List Nat×List (Nat×aj)))
 pt:List (Nat×a3)
 clo:List (Nat×ae)
def cL.at (S:cL) (c n:Nat):Option At:=match aL c S.ih with
 |some l=>aL n l
 |none=>af
noncomputable def fld {α:Type} (n:Nat):List Nat->List α->Option α
 |k::ns,v::l=>match bA k n with
  |true=>ab v
  |false=>fld n ns l
 |_,_=>af
noncomputable def XF (n:Nat):List Nat->List Nat
 |k::ns=>match bA k n with
  |true=>k::ns
  |false=>k::XF n ns
 | []=> [n]
noncomputable def XG {α:Type} (n:Nat) (v:α):List Nat->List α->List α
 |k::ns,w::l=>match bA k n with
  |true=>v::l
  |false=>w::XG n v ns l
 |_,_=> [v]
def SZ (n:Nat):Prop:=n<=16777216
inductive aB:Type 1 where
 |hP
 |ret (P:Prop)
 |sh (b:Bool) (A B:aB)
 |dP (P:Prop) (k:aB)
 |opt {α:Type} (o:Option α) (k:α->aB)
 |sub {α β:Type} (W:(α->β->Prop)->Prop) (k:α->β->aB)
def aB.holds:aB->Prop
 | .hP=>False
 | .ret P=>P
 | .sh b A B=>cond b A.holds B.holds
 | .dP P k=>P/\k.holds
 | .opt o k=> ∃a,o=ab a/\(k a).holds
 | .sub W k=>W λa b=> (k a b).holds
def aJ {α β:Type} (W:(α->β->Prop)->Prop) (a:α) (b:β):Prop:= ∀K:α->β->Prop,K a b->W K
def aB.path (G:Prop):aB->Prop
 | .hP=>True
 | .ret P=>P->G
 | .sh b A B=> ∀r,b=r->cond r (A.path G) (B.path G)
 | .dP P k=>P->k.path G
 | .opt o k=> ∀a,o=ab a->(k a).path G
 | .sub W k=> ∀a b,aJ W a b->(k a b).path G
theorem aB.rb {G:Prop}: ∀c:aB,(c.holds->G)->c.path G:=λc=>by
 induction c with
 |hP=>exact λ_=>trivial
 |ret P=>exact id
 |sh b A B Y1 Y2=>exact λh r e=>by subst e;cases b with
  |true=>exact Y1 h
  |false=>exact Y2 h
 |dP P k ai=>exact λh p=>ai λq=>h ⟨p,q⟩
 |opt o k ai=>exact λh a e=>ai a λq=>h ⟨a,e,q⟩
 |sub W k ai=>exact λh a b r=>ai a b λq=>h (r _ q)
noncomputable def ct {α:Type} (o:Option α) (k:α->aB):aB:=match o with
 |some a=>k a
 |none=> .hP
theorem dp {α:Type} {o:Option α} {k:α->aB} (h:(ct o k).holds): ∃a,o=ab a/\(k a).holds:=by
 cases o with
 |none=>exact h.elim
 |some a=>exact⟨a,rfl,h⟩
noncomputable def nW (o:Option Prop) (k:aB):aB:=match o with
 |some P=> .dP P k
 |none=>k
noncomputable def hg (b:Bool) (k:aB):aB:=match b with
 |true=>k
 |false=> .hP
theorem gq {b:Bool} {k:aB} (h:(hg b k).holds):b=aa/\k.holds:=by
 cases b with
 |false=>exact h.elim
 |true=>exact⟨rfl,h⟩
noncomputable def ask {α:Type} (r:Bool) (σ:α) (K:Bool->α->aB):aB:= .sh r (K aa σ) (K ac σ)
theorem nI {α:Type} {r:Bool} {σ:α} {K:Bool->α->aB} (h:(ask r σ K).holds):(K r σ).holds:=by cases r<;>exact h
theorem aiH {o:Option Prop} {k:aB} (h:(nW o k).holds):(∀P,o=ab P->P)/\k.holds:=by
 cases o with
 |none=>exact⟨λ_ e=> (by cases e),h⟩
 |some P=>exact⟨λ_ e=> (by cases e;exact h.1),h.2⟩
noncomputable def tB {α:Type} (n:Nat) (v:α):List (Nat×α)->(List (Nat×α)->aB)->aB
 | [],k=>k [(n,v)]
 |p::r,k=>match bA p.1 n with
  |true=>k ((n,v)::r)
  |false=>tB n v r λr=>k (p::r)
theorem GW {α:Type} {n:Nat} {v:α}: ∀(l:List (Nat×α)) (k:List (Nat×α)->aB),tB n v l k=k (up n v l):=λl=>by
 induction l with
 |nil=>exact λk=>rfl
 |cons p r ai=>
  intro k
  show(match bA p.1 n with
   |true=>k ((n,v)::r)
   |false=>tB n v r λr=>k (p::r))=k (match bA p.1 n with
   |true=> (n,v)::r
   |false=>p::up n v r)
  cases bA p.1 n with
  |true=>rfl
  |false=>exact ai _
noncomputable def yz {α:Type} (n:Nat) (v:α):List Nat->List α->(List Nat->List α->aB)->aB
 |m::ns,w::l,k=>match bA m n with
  |true=>k (m::ns) (v::l)
  |false=>yz n v ns l λns l=>k (m::ns) (w::l)
 | [],[],k=>k [n] [v]
 |_,_,_=> .hP
def putK (σ:St) (x:Nat) (ao:cb) (k:St->aB):aB:=match d4 x 100 with
 |true=>tB x ao σ.hp λhp=>k ⟨σ.loc,hp,σ.lh,σ.lu⟩
 |false=>tB x ao σ.lh λlh=>k ⟨σ.loc,σ.hp,lh,σ.lu⟩
theorem Fn {σ:St} {x:Nat} {ao:cb} {k:St->aB}:putK σ x ao k=k (σ.put x ao):=by
 unfold putK St.put
 cases d4 x 100 with
 |true=>exact GW _ _
 |false=>exact GW _ _
def stK (σ:St) (n:Nat) (v:ae) (k:St->aB):aB:=tB n (ab v) σ.loc λloc=>k ⟨loc,σ.hp,σ.lh,σ.lu⟩
noncomputable def aM:List Nat->List Nat->Bool
 | [],[]=>aa
 |a::x,b::y=>bA a b&&aM x y
 |_,_=>ac
theorem gL {x:List Nat}: ∀{y:List Nat},aM x y=aa↔x=y:=by
 induction x with
 |nil=>exact λ{y}=>by cases y with
  |nil=>exact⟨λ_=>rfl,λ_=>rfl⟩
  |cons _ _=>exact⟨λh=> (by cases h),λh=> (by cases h)⟩
 |cons a x ai=>
  intro y
  cases y with
  |nil=>exact⟨λh=> (by cases h),λh=> (by cases h)⟩
  |cons b y=>exact⟨λh=>have h:=fV.mp h;by rw[fg h.1,ai.mp h.2],λh=>fV.mpr ⟨(gv h).1▸Ba a,ai.mpr (gv h).2⟩⟩
noncomputable def ek:List Nat->List Nat->Bool
 | [],[]=>ac
 | [],_::_=>aa
 |_::_,[]=>ac
 |a::x,b::y=>d4 a b|| (bA a b&&ek x y)
noncomputable def pre:List Nat->List Nat->Bool
 | [],_=>aa
 |_::_,[]=>ac
 |a::x,b::y=>bA a b&&pre x y
noncomputable def bO (x:List Nat):List Nat->Bool
 | []=>pre x []
 |b::y=>pre x (b::y) ||bO x y
noncomputable def cm {α:Type} (l:List α):Bool:=gF l.length 1000000
noncomputable def sZ {α:Type}:List α->Bool
 | []=>ac
 |_::_=>aa
def rr {α:Type} (l:List α):Option Prop×Bool:=(ab (cm l=aa),sZ l)
def ag4:aj->Option (Option Prop×Bool)
 | .none=>ab (af,ac)
 | .bool b=>ab (af,b)
 | .int i=>ab (af, !decide (i=0))
 | .str s=>ab (af,sZ s)
 | .tup l=>ab (rr l)
 | .lst l=>ab (rr l)
 | .ei _ l=>ab (rr l)
 |_=>af
noncomputable def T7:ae->Option Nat
 | .ap x=>ab x
 |_=>af
noncomputable def ur:ae->Option aj
 | .f v=>ab v
 |_=>af
noncomputable def ha:ae->Option Int
 | .f (.int i)=>ab i
 |_=>af
noncomputable def Jl:ae->Option Nat
 | .f (.int (.ofNat i))=>ab i
 |_=>af
noncomputable def ig:ae->Option (List Nat)
 | .f (.str x)=>ab x
 |_=>af
noncomputable def r8:ae->Option (List aj)
 | .f (.lst l)=>ab l
 |_=>af
noncomputable def Jm:ae->Option (List aj)
 | .f (.tup l)=>ab l
 |_=>af
noncomputable def Ce:ae->Option (List (List Nat)×List aj)
 | .f (.ei ks l)=>ab (ks,l)
 |_=>af
noncomputable def Jh:cb->Option (List ae)
 | .list l=>ab l
 |_=>af
noncomputable def Jg:cb->Option (List (List Nat)×List ae)
 | .dict ks l=>ab (ks,l)
 |_=>af
noncomputable def xA:cb->Option (Nat×List Nat×List ae)
 | .inst c ns l=>ab (c,ns,l)
 |_=>af
def aY (σ:St) (v:ae):Option cb:=match T7 v with
 |some x=>σ.g x
 |none=>af
def ia (σ:St) (v:ae):Option (List ae):=match aY σ v with
 |some ao=>Jh ao
 |none=>af
def nO (σ:St) (v:ae):Option (List (List Nat)×List ae):=match aY σ v with
 |some ao=>Jg ao
 |none=>af
noncomputable def idOf:ae->Nat
 | .ap x=>x
 |_=>0
def ag3 (σ:St):ae->Option (Option Prop×Bool)
 | .f v=>ag4 v
 | .dy _ _=>ab (af,aa)
 | .ap x=>match σ.g x with
  |some (.list l)=>ab (rr l)
  |some (.dict _ l)=>ab (rr l)
  |_=>af
structure M where
 x:St->(ae->St->aB)->aB
 t:St->(Bool->St->aB)->aB
 l:St->(List ae->St->aB)->aB
 k:St->(List (Nat×ae)->St->aB)->aB
 a:St->(Bool->St->aB)->aB
 o:St->(Bool->St->aB)->aB
 av:St->(ae->St->aB)->aB
 e3:St->(ae->St->aB)->aB
noncomputable def M.bad:M:=⟨λ_ _=> .hP,λ_ _=> .hP,λ_ _=> .hP,λ_ _=> .hP,λ_ _=> .hP,λ_ _=> .hP,λ_ _=> .hP,λ_ _=> .hP⟩
def v7 (v:ae) (σ:St) (K:Bool->St->aB):aB:=ct (ag3 σ v) λr=>nW r.1 (ask r.2 σ K)
def M.val (x:St->(ae->St->aB)->aB):M:={M.bad with x:=x,t:=λσ K=>x σ λv σ'=>v7 v σ' K}
def M.tp (x:St->(ae->St->aB)->aB) (t:St->(Bool->St->aB)->aB):M:={M.bad with x:=x,t:=t}
def kd {α:Type} (n:Nat) (ns:List Nat) (l:List α) (r:ae):Option ae:=match fld n ns l with
 |some _=>af
 |none=>ab r
def ux (T:cL) (n:Nat) (v:ae) (σ:St):Option ae:=match v with
 | .ap x=>match σ.g x with
  |some (.inst c ns l)=>match T.at c n with
   |some .no=>fld n ns l
   |some (.fn f)=>kd n ns l (.dy x f)
   |some (.val w)=>kd n ns l (.f w)
   |none=>af
  |_=>af
 | .f (.inst c ns l)=>match T.at c n with
  |some .no=> (fld n ns l).map .f
  |some (.val w)=>kd n ns l (.f w)
  |_=>af
 | .f (.st c)=>match aL c T.mL with
  |some t=> (aL n t).map .f
  |none=>af
 |_=>af
def P2 (T:cL) (n:Nat) (o:ae) (σ:St):Option (Nat×List Nat×List ae):=match aY σ o with
 |some (.inst c ns l)=>match T.at c n with
  |some .no=>ab (c,ns,l)
  |_=>af
 |_=>af
def vX (T:cL) (n:Nat) (o v:ae) (σ:St) (K:St->aB):aB:=ct (P2 T n o σ) λi=>hg (gF i.2.1.length 100&&glob v) (yz n v i.2.1 i.2.2 λns l=>putK σ (idOf o) (.inst i.1 ns l) K)
noncomputable def gw (ds:List (Nat×aj)):List Nat->List ae->List (Nat×ae)->Option (List ae)
 | [],[],_=>ab []
 | [],_::_,_=>af
 |p::a8,v::vs,kw=>match aL p kw with
  |none=>match gw ds a8 vs kw with
   |some r=>ab (v::r)
   |none=>af
  |some _=>af
 |p::a8,[],kw=>match aL p kw with
  |some v=>match gw ds a8 [] kw with
   |some r=>ab (v::r)
   |none=>af
  |none=>match aL p ds with
   |some d=>match gw ds a8 [] kw with
    |some r=>ab (.f d::r)
    |none=>af
   |none=>af
noncomputable def lM:List ae->Bool
 | []=>aa
 |v::r=>glob v&&lM r
noncomputable def o2:List (Nat×ae)->Bool
 | []=>aa
 |p::r=>glob p.2&&o2 r
noncomputable def iL (n:Nat):List Nat->Bool
 | []=>ac
 |m::l=>bA m n||iL n l
noncomputable def lk (rest:List Nat):List (Nat×ae)->Bool
 | []=>aa
 |p::r=>iL p.1 rest&&(match aL p.1 r with
  |none=>aa
  |some _=>ac)&&lk rest r
noncomputable def k6 {α:Type}:List Nat->List α->List Nat
 |a8,[]=>a8
 | [],_::_=> []
 |_::a8,_::l=>k6 a8 l
def mK (T:cL) (a:Nat) (pos:List ae) (kw:List (Nat×ae)):Option (a3×List ae):=match aL a T.a8 with
 |some p=>match aL a T.pt with
  |some pt=>match lM pos&&(o2 kw&&lk (k6 p.1 pos) kw) with
   |true=> (gw p.2 p.1 pos kw).map λl=> (pt,l)
   |false=>af
  |none=>af
 |none=>af
def CF (T:cL) (f:ae) (pos:List ae) (kw:List (Nat×ae)):Option (a3×List ae):=match f with
 | .f (.st a)=>mK T a pos kw
 | .dy x a=>match aL a T.ih with
  |none=>mK T a (.ap x::pos) kw
  |some _=>af
 |_=>af
def nK (T:cL) (f:ae) (pos:List ae) (kw:List (Nat×ae)) (σ:St) (K:ae->St->aB):aB:=ct (CF T f pos kw) λc=> .sub (c.1 c.2 σ.hp) λr dn=>hg (glob r) (K r ⟨σ.loc,dn,σ.lh,σ.lu⟩)
def Uk (op:mx) (a b:ae):Option (Option Prop×ae):=match op with
 | .Add=>match a with
  | .f (.int i)=> (ha b).map λj=> (af,.f (.int (i+j)))
  | .f (.str x)=> (ig b).map λy=> (ab (SZ (x++y).length),.f (.str (x++y)))
  |_=>af
 | .Sub=>match ha a with
  |some i=> (ha b).map λj=> (af,.f (.int (i-j)))
  |none=>af
 | .Mod=>match ha a with
  |some i=> (ha b).map λj=> (ab (0<j),.f (.int (i%j)))
  |none=>af
 | .FloorDiv=>match ha a with
  |some i=> (ha b).map λj=> (ab (0<j/\j<10000),.f (.int (i/j)))
  |none=>af
 | .Mult=>match ig a with
  |some [c]=> (ha b).map λn=> (ab (-1000<n/\n<1000),.f (.str (gP n.toNat c)))
  |_=>af
 |_=>af
def o5 (op:mx) (a b:ae) (K:ae->aB):aB:=ct (Uk op a b) λr=>nW r.1 (K r.2)
noncomputable def MT:ae->Option Bool
 | .f .none=>ab aa
 | .f .any=>af
 | .f (.dd _)=>af
 |_=>ab ac
noncomputable def MQ (c:Bool):ae->Option Bool
 | .f .none=>ab ac
 | .f (.bool b)=>ab (b==c)
 |_=>af
noncomputable def O0:Option Bool->Option Bool
 |some b=>ab (!b)
 |none=>af
noncomputable def CL (op:hr) (i j:Int):Option Bool:=match op with
 | .Eq=>ab (decide (i=j))
 | .NotEq=>ab (!decide (i=j))
 | .Lt=>ab (decide (i<j))
 | .LtE=>ab (decide (i<=j))
 | .Gt=>ab (decide (i>j))
 | .GtE=>ab (decide (i≥j))
 |_=>af
def CM (op:hr) (x y:List Nat):Option Bool:=match op with
 | .Eq=>ab (aM x y)
 | .NotEq=>ab (!aM x y)
 | .Lt=>ab (ek x y)
 | .LtE=>ab (!ek y x)
 | .In=>ab (bO x y)
 | .NotIn=>ab (!bO x y)
 |_=>af
def yt:aj->aj->Option Bool
 | .none,.none=>ab aa
 | .int i,.int j=>ab (decide (i=j))
 | .str x,.str y=>ab (aM x y)
 | .none,.str _=>ab ac
 | .str _,.none=>ab ac
 | .none,.int _=>ab ac
 | .int _,.none=>ab ac
 |_,_=>af
noncomputable def kH (v:aj):List aj->Option Bool
 | []=>ab ac
 |w::l=>match yt w v,kH v l with
  |some b,ab c=>ab (b||c)
  |_,_=>af
noncomputable def ik (x:List Nat):List (List Nat)->Bool
 | []=>ac
 |k::ks=>aM k x||ik x ks
def vh (a b:ae):Option Bool:=match b with
 | .f .none=>MT a
 | .f (.bool c)=>MQ c a
 |_=>af
noncomputable def sl:hr->Option Bool
 | .Eq=>ab ac
 |_=>af
def inD (op:hr) (x:List Nat) (ks:List (List Nat)):Option Bool:=match op with
 | .In=>ab (ik x ks)
 | .NotIn=>ab (!ik x ks)
 |_=>af
noncomputable def DO (op:hr) (ks:List (List Nat)):Option Bool:=match op with
 | .In=>cond ks.isEmpty (ab ac) af
 |_=>af
def Lo (op:hr) (a b:ae) (σ:St):Option Bool:=match op with
 | .Is=>vh a b
 | .IsNot=>O0 (vh a b)
 |op=>match a with
  | .f (.int i)=>match b with
   | .f (.int j)=>CL op i j
   | .ap d=> (nO σ (.ap d)).bind λe=>DO op e.1
   |_=>af
  | .f (.str x)=>match b with
   | .f (.str y)=>CM op x y
   | .f .none=>sl op
   | .ap d=> (nO σ (.ap d)).bind λe=>inD op x e.1
   |_=>af
  | .f .none=>match b with
   | .f (.str _)=>sl op
   | .f (.int _)=>sl op
   |_=>af
  |_=>af
noncomputable def tf:ae->Option (List aj)
 | .f (.lst l)=>ab l
 | .f (.tup l)=>ab l
 |_=>af
def EM (op:hr) (a b:ae):Option (Bool×aj×List aj):=match op with
 | .In=> (tf b).bind λl=> (ur a).map λx=> (aa,x,l)
 | .NotIn=> (tf b).bind λl=> (ur a).map λx=> (ac,x,l)
 |_=>af
def o8 (op:hr) (a b:ae) (σ:St) (k:Bool->aB):aB:=match EM op a b with
 |some m=> .opt (kH m.2.1 m.2.2) λb=>k (cond m.1 b (!b))
 |none=>ct (Lo op a b σ) k
noncomputable def gd {α:Type} (l:List α):Int->Option α
 | .ofNat n=>l[n]?
 | .negSucc n=>match gF (n+1) l.length with
  |true=>l[l.length- (n+1)]?
  |false=>af
noncomputable def si {α:Type} (k:List Nat):List (List Nat)->List α->Option α
 |x::ks,v::l=>match aM x k with
  |true=>ab v
  |false=>si k ks l
 |_,_=>af
def mU (v i:ae) (σ:St):Option ae:=match v with
 | .f (.str x)=>match i with
  | .f (.int i)=>match gd x i with
   |some c=>ab (.f (.str [c]))
   |none=>af
  |_=>af
 | .f (.tup l)=>match i with
  | .f (.int i)=>match cm l with
   |true=>match gd l i with
    |some v=>ab (.f v)
    |none=>af
   |false=>af
  |_=>af
 | .f (.lst l)=>match i with
  | .f (.int i)=>match cm l with
   |true=>match gd l i with
    |some v=>ab (.f v)
    |none=>af
   |false=>af
  |_=>af
 | .f (.ei ks l)=>match i with
  | .f (.str k)=>match si k ks l with
   |some v=>ab (.f v)
   |none=>af
  |_=>af
 | .ap y=>match i with
  | .f (.int i)=>match σ.g y with
   |some (.list l)=>match cm l with
    |true=>gd l i
    |false=>af
   |_=>af
  |_=>af
 |_=>af
noncomputable def NU {α:Type} (l:List α):aj->Option Nat
 | .none=>ab 0
 | .int (.ofNat k)=>ab k
 | .int (.negSucc k)=>ab (l.length- (k+1))
 |_=>af
noncomputable def Mr {α:Type} (l:List α):aj->Option Nat
 | .none=>ab l.length
 | .int (.ofNat k)=>ab k
 | .int (.negSucc k)=>ab (l.length- (k+1))
 |_=>af
def iu {α:Type} (l:List α) (a b:aj):Option (List α):=match NU l a,Mr l b with
 |some lo,ab bj=>ab ((l.drop lo).take (bj-lo))
 |_,_=>af
noncomputable def eL:List ae->Option (List aj)
 | []=>ab []
 | .f v::l=>match eL l with
  |some r=>ab (v::r)
  |none=>af
 |_=>af
def ti (v a b:ae) (σ:St):Option ae:=match a with
 | .f a=>match b with
  | .f b=>match v with
   | .f (.str x)=>match iu x a b with
    |some r=>ab (.f (.str r))
    |none=>af
   | .f (.lst l)=>match cm l with
    |true=>match iu l a b with
     |some r=>ab (.f (.lst r))
     |none=>af
    |false=>af
   | .ap y=>match σ.g y with
    |some (.list l)=>match cm l with
     |true=>match eL l with
      |some l=>match iu l a b with
       |some r=>ab (.f (.lst r))
       |none=>af
      |none=>af
     |false=>af
    |_=>af
   |_=>af
  |_=>af
 |_=>af
def NA (v:ae) (σ:St):Option (Option Prop×Nat):=match v with
 | .f (.str x)=>ab (af,x.length)
 | .f (.lst l)=>ab (ab (cm l=aa),l.length)
 |v=> (ia σ v).map λl=> (ab (cm l=aa),l.length)
noncomputable def Fc:Option Bool->Option Bool->Option Bool
 |some a,ab b=>ab (a||b)
 |_,_=>af
def DY (T:cL) (v c:ae):Option Bool:=match v with
 | .f (.inst d _ _)=>match aL d T.sub with
  |some m=>match c with
   | .f (.st e)=>aL e m
   | .f (.tup [.st e,.st g])=>Fc (aL e m) (aL g m)
   |_=>af
  |none=>af
 |_=>af
def St.add (σ:St) (y:Nat) (ao:cb):St:=match d4 y 100 with
 |true=> ⟨σ.loc,up y ao σ.hp,σ.lh,σ.lu⟩
 |false=> ⟨σ.loc,σ.hp,up y ao σ.lh,y::σ.lu⟩
def St.free (σ:St) (y:Nat):Bool:=match σ.g y with
 |some _=>ac
 |none=> !iL y σ.lu
def newId (σ:St) (x:Nat):Option Nat:=match σ.free x with
 |true=>ab x
 |false=>match σ.free (x+1) with
  |true=>ab (x+1)
  |false=>match σ.free (x+2) with
   |true=>ab (x+2)
   |false=>af
noncomputable def aZ:List (List Nat)->List Nat
 | []=> []
 |x::r=>x++aZ r
noncomputable def kM:List aj->Option (List (List Nat))
 | []=>ab []
 | .str x::r=>match kM r with
  |some l=>ab (x::l)
  |none=>af
 |_=>af
def DZ (v:ae) (σ:St):Option (List (List Nat)):=match v with
 | .f (.lst l)=>kM l
 |v=>match ia σ v with
  |some l=>match eL l with
   |some fs=>kM fs
   |none=>af
  |none=>af
noncomputable def fX {α:Type} (k:List Nat) (v:α):List (List Nat)->List α->List (List Nat)×List α
 |x::ks,w::l=>match aM x k with
  |true=> (x::ks,v::l)
  |false=>match fX k v ks l with
   |r=> (x::r.1,w::r.2)
 |_,_=> ([k],[v])
noncomputable def DT {α:Type}:List α->List α
 | []=> []
 | [_]=> []
 |a::b::r=>a::DT (b::r)
noncomputable def D5 {α:Type}:List α->Option α
 | []=>af
 | [a]=>ab a
 |_::b::r=>D5 (b::r)
def St.st (σ:St) (n:Nat) (v:ae):St:=⟨nf n v σ.loc,σ.hp,σ.lh,σ.lu⟩
noncomputable def dl {α:Type} (n:Nat):List (Nat×α)->List (Nat×α)
 | []=> []
 |p::r=>match bA p.1 n with
  |true=>dl n r
  |false=>p::dl n r
def St.del (σ:St) (y:Nat):St:=⟨σ.loc,σ.hp,dl y σ.lh,σ.lu⟩
noncomputable def ET (i j:Int):Int:=match decide (j>i) with
 |true=>j
 |false=>i
noncomputable def dv (n:Nat):List Nat:=match d4 n 10 with
 |true=> [48+n]
 |false=> [48+n/10,48+n%10]
noncomputable def mN (c:Nat):Option Nat:=match gF 48 c&&gF c 57 with
 |true=>ab (c-48)
 |false=>af
def wl:List Nat->Option Nat
 | [a]=>mN a
 | [a,b]=>match mN a,mN b with
  |some x,ab y=>ab (10*x+y)
  |_,_=>af
 |_=>af
noncomputable def r9:List (List Nat)->Bool
 | []=>aa
 | [_]=>aa
 |a::b::r=>ek a b&&r9 (b::r)
def LX (k:Nat) (v:aj):Option (Prop×List Nat):=match k with
 |0=> (ig (.f v)).map λx=> (x.length<=1000,[37,89,65,77,76,32]++x)
 |2=>match v with
  | .tup [.int (.ofNat i),.int (.ofNat j)]=>ab (i<100/\j<100,dv i++(46::dv j))
  |_=>af
 |_=>af
noncomputable def Ca:List aj->Bool
 | []=>aa
 | .str _::l=>Ca l
 |_=>ac
mutual
noncomputable def sm (n:Nat):aj->Bool
 | .none=>aa
 | .bool _=>aa
 | .int _=>aa
 | .str _=>aa
 | .tup l=>match n with
  |0=>ac
  |m+1=>kD m l
 | .ei _ l=>cm l&&Ca l
 |_=>ac
noncomputable def kD (n:Nat):List aj->Bool
 | []=>aa
 |v::l=>sm n v&&kD n l
end
def jD (b:ae->St->(Option ae->St->aB)->aB):List ae->List ae->St->(List ae->St->Prop)->Prop
 | [],acc,σ,K=>K acc σ
 |v::l,acc,σ,K=> (b v σ λo σ=>match o with
  |none=> .ret (jD b l acc σ K)
  |some u=> .dP (glob u=aa) (.ret (jD b l (acc++ [u]) σ K))).holds
noncomputable def pW (n:Nat) (b:St->(ae->St->aB)->aB) (v:ae) (σ:St) (K:Option ae->St->aB):aB:=b ⟨[(n,ab v)],σ.hp,σ.lh,σ.lu⟩ λu σ'=>K (ab u) ⟨σ.loc,σ'.hp,σ'.lh,σ'.lu⟩
noncomputable def v8 (v:ae) (σ:St) (K:Option ae->St->aB):aB:=match v with
 | .f (.tup [.str a,_])=>match a with
  | []=>K af σ
  |c::r=>K (ab (.f (.str (c::r)))) σ
 |_=> .hP
noncomputable def x1 (fr:List Nat):List (Nat×ae)->Bool
 | []=>aa
 |p::r=>iL p.1 fr&&x1 fr r
noncomputable def uH (l:List (Nat×ae)):List Nat->Bool
 | []=>aa
 |n::r=> (match aL n l with
  |some _=>aa
  |none=>ac)&&uH l r
noncomputable def lY:List aj->Option (List aj)
 | []=>ab []
 | .tup [.str a,_]::r=>match lY r with
  |some l=>match a with
   | []=>ab l
   |_::_=>ab (.str a::l)
  |none=>af
 |_=>af
noncomputable def n9 (a:Int):Nat->List ae
 |0=> []
 |n+1=> .f (.int a)::n9 (a+1) n
noncomputable def qy:List Nat->List ae
 | []=> []
 |c::r=> .f (.str [c])::qy r
noncomputable def y6:List (List Nat)->List ae
 | []=> []
 |k::r=> .f (.str k)::y6 r
def Zq (v:ae) (σ:St):Option (List ae):=match v with
 | .f (.str s)=>ab (qy s)
 | .f (.lst l)=>ab (l.map .f)
 | .f (.ei ks _)=>ab (y6 ks)
 | .ap y=>match σ.g y with
  |some (.dict [] _)=>ab []
  |_=>af
 |_=>af
noncomputable def pd (i:Nat):List Nat->List (ae×ae)
 | []=> []
 |c::r=> (.f (.int (.ofNat i)),.f (.str [c]))::pd (i+1) r
noncomputable def y2:ae->Bool
 | .dy _ _=>aa
 |_=>ac
noncomputable def isNil:X->Bool
 | .nil=>aa
 |_=>ac
noncomputable def ev (T:cL):X->M
 | .cq=> .val λσ K=>K (.f .none) σ
 | .bF b=> .val λσ K=>K (.f (.bool b)) σ
 | .a5 i=> .val λσ K=>K (.f (.int i)) σ
 | .ks s=> .val λσ K=>hg (gF s.length 1000) (K (.f (.str s)) σ)
 | .lo n=> .val λσ K=>ct (gs n σ.loc) λv=>K v σ
 | .gl n=> .val λσ K=>ct (aL n T.g) λv=>K (.f v) σ
 | .at o n=> .val λσ K=> (ev T o).x σ λv σ=>ct (ux T n v σ) λr=>K r σ
 | .bin op a b=> .val λσ K=> (ev T a).x σ λv σ=> (ev T b).x σ λw σ=>o5 op v w λr=>K r σ
 | .cmp op a b=>
  .tp (λσ K=> (ev T a).x σ λv σ=> (ev T b).x σ λw σ=>o8 op v w σ λr=>K (.f (.bool r)) σ)
   λσ K=> (ev T a).x σ λv σ=> (ev T b).x σ λw σ=>o8 op v w σ λr=>ask r σ K
 | .cn o i=> .val λσ K=> (ev T o).x σ λv σ=> (ev T i).x σ λw σ=> .opt (mU v w σ) λr=>K r σ
 | .aK o a b=> .val λσ K=> (ev T o).x σ λv σ=> (ev T a).x σ λlo σ=> (ev T b).x σ λbj σ=> .opt (ti v lo bj σ) λr=>K r σ
 | .no=> .val λσ K=>K (.f .none) σ
 | .neg a=> .val λσ K=> (ev T a).x σ λv σ=>ct (ha v) λi=>K (.f (.int (-i))) σ
 | .fw hS iN a b c=>
  .tp (λσ K=> (ev T a).x σ λu σ=> (ev T b).x σ λv σ=>o8 hS u v σ λr=> .sh r ((ev T c).x σ λw σ=>o8 iN v w σ λr=>K (.f (.bool r)) σ) (K (.f (.bool ac)) σ))
   λσ K=> (ev T a).x σ λu σ=> (ev T b).x σ λv σ=>o8 hS u v σ λr=> .sh r ((ev T c).x σ λw σ=>o8 iN v w σ λr=>ask r σ K) (K ac σ)
 | .tup l=> .val λσ K=> (ev T l).l σ λvs σ=>ct (eL vs) λfs=>hg (cm fs) (K (.f (.tup fs)) σ)
 | .lst l=> .val λσ K=> (ev T l).l σ λvs σ=>ct (eL vs) λfs=>hg (cm fs) (K (.f (.lst fs)) σ)
 | .len a=> .val λσ K=> (ev T a).x σ λv σ=>ct (NA v σ) λn=>nW n.1 (K (.f (.int n.2)) σ)
 | .gy a c=> .val λσ K=> (ev T a).x σ λv σ=> (ev T c).x σ λw σ=>ct (DY T v w) λr=>K (.f (.bool r)) σ
 | .vk a=> .val λσ K=> (ev T a).x σ λv σ=>ct (ig v) λ_=>K (.f (.bool aa)) σ
 | .cell x l=> .val λσ K=> (ev T l).l σ λvs σ=> .opt (newId σ x) λy=>hg (cm vs&&lM vs) (K (.ap y) (σ.add y (.list vs)))
 | .o7 x=> .val λσ K=> .opt (newId σ x) λy=>K (.ap y) (σ.add y (.dict [] []))
 | .cF o a=> .val λσ K=> (ev T o).x σ λv σ=>ct (ia σ v) λ_=> (ev T a).x σ λu σ=>ct (ia σ v) λl=> .dP (cm l=aa) (hg (glob u) (putK σ (idOf v) (.list (l++ [u])) (K (.f .none))))
 | .ext o a=> .val λσ K=> (ev T o).x σ λv σ=>ct (ia σ v) λ_=> (ev T a).x σ λu σ=>ct (ia σ v) λl=>ct (r8 u) λm=> .dP (cm l=aa/\cm m=aa) (putK σ (idOf v) (.list (l++m.map .f)) (K (.f .none)))
 | .rd o=> .val λσ K=> (ev T o).x σ λv σ=>ct (ia σ v) λl=>ct l.head? λu=> .dP (cm l=aa) (putK σ (idOf v) (.list l.tail) (K u))
 | .rf o=> .val λσ K=> (ev T o).x σ λv σ=>ct (ia σ v) λl=> .opt (D5 l) λu=> .dP (cm l=aa) (putK σ (idOf v) (.list (DT l)) (K u))
 | .join s l=> .val λσ K=> (ev T s).x σ λv σ=>ct (ig v) λz=>hg z.isEmpty ((ev T l).x σ λu σ=> .opt (DZ u σ) λxs=> .dP (SZ (aZ xs).length) (K (.f (.str (aZ xs))) σ))
 | .tm a b=> .val λσ K=> (ev T a).x σ λv σ=>ct (ig v) λx=> (ev T b).x σ λu σ=>ct (ig u) λy=>K (.f (.bool (pre y x))) σ
 | .clo n=> .val λσ K=>ct (aL n T.clo) λv=>K v σ
 | .mY a b=> .val λσ K=> (ev T a).x σ λv σ=> (ev T b).x σ λw σ=>ct (ha v) λi=>ct (ha w) λj=>K (.f (.int (ET i j))) σ
 | .rm a=> .val λσ K=> (ev T a).x σ λv σ=>ct (Jl v) λn=> .dP (n<100) (K (.f (.str (dv n))) σ)
 | .sP a=> .val λσ K=> (ev T a).x σ λv σ=>ct (ig v) λx=> .opt (wl x) λn=>K (.f (.int (.ofNat n))) σ
 | .tk a=> .val λσ K=> (ev T a).x σ λv σ=>ct (Ce v) λd=> .dP ((r9 d.1&&gF d.1.length 60)=aa) (K (.f (.lst (d.1.map .str))) σ)
 | .uY n m=> .val λσ K=>ct ((gs n σ.loc).bind ig) λx=>ct ((gs m σ.loc).bind ig) λy=> .dP (x.length<=1000/\y.length<=1000) (K (.f (.str ([37,84,65,71,32]++(x++(32::y))))) σ)
 | .fmt k a=> .val λσ K=> (ev T a).x σ λv σ=>ct (ur v) λv=>ct (LX k v) λr=> .dP r.1 (K (.f (.str r.2)) σ)
 | .uK x o=> .val λσ K=> (ev T o).x σ λv σ=>ct (Ce v) λd=> .opt (newId σ x) λy=> .dP (cm d.2=aa) (K (.ap y) (σ.add y (.dict d.1 (d.2.map .f))))
 | .uJ o=> .val λσ K=> (ev T o).x σ λv σ=>ct (nO σ v) λd=> .opt (eL d.2) λfs=> .dP (cm d.2=aa) (K (.f (.ei d.1 fs)) σ)
 | .pf a=> .val λσ K=> (ev T a).x σ λv σ=>ct (ia σ v) λl=> .opt (eL l) λfs=>hg (gF 100 (idOf v)) (K (.f (.lst fs)) (σ.del (idOf v)))
 | .uT a b=> {M.bad with x:=λσ K=> (ev T a).x σ λv σ=> (ev T b).x σ λw σ=>ct (ia σ v) λl=>ct (ia σ w) λm=> .opt (eL l) λfs=> .dP ((m=l/\cm l=aa)/\kD 3 fs=aa) (K (.f (.bool aa)) σ)}
 | .mb c f args=> .val λσ K=>ct (gs 37 σ.loc) λv=>ct ((aY σ v).bind xA) λi=>hg (bA i.1 c) ((ev T args).l σ λvs σ=>nK T (.dy (idOf v) f) vs [] σ K)
 | .hB x n fr e i=> .val λσ K=>hg (x1 fr T.clo&&uH T.clo fr) ((ev T i).x σ λv σ=>ct (r8 v) λl=> .dP (cm l=aa) (.sub (jD (pW n (ev T e).x) (l.map .f) [] σ) λvs σ=> .opt (newId σ x) λy=>K (.ap y) (σ.add y (.list vs))))
 | .vr n fr e i=> .val λσ K=>hg (x1 fr T.clo&&uH T.clo fr) ((ev T i).x σ λv σ=>ct (ha v) λi=> .dP (-1000000<=i/\i<=1000000) (.sub (jD (pW n (ev T e).x) (n9 0 i.toNat) [] σ) λvs σ=> .opt (eL vs) λfs=>K (.f (.lst fs)) σ))
 | .not a=> .tp (λσ K=> (ev T a).x σ λv σ=>v7 v σ λb σ=>K (.f (.bool (!b))) σ) λσ K=> (ev T a).t σ λb σ=>K (!b) σ
 | .and l=> .tp (ev T l).av (ev T l).a
 | .or l=> .tp (ev T l).e3 (ev T l).o
 | .j8 c a b=> .tp (λσ K=> (ev T c).t σ λr σ=>cond r ((ev T a).x σ K) ((ev T b).x σ K)) λσ K=> (ev T c).t σ λr σ=>cond r ((ev T a).t σ K) ((ev T b).t σ K)
 | .call f args kws=> .val λσ K=> (ev T f).x σ λbI σ=> (ev T args).l σ λvs σ=> (ev T kws).k σ λkw σ=>nK T bI vs kw σ K
 | .aG o n args kws=> .val λσ K=> (ev T o).x σ λv σ=>ct ((aY σ v).bind xA) λ_=>ct (ux T n v σ) λbI=>hg (y2 bI) ((ev T args).l σ λvs σ=> (ev T kws).k σ λkw σ=>nK T bI vs kw σ K)
 | .nil=> {M.bad with l:=λσ K=>K [] σ,k:=λσ K=>K [] σ,a:=λσ K=>K aa σ,o:=λσ K=>K ac σ}
 | .cons a r=> {M.bad with
   l:=λσ K=> (ev T a).x σ λv σ=> (ev T r).l σ λvs σ=>K (v::vs) σ
   a:=λσ K=> (ev T a).t σ λb σ=>cond b ((ev T r).a σ K) (K ac σ)
   o:=λσ K=> (ev T a).t σ λb σ=>cond b (K aa σ) ((ev T r).o σ K)
   av:=cond (isNil r) (ev T a).x λσ K=> (ev T a).x σ λv σ=>v7 v σ λb σ=>cond b ((ev T r).av σ K) (K v σ)
   e3:=cond (isNil r) (ev T a).x λσ K=> (ev T a).x σ λv σ=>v7 v σ λb σ=>cond b (K v σ) ((ev T r).e3 σ K)}
 | .eZ n a r=> {M.bad with k:=λσ K=> (ev T a).x σ λv σ=> (ev T r).k σ λvs σ=>K ((n,v)::vs) σ}
noncomputable def cp (W:Option cD->St->Prop):cD->St->aB
 | .aQ,σ=> .ret (W af σ)
 | .df,σ=> .ret (W af σ)
 | .c0,σ=> .ret (W (ab .aQ) σ)
 | .hF v,σ=> .ret (W (ab (.hF v)) σ)
def qX (W:St->Prop) (K:cD->St->Prop):Option cD->St->Prop
 |none,σ=>W σ
 |some f,σ=>K f σ
def kO (t:St->(Bool->St->aB)->aB) (b:St->(cD->St->aB)->aB) (σ:St) (W:Option cD->St->Prop):Prop:=(t σ λr σ=>cond r (b σ (cp W)) (.ret (W (ab .aQ) σ))).holds
def G2 (t:St->(Bool->St->aB)->aB) (b:St->(cD->St->aB)->aB):Nat->St->(cD->St->Prop)->Prop
 |0,_,_=>False
 |n+1,σ,K=>kO t b σ (qX (λσ=>G2 t b n σ K) K)
def fa (t:St->(Bool->St->aB)->aB) (b:St->(cD->St->aB)->aB) (σ:St) (K:cD->St->Prop):Prop:= ∃n,G2 t b n σ K
def pe (n m:Nat) (b:St->(cD->St->aB)->aB):List (ae×ae)->St->(cD->St->Prop)->Prop
 | [],σ,K=>K .aQ σ
 |v::l,σ,K=> (b ⟨nf m v.2 (nf n v.1 σ.loc),σ.hp,σ.lh,σ.lu⟩ (cp (qX (λσ=>pe n m b l σ K) K))).holds
def gW (n:Nat) (b:St->(cD->St->aB)->aB):List ae->St->(cD->St->Prop)->Prop
 | [],σ,K=>K .aQ σ
 |v::l,σ,K=> (b ⟨nf n v σ.loc,σ.hp,σ.lh,σ.lu⟩ (cp (qX (λσ=>gW n b l σ K) K))).holds
noncomputable def Aw:List Nat->ae->St->(St->aB)->aB
 | [],_,σ,k=>k σ
 |n::ns,v,σ,k=>stK σ n v λσ=>Aw ns v σ k
noncomputable def tC:List Nat->List aj->St->(St->aB)->aB
 | [],[],σ,k=>k σ
 |n::ns,v::l,σ,k=>stK σ n (.f v) λσ=>tC ns l σ k
 |_,_,_,_=> .hP
noncomputable def FJ (r:St->aB) (K:cD->St->aB):cD->St->aB
 | .aQ,σ=>r σ
 |f,σ=>K f σ
noncomputable def bN (T:cL):S->St->(cD->St->aB)->aB
 | .exp x,σ,K=> (ev T x).x σ λ_ σ=>K .aQ σ
 | .aN n x,σ,K=> (ev T x).x σ λv σ=>stK σ n v (K .aQ)
 | .a9 o n x,σ,K=> (ev T x).x σ λv σ=> (ev T o).x σ λe3 σ=>vX T n e3 v σ λσ=>K .aQ σ
 | .gS n op x,σ,K=>ct (gs n σ.loc) λold=> (ev T x).x σ λv σ=>o5 op old v λr=>stK σ n r (K .aQ)
 | .kz o n op x,σ,K=> (ev T o).x σ λe3 σ=>ct (ux T n e3 σ) λold=> (ev T x).x σ λv σ=>o5 op old v λr=>vX T n e3 r σ λσ=>K .aQ σ
 | .jB ns x,σ,K=> (ev T x).x σ λv σ=>Aw ns v σ (K .aQ)
 | .ast ns x,σ,K=> (ev T x).x σ λv σ=>ct (Jm v) λl=>tC ns l σ (K .aQ)
 | .qp o i x,σ,K=> (ev T x).x σ λv σ=> (ev T o).x σ λd σ=> (ev T i).x σ λk σ=>ct (nO σ d) λe=>ct (ig k) λk=>hg (glob v) (.dP (cm e.2=aa) (putK σ (idOf d) (.dict (fX k v e.1 e.2).1 (fX k v e.1 e.2).2) (K .aQ)))
 | .se n x,σ,K=>ct (gs n σ.loc) λd=> (ev T x).x σ λv σ=>ct (ia σ d) λl=>ct (r8 v) λm=> .dP (cm l=aa/\cm m=aa) (putK σ (idOf d) (.list (l++m.map .f)) λσ=>stK σ n d (K .aQ))
 | .fr n x b,σ,K=> (ev T x).x σ λv σ=>ct (Zq v σ) λl=> .sub (gW n (bN T b) l σ) K
 | .sy n m x b,σ,K=> (ev T x).x σ λv σ=>ct (ig v) λs=> .dP (SZ s.length) (.sub (pe n m (bN T b) (pd 0 s) σ) K)
 | .uu n _ _ i,σ,K=> (ev T i).x σ λv σ=>ct (r8 v) λl=> .opt (lY l) λr=> .dP (cm l=aa) (stK σ n (.f (.lst r)) (K .aQ))
 | .u0 _ x _,σ,K=> (ev T x).x σ λv σ=>ct (nO σ v) λd=>hg d.1.isEmpty (K .aQ σ)
 | .qI n x b,σ,K=> (ev T x).x σ λv σ=>ct (ha v) λi=> .dP (-1000000<=i/\i<=1000000) (.sub (gW n (bN T b) (n9 0 i.toNat) σ) K)
 | .try b,σ,K=>bN T b σ K
 | .sb x,σ,K=> (ev T x).t σ λb σ=>hg b (K .aQ σ)
 | .ite c b o,σ,K=> (ev T c).t σ λr σ=>cond r (bN T b σ K) (bN T o σ K)
 | .eR c b,σ,K=> .sub (fa (ev T c).t (bN T b) σ) K
 | .ret x,σ,K=> (ev T x).x σ λv σ=>K (.hF v) σ
 | .rh,σ,K=>K (.hF (.f .none)) σ
 | .ta,σ,K=>K .aQ σ
 | .brk,σ,K=>K .c0 σ
 | .nil,σ,K=>K .aQ σ
 | .cons a r,σ,K=>bN T a σ (FJ (λσ=>bN T r σ K) K)
 |_,_,_=> .hP
def kh (K:ae->b4->Prop):cD->St->aB
 | .hF v,σ=>hg (glob v) (.ret (K v σ.hp))
 | .aQ,σ=> .ret (K (.f .none) σ.hp)
 |_,_=> .hP
noncomputable def E3:List Nat->List (Nat×Option ae)
 | []=> []
 |n::ex=> (n,af)::E3 ex
noncomputable def locs:List Nat->List ae->List Nat->List (Nat×Option ae)
 |p::a8,v::l,ex=> (p,ab v)::locs a8 l ex
 |_,_,ex=>E3 ex
def bH (T:cL) (a8:List Nat) (ex:List Nat) (b:Q7.S):a3:=λfull hp K=> (bN T b ⟨locs a8 full ex,hp,[],[]⟩ (kh K)).holds
section
open Builtin Builtin.ObjectAttr
theorem ck {G:Prop} (h:ac=aa):G:=by cases h
theorem a0 {α:Type} {a:α} {G:Prop} (h:af=ab a):G:=by cases h
abbrev rN:Nat->cT->Prop:=λk e=> ∃t,e.key= .str (nm k) t
theorem MU {k n:Nat} {e:cT} (h:rN k e):e.key.isStr (nm n)=bA k n:=by
 obtain ⟨t,h⟩:=h
 rw[h,beq_eq]
 show(nm k==nm n)=_
 by_cases q:k=n
 ·subst q;simp
 ·rw[decide_eq_false q]
  exact beq_eq_false_iff_ne.mpr λe=>q (n7 _ _ e)
theorem yu {α:Type} {R:α->cT->Prop} {n:Nat}: ∀{ns:List Nat} {es:List cT},bC rN ns es-> ∀{l:List α},bC R l es->
  (∀av,fld n ns l=ab av-> ∃e,R av e/\lG (nm n) es=ab (ab e.val))/\(fld n ns l=af->lG (nm n) es=ab af):=λaS=>by
 induction aS with
 |nil=>
  intro l aA
  cases aA
  exact⟨λav h=> (a0 h),λ_=>rfl⟩
 | @cons k e ns es aS cp ai=>
  intro l aA
  cases aA with
  | @cons v _ l _ aW Af=>
   have z:=MU (n:=n) aS
   have i:=ai Af
   show(∀av,(match bA k n with
    |true=>ab v
    |false=>fld n ns l)=ab av->_)/\((match bA k n with
    |true=>ab v
    |false=>fld n ns l)=af->_)
   cases q:bA k n with
   |true=>exact⟨λav h=> ⟨e,bQ h▸aW,by unfold lG;rw[wR,z,q]⟩,λh=>a0 (Eq.symm h)⟩
   |false=>
    rw[show lG (nm n) (e::es)=lG (nm n) es by
     unfold lG
     rw[wR,z,q,RC,show e.refKey=ac from ak aS λt h=>by unfold DictEntry.refKey;rw[h],oC]]
    exact i
theorem XH {R:ae->cT->Prop} {n:Nat} {hs:Int} {t:Tok} {av:ae} {v:ah} (eI: ∀h k,R av ⟨h,k,v⟩): ∀{ns:List Nat} {es:List cT},bC rN ns es-> ∀{l:List ae} {k:List Nat->List ae->aB},bC R l es->(yz n av ns l k).holds->
  ∃s7 cz,bC rN s7 (lH (nm n) hs (.str (nm n) t) v es)/\bC R cz (lH (nm n) hs (.str (nm n) t) v es)/\(k s7 cz).holds:=λaS=>by
 induction aS with
 |nil=>
  intro l k aA h
  cases aA
  exact⟨[n],[av],.cons ⟨t,rfl⟩ .nil,.cons (eI _ _) .nil,h⟩
 | @cons m e ns es aS cp ai=>
  intro l k aA h
  cases aA with
  | @cons w _ l _ aW Af=>
   have z:=MU (n:=n) aS
   have h:(match bA m n with
    |true=>k (m::ns) (av::l)
    |false=>yz n av ns l λns l=>k (m::ns) (w::l)).holds:=h
   revert h
   cases q:bA m n with
   |true=>
    rw[show lH (nm n) hs (.str (nm n) t) v (e::es)=⟨e.hash,e.key,v⟩::es by unfold lH;rw[z,q];rfl]
    exact λh=> ⟨_,_,.cons aS cp,.cons (eI _ _) Af,h⟩
   |false=>
    rw[show lH (nm n) hs (.str (nm n) t) v (e::es)=e::lH (nm n) hs (.str (nm n) t) v es by rw[lH,z,q];rfl]
    exact λh=>bT (ai Af h) λs7 cz i=> ⟨m::s7,w::cz,.cons aS i.1,.cons aW i.2.1,i.2.2⟩
theorem adj (n:a7) (hs:Int) (k v:ah) (es:List cT):(lH n hs k v es).length<=es.length+1:=by
 induction es with
 |nil=>exact fi 1
 |cons e es ai=>
  unfold lH
  cases e.key.isStr n with
  |true=>exact kx _
  |false=>exact iX ai
variable [WP]
abbrev wO (k:List Nat) (e:cT):Prop:=(∃t,(e:cT).key= .str (aK k) t)/\e.hash=kW WP.P (aK k)
abbrev gh (ks:List (List Nat)) (es:List cT):Prop:=bC (λk e=> (∃t,(e:cT).key= .str (aK k) t)/\e.hash=kW WP.P (aK k)) ks es
def Ro (F:bh) (w:ah):aj->Prop
 | .none=>w= .none
 | .bool b=>w= .bool b
 | .int i=> ∃t,w= .int i t
 | .str x=> ∃t,w= .str (aK x) t/\x.length<=dZ
 | .st a=>w= .ref a
 | .dd i=>w= .builtin i
 | .ty n=>w= .type n
 | .any=>True
 | .tup l=> ∃a vs,w= .ref a/\F a=ab (mc vs 0)/\ew F l vs
 | .lst l=> ∃a vs n,w= .ref a/\F a=ab (lobj vs n)/\ew F l vs
 | .inst c ns l=> ∃a d es n,w= .ref a/\F a=ab (kX c d)/\F d=ab (eB es n)/\bC rN ns es/\ew F l (es.map (·.val))
 | .ei ks l=> ∃a es n,w= .ref a/\((ks.Nodup/\ ∀k∈ks,k.length<=dZ)/\(a==lI)=ac)/\F a=ab (eB es n)/\gh ks es/\ew F l (es.map (·.val))
theorem bq.i {F:bh} {v:aj} {w:ah} (h:bq F v w):Ro F w v:=by
 cases h with
 |none=>exact rfl
 |bool b=>exact rfl
 |int i t=>exact⟨t,rfl⟩
 |str s t h=>exact⟨t,rfl,h⟩
 |st a=>exact rfl
 |dd i h=>exact rfl
 |ty n=>exact rfl
 |any v h=>exact True.intro
 |tup h aA=>exact⟨_,_,rfl,h,aA⟩
 |lst h aA=>exact⟨_,_,_,rfl,h,aA⟩
 |inst h hd aS aA=>exact⟨_,_,_,_,rfl,h,hd,aS,aA⟩
 |ei bX h aS aA=>exact⟨_,_,_,rfl,bX,h,aS,aA⟩
theorem Mj {aP:bh} {v:aj} {w:ah} (h:bq aP v w):ny w=aa:=by
 cases h with
 |dd i h=>exact h
 |any v h=>exact h
 |_=>rfl
theorem Mi {aP:bh} {ax:Nat->aR} {U:Nat->Prop} {v:ae} {w:ah} (h:d9 aP ax U v w):ny w=aa:=by
 cases v with
 |f v=>exact Mj h
 |ap x=>rw[h.2];rfl
 |dy x f=>obtain ⟨_,a,e,_⟩:=h;rw[e];rfl
section
variable {prog:cP} {w:ba} {A:c2} {K:bY} {x C:aR} {R:nx->az->Prop} {s:az}
theorem acV {vK:bW} {sk:aR} {name:a7} {cp:Tok} {v:ah} {es:List cT} {n:Nat} (X:K.In s.heap)
  (I:InstAt s.heap x vK C (ab (eB es n))) (hd:vK.dict=ab sk) (hp:Iv K C=aa) (ci:Bx K C name=ab af) (cw:(my K C).any (·.hasDict)=aa)
  (aA:(lG name es).isSome=aa) (cG:(lH name (kW w.params name) (.str name s.toks) v es).length<=1000)
  (h:R (.ok (.ret .none)) {s with heap:=s.heap.update sk (Ig name (kW w.params name) (.str name s.toks) v),toks:=s.toks+1}):
  nz (bp prog w) A (.call (.builtin "object.__setattr__") ⟨[.ref x,.str name cp,v],[]⟩) R s:=by
 refine osa_open X I hp ci λb=> ?_
 obtain ⟨cd,aD,yK⟩:=any_some cw
 obtain ⟨aH,Mm,ar,dI⟩:=I
 obtain ⟨zE,aiX,aiW,aiZ⟩:=vK
 dsimp only at Mm hd
 subst Mm hd
 have D:s.heap.get? sk=ab (eB es n):=dI
 have fe:(s.heap.update sk (Ig name (kW w.params name) (.str name s.toks) v)).get? sk=ab (eB (lH name (kW w.params name) (.str name s.toks) v es) (putN name es n)):=by
  rw[<-Bw]
  exact Sv _ D (by rw[Bw];rfl)
 refine bx (dc (bx (bx (II aH (bx ((looks_clsIn X aD).here ?_))))))
 rw[yK]
 refine dc (a:=ab sk) (bx (dc (bx ?_)))
 unfold nsSet
 refine bx (bx (wpAny_askSetting (dc (bx (xn (bx (II D ?_)))))))
 dsimp only
 unfold lG at aA
 have c:(!es.toArray.any (·.key.isStr name)&&es.toArray.any (·.refKey))=ac:=by
  rw[<-Q4,<-Q4]
  split at aA
  ·rename_i bU he
   rw[RD.mpr ⟨bU,List.mem_of_find?_eq_some he,List.find?_some he⟩];rfl
  ·split at aA
   ·cases aA
   ·rename_i z;rw[Bool.not_eq_true] at z;rw[z,ho]
 rw[aRefKeyMayBeTheName_at,c]
 refine wpAny_updatePart D ?_
 refine bx (wpAny_lookBehind fe (pastItsLine_dict (by rw[hq,gi];omega)) ?_)
 exact dc h
end
end
section
open Builtin Builtin.ObjectAttr
variable [WP]
noncomputable def AM (K:bY) (c:Nat):Bool:=Bv K c "" &&Br K c&&hK K (.ref c) "__setattr__" ==ab (ab (.builtin "object.__setattr__"))&&Iv K c
def tG (K:bY) (base:cu) (c n:Nat):At->Prop
 | .no=>hK K (.ref c) (nm n)=ab af/\Bx K c (nm n)=ab af
 | .fn f=>hK K (.ref c) (nm n)=ab (ab (.ref f))/\isFn K (.ref f)=aa/\oR K (.ref f) "__get__" =ab (ab (.builtin "function.__get__"))/\xc K (.ref f)=ab ac/\rT.contains (nm n)=ac
 | .val v=> ∃a,bq base.get? v a/\hK K (.ref c) (nm n)=ab (ab a)/\oR K a "__get__" =ab af/\ny a=aa/\rT.contains (nm n)=ac
def Hm (K:bY) (base:cu) (c n:Nat) (v:aj):Prop:= ∃a aG,bq base.get? v a/\readsIn K c aG=aa/\findCls K (.ref c) aG (nm n)=ab (.val a)/\ny a=aa
structure Known (K:bY) (base:cu) (T:cL):Prop where
 gY:K.In base
 cls: ∀c l,aL c T.ih=ab l->AM K c=aa
 ih: ∀c n i,T.at c n=ab i->tG K base c n i
 mL: ∀c t n v,aL c T.mL=ab t->aL n t=ab v->Hm K base c n v
def fv (Γ:bM) (T:bG) (K:ae->St->aB) (Q:ah->az->Prop):Prop:= ∀a4 v av s',T.dS a4->aX Γ a4 s'->a4.A av v->(K av a4.σ).holds->Q v s'
def nD (Γ:bM) (T:bG) (K:St->aB) (Q:az->Prop):Prop:= ∀a4 s',T.dS a4->aX Γ a4 s'->(K a4.σ).holds->Q s'
theorem fv.of {Γ:bM} {T:bG} {K:ae->St->aB} {Q:ah->az->Prop} {v:ah} {s:az} {av:ae} (q:fv Γ T K Q) (N:aX Γ T s) (h:T.A av v) (k:(K av T.σ).holds):Q v s:=q T v av s (.refl T) N h k
theorem fv.ex {Γ:bM} {T a4:bG} {K:ae->St->aB} {Q:ah->az->Prop} (x:T.dS a4) (q:fv Γ T K Q):fv Γ a4 K Q:=λmB v av s' y=>q mB v av s' (x.trans y)
theorem fv.fr {Γ:bM} {T:bG} {K:ae->St->aB} {Q:ah->az->Prop} {v:ah} {s:az} {av:aj} (q:fv Γ T K Q) (N:aX Γ T s) (h:bq T.aP av v) (k:(K (.f av) T.σ).holds):Q v s:=q T v (.f av) s (.refl T) N h k
theorem nD.ex {Γ:bM} {T a4:bG} {K:St->aB} {Q:az->Prop} (x:T.dS a4) (q:nD Γ T K Q):nD Γ a4 K Q:=λmB s' y=>q mB s' (x.trans y)
theorem ew.cases {F:bh} {v:aj} {l:List aj} {ni:List ah} (h:ew F (v::l) ni): ∃y zs,ni=y::zs/\bq F v y/\ew F l zs:=by
 cases h with|cons a b=>exact⟨_,_,rfl,a,b⟩
theorem ew.q4 {F:bh} {ni:List ah} (h:ew F [] ni):ni= []:=by cases h;rfl
theorem ew.all2 {F:bh} {l:List aj}: ∀{es:List cT},ew F l (es.map (·.val))->bC (λv e=>bq F v (e:cT).val) l es:=by
 induction l with
 |nil=>exact λh=>by rw[RO.mp h.q4];exact .nil
 |cons v l ai=>
  refine λ{es} h=>bT h.cases λy zs i=> ?_
  cases es with
  |nil=>exact absurd i.1 (HD _ _).symm
  |cons e es=>
   have q:e.val=y:=(gv i.1).1
   have r:es.map (·.val)=zs:=(gv i.1).2
   rw[<-q,<-r] at i
   exact .cons i.2.1 (ai i.2.2)
section
variable {prog:cP} {w:ba} {A:c2} {E:ah->az->Prop} {s:az} {Kf:bY} {S:cL} {Γ:bM} {T:bG}
structure Rp (Γ:bM) (T:bG) (s:az) (x c:Nat) (ns:List Nat) (l:List ae) (es:List cT) (n:Nat):Prop where
 I:InstAt s.heap (T.ax (2*x)) (kX c (T.ax (2*x+1))) c (ab (eB es n))
 D:s.heap.get? (T.ax (2*x+1))=ab (eB es n)
 z:es.length<=1000
 k:bC rN ns es
 l:bC (λa e=>T.A a (e:cT).val/\glob a=aa) l es
theorem yX {x c:Nat} {ns:List Nat} {l:List ae} (N:aX Γ T s) (h:T.σ.g x=ab (.inst c ns l)): ∃es n,Rp Γ T s x c ns l es n:=
 let c:=N.aY.cell x _ h
 bT c.2 λes n d=> ⟨es,n,⟨c.1,rfl,rfl,d.1⟩,d.1,d.2.1,d.2.2.1,d.2.2.2⟩
theorem aX.gY (N:aX Γ T s) (bb:Known Kf Γ.base S):Kf.In s.heap:=λa o e=>N.keeps a o (bb.gY a o e)
theorem uI {c n:Nat} {i:At} (bb:Known Kf Γ.base S) (h:S.at c n=ab i) (name:a7):Bv Kf c name=aa/\Br Kf c=aa/\hK Kf (.ref c) "__setattr__" =ab (ab (.builtin "object.__setattr__"))/\Iv Kf c=aa:=by
 unfold cL.at at h
 split at h
 ·rename_i l e
  have q:=bb.cls c l e
  unfold AM at q
  simp only[gE,beq_iff_eq] at q
  obtain ⟨⟨⟨a,b⟩,f6⟩,d⟩:=q
  exact⟨a,b,f6,d⟩
 ·cases h
theorem Dl {x:aR} {c n:Nat} {d:aR} {es:List cT} {k:Nat} {v:ah} {b:Bool} {Q:ah->az->Prop} (N:aX Γ T s) (bb:Known Kf Γ.base S) (bj:S.at c n=ab .no)
  (I:InstAt s.heap x (kX c d) c (ab (eB es k))) (aA:lG (nm n) es=ab (ab v)) (aW:ny v=aa) (h:Q v {s with toks:=s.toks+1}):bg (bp prog w) A (BD (.ref x) (nm n) b) Q E s:=
 have f:=uI bb bj (nm n)
 get_value (N.gY bb) I (xa f.1).1 (findObj_own f.2.1 (bb.ih c n _ bj).1 rfl (by show Bt (nm n) (eB es k)=_;rw[Bu,aA])) aW h
theorem XZ {x:aR} {c n:Nat} {d:aR} {es:List cT} {k h5:Nat} {b:Bool} {Q:ah->az->Prop} (N:aX Γ T s) (bb:Known Kf Γ.base S) (bj:S.at c n=ab (.fn h5))
  (I:InstAt s.heap x (kX c d) c (ab (eB es k))) (aA:lG (nm n) es=ab af) (h:Q (.ref s.heap.objs.size) {s with heap:=s.heap.push (w9 (.ref h5) (.ref x)),toks:=s.toks+1}):bg (bp prog w) A (BD (.ref x) (nm n) b) Q E s:=
 have f:=uI bb bj (nm n)
 have a:=bb.ih c n _ bj
 get_bind (N.gY bb) I (xa f.1).1 (findObj_fn f.2.1 a.1 a.2.2.1 a.2.2.2.1 a.2.2.2.2 (by show Bt (nm n) (eB es k)=_;rw[Bu,aA])) (xa f.1).2
  (IF (fn_get (s:={s with toks:=s.toks+1}) (N.gY bb) (beq_iff_eq.mp a.2.1) (handed_on rfl h)))
theorem L8 {x:aR} {c n:Nat} {d:aR} {es:List cT} {k:Nat} {v:aj} {b:Bool} {K:ae->St->aB} {Q:ah->az->Prop} (q:fv Γ T K Q) (N:aX Γ T s) (bb:Known Kf Γ.base S) (bj:S.at c n=ab (.val v))
  (I:InstAt s.heap x (kX c d) c (ab (eB es k))) (aA:lG (nm n) es=ab af) (h:(K (.f v) T.σ).holds):bg (bp prog w) A (BD (.ref x) (nm n) b) Q E s:=
 have f:=uI bb bj (nm n)
 ak (bb.ih c n _ bj) λa i=>get_value (N.gY bb) I (xa f.1).1 (findObj_cls f.2.1 i.2.1 i.2.2.1 i.2.2.2.1 i.2.2.2.2 (by show Bt (nm n) (eB es k)=_;rw[Bu,aA])) i.2.2.2.1
  (q.fr (N.toks _) (bq.mono N.base i.1) h)
omit [WP] in
theorem n8 {n:Nat} {ns:List Nat} {α:Type} {l:List α} {v:ae} {k:ae->aB} (h:(ct (kd n ns l v) k).holds):fld n ns l=af/\(k v).holds:=by
 unfold kd at h
 revert h
 cases fld n ns l with
 |none=>exact λh=> ⟨rfl,h⟩
 |some w=>exact fK
theorem L7 {n:Nat} {o:ae} {e3:ah} {b:Bool} {K:ae->St->aB} {Q:ah->az->Prop} (bb:Known Kf Γ.base S) (N:aX Γ T s) (bV:T.A o e3) (h:(ct (ux S n o T.σ) λr=>K r T.σ).holds) (q:fv Γ T K Q):
  bg (bp prog w) A (BD e3 (nm n) b) Q E s:=by
 cases o with
 |dy x f=>exact h.elim
 |ap x=>
  rw[bV.2]
  have h:(ct (match T.σ.g x with
   |some (.inst c ns l)=>match S.at c n with
    |some .no=>fld n ns l
    |some (.fn f)=>kd n ns l (.dy x f)
    |some (.val w)=>kd n ns l (.f w)
    |none=>af
   |_=>af) λr=>K r T.σ).holds:=h
  revert h
  cases aH:T.σ.g x with
  |none=>exact fK
  |some ao=>cases ao with
   |inst c ns l=>
    refine bT (yX N aH) λes k i=> ?_
    have f:=yu (n:=n) i.k i.l
    show(ct (match S.at c n with
     |some .no=>fld n ns l
     |some (.fn f)=>kd n ns l (.dy x f)
     |some (.val w)=>kd n ns l (.f w)
     |none=>af) λr=>K r T.σ).holds->_
    cases bj:S.at c n with
    |none=>exact fK
    |some at'=>cases at' with
     |no=>exact λh=>ak (dp h) λav h=>ak (f.1 av h.1) λe g=>Dl N bb bj i.I g.2 (Mi g.1.1) (q.of (N.toks _) g.1.1 h.2)
     |fn h5=>exact λh=>XZ N bb bj i.I (f.2 (n8 h).1) (have p:=N.vO (w9 (.ref h5) (.ref (T.ax (2*x)))) rfl;q _ _ (.dy x h5) _ p.2 (p.1.grow (λ_ _ e=>e) rfl rfl) ⟨bV.1,_,rfl,bh.gb _ _ _⟩ (n8 h).2)
     |val v=>exact λh=>L8 q N bb bj i.I (f.2 (n8 h).1) (n8 h).2
   |_=>exact fK
 |f v=>cases v with
  |inst c ns l=>
   refine nh (bq.i bV) λa d es k i=> ?_
   rw[i.1]
   have I:InstAt s.heap a (kX c d) c (ab (eB es k)):=⟨N.aY.bE _ _ i.2.1,rfl,rfl,N.aY.bE _ _ i.2.2.1⟩
   have f:=yu (n:=n) i.2.2.2.1 (ew.all2 i.2.2.2.2)
   have h:(ct (match S.at c n with
    |some .no=> (fld n ns l).map .f
    |some (.val w)=>kd n ns l (.f w)
    |_=>af) λr=>K r T.σ).holds:=h
   revert h
   cases bj:S.at c n with
   |none=>exact fK
   |some at'=>cases at' with
    |fn h5=>exact fK
    |no=>exact λh=>ak (dp h) λav h=>ak (p9.mp h.1) λG0 m=>ak (f.1 G0 m.1) λe g=>Dl N bb bj I g.2 (Mj g.1) (q.of (N.toks _) (show T.A av e.val from m.2▸g.1) h.2)
    |val v=>exact λh=>L8 q N bb bj I (f.2 (n8 h).1) (n8 h).2
  |st c=>
   rw[bq.i bV]
   have h:(ct (match aL c S.mL with
    |some t=> (aL n t).map ae.f
    |none=>af) λr=>K r T.σ).holds:=h
   revert h
   cases ci:aL c S.mL with
   |none=>exact fK
   |some t=>exact λh=>ak (dp h) λav h=>ak (p9.mp h.1) λG0 m=>bT (bb.mL c t n G0 ci m.1) λa aG i=>
     cls_value (N.gY bb) i.2.1 i.2.2.1 i.2.2.2 (q.of (N.toks _) (show T.A av a from m.2▸bq.mono N.base i.1) h.2)
  |_=>exact h.elim
omit [WP] in
theorem afC {n:Nat} {o:ae} {σ:St} {S:cL} {p:Nat×List Nat×List ae} (h:P2 S n o σ=ab p):aY σ o=ab (.inst p.1 p.2.1 p.2.2)/\S.at p.1 n=ab .no:=by
 have h:(match aY σ o with
  |some (.inst c ns l)=>match S.at c n with
   |some .no=>ab (c,ns,l)
   |_=>af
  |_=>af)=ab p:=h
 cases aH:aY σ o with
 |none=>rw[aH] at h;exact a0 h
 |some ao=>
  rw[aH] at h
  cases ao with
  |inst c ns l=>
   have h:(match S.at c n with
    |some .no=>ab (c,ns,l)
    |_=>af)=ab p:=h
   cases bj:S.at c n with
   |none=>rw[bj] at h;exact a0 h
   |some i=>
    rw[bj] at h
    cases i with
    |no=>cases h;exact⟨rfl,bj⟩
    |_=>exact a0 h
  |_=>exact a0 h
theorem P1 {n:Nat} {o v:ae} {e3 cZ:ah} {K:St->aB} {Q:Unit->az->Prop} (bb:Known Kf Γ.base S) (N:aX Γ T s) (bV:T.A o e3) (aW:T.A v cZ) (h:(vX S n o v T.σ K).holds) (q:nD Γ T K (Q ())):
  bg (bp prog w) A (setAttr e3 (nm n) cZ) Q E s:=by
 refine ak (dp h) λp h=> ?_
 have pu:=afC h.1
 have h:=gq h.2
 have cI:=fV.mp h.1
 cases o with
 |f _=>exact a0 pu.1
 |dy _ _=>exact a0 pu.1
 |ap x=>
  rw[bV.2]
  refine bT (yX N pu.1) λes k i=> ?_
  have f:=uI bb pu.2 (nm n)
  have cG:(lH (nm n) (kW w.params (nm n)) (.str (nm n) (s.toks+1)) cZ es).length<=1000:=by
   have aq:=adj (nm n) (kW w.params (nm n)) (.str (nm n) (s.toks+1)) cZ es
   have aC:p.2.1.length<=100:=cS cI.1
   rw[i.k.length] at aC
   exact bf aq (iX (bf aC (cS rfl)))
  have aA:(lG (nm n) es).isSome=aa:=by
   have f:=yu (n:=n) i.k i.l
   cases z:fld n p.2.1 p.2.2 with
   |none=>rw[f.2 z];rfl
   |some av=>exact ak (f.1 av z) λe g=>by rw[g.2];rfl
  refine set_plain (N.gY bb) i.I f.2.2.1 (acV (s:={s with toks:=s.toks+1}) (N.gY bb) i.I rfl f.2.2.2 (bb.ih _ n .no pu.2).2 f.2.1 aA cG ?_)
  refine bT (XH (R:=λa e=>T.A a (e:cT).val/\glob a=aa) (n:=n) (hs:=kW w.params (nm n)) (t:=s.toks+1) (av:=v) (v:=cZ) (λ_ _=> ⟨aW,cI.2⟩) i.k i.l h.2) λs7 cz m=> ?_
  have cw:=m.2.2
  rw[Fn] at cw
  have D:=i.D
  have ne:T.ax (2*x+1)≠T.ax (2*x):=λq=>by
   have aq:=i.I.at_
   rw[<-q,D] at aq
   cases aq
  have C:=N.turn (t:=s.toks+1+1) pu.1 (a:=T.ax (2*x+1)) (f:=Ig (nm n) (kW w.params (nm n)) (.str (nm n) (s.toks+1)) cZ) (.tail _ (.head _)) (bo:= .inst p.1 s7 cz) rfl
   ⟨(Heap.get?_update_other _ _ ne).trans i.I.at_,_,putN (nm n) es k,by rw[<-Bw];exact Sv _ D (by rw[Bw];rfl),cG,m.1,m.2.1⟩
  exact q _ _ C.2 C.1 cw
end
end
section
variable [WP]
def gl (hp:b4) (x:Nat):Option cb:=match d4 x 100 with
 |true=>aL x hp
 |false=>af
theorem ph {σ:St} {x:Nat} (h:x<100):gl σ.hp x=σ.g x:=by
 unfold gl St.g
 rw[show d4 x 100=aa from mq h]
theorem qL {hp:b4} {x:Nat} {ao:cb} (h:gl hp x=ab ao):x<100:=by
 unfold gl at h
 split at h
 ·rename_i q;exact cS q
 ·cases h
theorem d9.glob {F:bh} {ax:Nat->aR} {U U':Nat->Prop} {v:ae} {w:ah} (h:d9 F ax U v w) (g:Q7.glob v=aa) (u: ∀x,x<100->U x->U' x):d9 F ax U' v w:=by
 cases v with
 |f v=>exact h
 |ap x=>exact⟨u x (cS g) h.1,h.2⟩
 |dy x f=>obtain ⟨a,b⟩:=h;exact⟨u x (cS g) a,b⟩
theorem Hl {F:bh} {ax:Nat->aR} {U U':Nat->Prop} {h:cu} {x:Nat} {ao:cb} (u: ∀x,x<100->U x->U' x) (C:lz F ax U h x ao):lz F ax U' h x ao:=by
 cases ao with
 |inst c ns l=>obtain ⟨aq,es,n,aC,cG,bz,ee⟩:=C;exact⟨aq,es,n,aC,cG,bz,ee.mono λa e q=> ⟨q.1.glob q.2 u,q.2⟩⟩
 |list l=>obtain ⟨vs,n,aq,aC⟩:=C;exact⟨vs,n,aq,aC.mono λa e q=> ⟨q.1.glob q.2 u,q.2⟩⟩
 |dict ks l=>obtain ⟨es,n,P,aq,aC,bz⟩:=C;exact⟨es,n,P,aq,aC,bz.mono λa e q=> ⟨q.1.glob q.2 u,q.2⟩⟩
theorem rx {σ:St} (lu: ∀x∈σ.lu,100<=x): ∀x,x<100->dO σ.g σ.lu x->dO (gl σ.hp) [] x:=λx h u=>by
 rcases u with⟨a,_⟩ |b
 ·exact .inl ⟨by rw[ph h];exact a,h⟩
 ·exact absurd (lu x b) (by omega)
theorem Dq {σ:St}: ∀x,dO (gl σ.hp) [] x->dO σ.g σ.lu x:=λx u=>by
 rcases u with⟨a,b⟩ |b
 ·exact .inl ⟨by rw[<-ph b];exact a,b⟩
 ·cases b
structure Back (aP:bh) (ax:Nat->aR) (hp:b4) (Fr:bh) (s:az) (eF:bh) (ρ':Nat->aR) (dn:b4) (s':az):Prop where
 bE:dT aP eF
 dN: ∀x,dO (gl hp) [] x->dO (gl dn) [] x
 ax: ∀x,dO (gl hp) [] x->ρ' (2*x)=ax (2*x)
 aY:fc eF Fr ρ' (gl dn) [] s'.heap
 gens:s'.gens=s.gens
 os:s'.os=s.os
open Classical in
theorem aX.enter {Γ:bM} {T:bG} {s:az} (N:aX Γ T s): ∃ku,fc T.aP ku T.ax (gl T.σ.hp) [] s.heap/\
  ∀eF ρ' dn s',Back T.aP T.ax T.σ.hp ku s eF ρ' dn s'-> ∃iU,aX Γ ⟨eF,iU,⟨T.σ.loc,dn,T.σ.lh,T.σ.lu⟩⟩ s'/\T.dS ⟨eF,iU,⟨T.σ.loc,dn,T.σ.lh,T.σ.lu⟩⟩/\
   ∀av v,d9 eF ρ' (dO (gl dn) []) av v->bG.A ⟨eF,iU,⟨T.σ.loc,dn,T.σ.lh,T.σ.lu⟩⟩ av v:=by
 let own:aR->Prop:=λb=>b=Γ.L\/ ∃x ao,100<=x/\T.σ.g x=ab ao/\b∈adr T.ax x ao
 let ku:bh:=λb=>if own b then s.heap.get? b else Γ.Fr b
 have Fe: ∀b,own b->T.aP b=af/\Γ.Fr b=af:=λb h=>by
  rcases h with rfl| ⟨x,ao,_,aH,ag⟩
  ·exact N.lo.free
  ·exact N.aY.ca x ao aH b ag
 have U:=N.lo.lu
 refine⟨ku,⟨N.aY.bE,λb o e=> ?_,λx ao e=> ?_,λx ao e a aE=> ?_,λx y ao bo e1 e2=> ?_⟩, ?_⟩
 ·by_cases h:own b
  ·have e:s.heap.get? b=ab o:=by simpa [ku,h] using e
   exact⟨e,(Fe b h).1⟩
  ·have e:Γ.Fr b=ab o:=by simpa [ku,h] using e
   exact N.aY.fr b o e
 ·have lt:=qL e
  rw[ph lt] at e
  exact Hl (rx U) (N.aY.cell x ao e)
 ·have lt:=qL e
  rw[ph lt] at e
  refine⟨(N.aY.ca x ao e a aE).1, ?_⟩
  have no: ¬own a:=λh=>by
   rcases h with rfl| ⟨y,bo,cO,cM,ag⟩
   ·exact N.lo.b0 x ao e aE
   ·exact N.aY.gm x y ao bo e cM (by omega) a aE ag
  simp only[ku,no,if_false]
  exact(N.aY.ca x ao e a aE).2
 ·have l1:=qL e1
  have e0:=qL e2
  rw[ph l1] at e1
  rw[ph e0] at e2
  exact N.aY.gm x y ao bo e1 e2
 ·intro eF ρ' dn s' B
  let iU:Nat->aR:=λk=>if k<200 then ρ' k else T.ax k
  have lo: ∀x,x<100->iU (2*x)=ρ' (2*x)/\iU (2*x+1)=ρ' (2*x+1):=λx h=> ⟨if_pos (by omega),if_pos (by omega)⟩
  have bj: ∀x,100<=x->iU (2*x)=T.ax (2*x)/\iU (2*x+1)=T.ax (2*x+1):=λx h=> ⟨if_neg (by omega),if_neg (by omega)⟩
  let σ':St:=⟨T.σ.loc,dn,T.σ.lh,T.σ.lu⟩
  have sA: ∀x,100<=x->σ'.g x=T.σ.g x:=λx h=>by
   unfold St.g
   rw[show d4 x 100=ac from by cases q:d4 x 100 with|false=>rfl|true=>exact absurd (cS q) (by show¬x<100;omega)]
  have i7: ∀x,x<100->σ'.g x=gl dn x:=λx h=> (ph (σ:=σ') h).symm
  have GX: ∀x,T.U x->dO σ'.g σ'.lu x:=λx h=>by
   by_cases lt:x<100
   ·exact Dq (σ:=σ') x (B.dN x (rx U x lt h))
   ·rcases h with⟨_,q⟩ |q
    ·exact absurd q lt
    ·exact .inr q
  have Hc: ∀x,T.U x->iU (2*x)=T.ax (2*x):=λx h=>by
   by_cases lt:x<100
   ·rw[(lo x lt).1];exact B.ax x (rx U x lt h)
   ·exact(bj x (by omega)).1
  have ex:T.dS ⟨eF,iU,σ'⟩:=⟨B.bE,GX,Hc⟩
  have qJ: ∀b,own b-> ∀o,s.heap.get? b=ab o->ku b=ab o:=λb h o e=>by simp only[ku,h,if_true];exact e
  have live: ∀b,own b-> ∃o,s.heap.get? b=ab o:=λb h=>by
   rcases h with rfl| ⟨x,ao,_,aH,ag⟩
   ·obtain ⟨m,⟨o,_,_,e,_⟩,_⟩:=N.lo.ns;exact⟨o,e⟩
   ·exact lL (N.aY.cell x ao aH) b ag
  have kept: ∀b,own b->s.heap.get? b=s'.heap.get? b:=λb h=>by
   obtain ⟨o,e⟩:=live b h
   rw[e,(B.aY.fr b o (qJ b h o e)).1]
  have uk: ∀x ao,100<=x->adr iU x ao=adr T.ax x ao:=λx ao h=>by cases ao<;>simp only[adr,(bj x h).1,(bj x h).2]
  have ul: ∀x ao,x<100->adr iU x ao=adr ρ' x ao:=λx ao h=>by cases ao<;>simp only[adr,(lo x h).1,(lo x h).2]
  have xB: ∀av v,d9 eF ρ' (dO (gl dn) []) av v->d9 eF iU (dO σ'.g σ'.lu) av v:=λav v h=>
   h.mono (dT.refl _) (λx q=>Dq (σ:=σ') x q) λx q=>by
    rcases q with⟨_,q⟩ |q
    ·exact(lo x q).1
    ·cases q
  refine⟨iU,⟨⟨B.aY.bE,λb o e=> ?_,λx ao e=> ?_,λx ao e a aE=> ?_,λx y ao bo e1 e2 ne a aE=> ?_⟩,⟨?_, ?_,λx ao e=> ?_,U⟩,N.base.trans B.bE,B.gens.trans N.gens,B.os.trans N.os,λx a e=> ⟨GX x (N.pin x a e).1,(Hc x (N.pin x a e).1).trans (N.pin x a e).2⟩⟩,ex,xB⟩
  ·have: ¬own b:=λh=>by rw[(Fe b h).2] at e;cases e
   exact B.aY.fr b o (by simp only[ku,this,if_false];exact e)
  ·have e:σ'.g x=ab ao:=e
   by_cases lt:x<100
   ·rw[i7 x lt] at e
    exact iw (dT.refl _) (λy q=>Dq (σ:=σ') y q) (λy q=>by
     rcases q with⟨_,q⟩ |q
     ·exact(lo y q).1
     ·cases q) (λ_ _=>rfl) (lo x lt).1 (lo x lt).2 (B.aY.cell x ao e)
   ·rw[sA x (by omega)] at e
    exact iw B.bE GX Hc (λa aE=>kept a (.inr ⟨x,ao,by omega,e,aE⟩)) (bj x (by omega)).1 (bj x (by omega)).2 (N.aY.cell x ao e)
  ·have e:σ'.g x=ab ao:=e
   by_cases lt:x<100
   ·rw[i7 x lt] at e
    rw[ul x ao lt] at aE
    have z:=B.aY.ca x ao e a aE
    refine⟨z.1, ?_⟩
    have no: ¬own a:=λh=>by obtain ⟨o,q⟩:=live a h;rw[qJ a h o q] at z;cases z.2
    have mi:=z.2
    simp only[ku,no,if_false] at mi
    exact mi
   ·rw[sA x (by omega)] at e
    rw[uk x ao (by omega)] at aE
    have o:own a:= .inr ⟨x,ao,by omega,e,aE⟩
    obtain ⟨ap,q⟩:=live a o
    exact⟨(B.aY.fr a ap (qJ a o ap q)).2,(Fe a o).2⟩
  ·have e1:σ'.g x=ab ao:=e1
   have e2:σ'.g y=ab bo:=e2
   by_cases l1:x<100
   ·rw[i7 x l1] at e1
    rw[ul x ao l1] at aE
    by_cases e0:y<100
    ·rw[i7 y e0] at e2
     rw[ul y bo e0]
     exact B.aY.gm x y ao bo e1 e2 ne a aE
    ·rw[sA y (by omega)] at e2
     rw[uk y bo (by omega)]
     intro ag
     have o:own a:= .inr ⟨y,bo,by omega,e2,ag⟩
     obtain ⟨ap,q⟩:=live a o
     have:=(B.aY.ca x ao e1 a aE).2
     rw[qJ a o ap q] at this;cases this
   ·rw[sA x (by omega)] at e1
    rw[uk x ao (by omega)] at aE
    by_cases e0:y<100
    ·rw[i7 y e0] at e2
     rw[ul y bo e0]
     intro ag
     have o:own a:= .inr ⟨x,ao,by omega,e1,aE⟩
     obtain ⟨ap,q⟩:=live a o
     have:=(B.aY.ca y bo e2 a ag).2
     rw[qJ a o ap q] at this;cases this
    ·rw[sA y (by omega)] at e2
     rw[uk y bo (by omega)]
     exact N.aY.gm x y ao bo e1 e2 ne a aE
  ·obtain ⟨m,ar,hm⟩:=N.lo.ns
   obtain ⟨o,es,ep,e,r⟩:=ar
   exact⟨m,⟨o,es,ep,(kept Γ.L (.inl rfl)).symm.trans e,r⟩,λn av e=>let ⟨v,a1,a2⟩:=hm n av e;⟨v,a1,a2.ex ex⟩⟩
  ·obtain ⟨ap,q⟩:=live Γ.L (.inl rfl)
   exact⟨(B.aY.fr Γ.L ap (qJ _ (.inl rfl) ap q)).2,N.lo.free.2⟩
  ·have e:σ'.g x=ab ao:=e
   by_cases lt:x<100
   ·rw[i7 x lt] at e
    intro ag
    rw[ul x ao lt] at ag
    obtain ⟨ap,q⟩:=live Γ.L (.inl rfl)
    have:=(B.aY.ca x ao e _ ag).2
    rw[qJ _ (.inl rfl) ap q] at this;cases this
   ·rw[sA x (by omega)] at e
    rw[uk x ao (by omega)]
    exact N.lo.b0 x ao e
end
section
open Builtin Builtin.Str
theorem blt_eq (a b:Nat):d4 a b=decide (a<b):=AI.mpr ⟨λh=>decide_eq_true (cS h),λh=>mq (of_decide_eq_true h)⟩
theorem Em {x:List Nat}: ∀{y:List Nat},ek x y=decide (x<y):=by
 induction x with
 |nil=>exact λ{y}=>by cases y<;>rfl
 |cons a x ai=>
  intro y
  cases y with
  |nil=>rfl
  |cons b y=>
   show(d4 a b|| (bA a b&&ek x y))=_
   rw[ai,beq_eq,blt_eq]
   simp only[List.cons_lt_cons_iff,Bool.decide_or,Bool.decide_and]
theorem Eb (x y:List Nat):aM x y=(x==y):=by
 cases q:(x==y) with
 |true=>exact gL.mpr (by simpa using q)
 |false=>
  cases z:aM x y with
  |false=>rfl
  |true=>have:=gL.mp z;subst this;simp at q
theorem zM: ∀{x y:List Nat},pre x y=aa↔ ∃z,y=x++z
 | [],y=>by simp[pre]
 |_::_,[]=>by simp[pre]
 |a::x,b::y=>by
  simp only[pre,gE,beq_eq,decide_eq_true_eq,zM (x:=x) (y:=y),HC,List.cons.injEq]
  exact⟨λ⟨h,z,k⟩=> ⟨z,h.symm,k⟩,λ⟨z,h,k⟩=> ⟨h.symm,z,k⟩⟩
theorem MI: ∀{x y:List Nat},bO x y=aa↔ ∃a z,y=a++(x++z)
 |x,[]=>by
  simp only[bO,zM]
  exact⟨λ⟨z,h⟩=> ⟨[],z,h⟩,λ⟨a,z,h⟩=> ⟨z,by
   have:=congrArg A1 h
   simp at this
   have aE:a= []:=wQ (by omega)
   subst aE;exact h⟩⟩
 |x,b::y=>by
  simp only[bO,nj,zM,MI (x:=x) (y:=y)]
  constructor
  ·rintro (⟨z,h⟩ | ⟨a,z,h⟩)
   ·exact⟨[],z,h⟩
   ·exact⟨b::a,z,by rw[h];rfl⟩
  ·rintro ⟨a,z,h⟩
   cases a with
   |nil=>exact .inl ⟨z,h⟩
   |cons c a=>exact .inr ⟨a,z,by simpa using(gv h).2⟩
theorem z6 {y x:List Nat} {i:Nat} (bj:i+x.length<=y.length):subAt (aK y) (aK x) i=aa↔ ∃a z,a.length=i/\y=a++(x++z):=by
 unfold subAt
 have e:((aK y).cps.extract i (i+(aK x).length)==(aK x).cps)=((y.drop i).take x.length==x):=by
  rw[AI,beq_iff_eq,beq_iff_eq,<-wB]
  simp[List.extract_eq_drop_take,Ik]
 rw[e,beq_iff_eq]
 constructor
 ·intro h
  have k:=p4 x.length (y.drop i)
  rw[h] at k
  exact⟨y.take i,(y.drop i).drop x.length,by simp;omega,by rw[k,p4]⟩
 ·rintro ⟨a,z,rfl,rfl⟩
  simp
theorem MJ (x y:List Nat):(!(occurrences (aK y) (aK x) 0 (aK y).length 1).isEmpty)=bO x y:=by
 have k:=StrLaws.found_iff (aK y) (aK x)
 rw[AI,k,MI]
 have zj:(aK y).length=y.length:=by simp[Ik]
 have abF:(aK x).length=x.length:=by simp[Ik]
 rw[zj,abF]
 constructor
 ·rintro ⟨i,aq,aC⟩
  obtain ⟨a,z,_,h⟩:=(z6 aq).mp aC
  exact⟨a,z,h⟩
 ·rintro ⟨a,z,h⟩
  have aA:a.length+x.length<=y.length:=by rw[h];simp
  exact⟨a.length,aA,(z6 aA).mpr ⟨a,z,rfl,h⟩⟩
variable [WP]
theorem gJ {F:bh} {i:Int} {v:ah} (h:bq F (.int i) v): ∃t,v= .int i t:=h.i
theorem fQ {F:bh} {x:List Nat} {v:ah} (h:bq F (.str x) v): ∃t,v= .str (aK x) t/\x.length<=dZ:=h.i
theorem yo {F:bh} {b:Bool} {v:ah} (h:bq F (.bool b) v):v= .bool b:=h.i
theorem k8 {F:bh} {v:ah} (h:bq F .none v):v= .none:=h.i
theorem LY (c:Nat): ∀(n:Nat) (a:Array Nat),(gP n #[c]).foldl (· ++ ·) a=a++(gP n c).toArray
 |0,a=>by simp
 |n+1,a=>by
  rw[RT,List.foldl_cons,LY c n]
  refine wB.mp ?_
  simp[RT]
section
variable {prog:cP} {w:ba} {A:c2} {E:ah->az->Prop} {s:az} {Γ:bM} {T:bG}
theorem I7 {x y:List Nat} {t u:Tok} {K:ae->St->aB} {Q:ah->az->Prop} (q:fv Γ T K Q) (N:aX Γ T s) (aq:x.length<=dZ) (aC:y.length<=dZ) (h:SZ (x++y).length/\(K (.f (.str (x++y))) T.σ).holds):
  (if(aK x).length==0 then Ic (.str (aK y) u) else if(aK y).length==0 then Ic (.str (aK x) t) else Ib (aK x++aK y)).post Q s:=by
 obtain ⟨cG,h⟩:=h
 cases x with
 |nil=>exact q.fr N (.str _ _ aC) h
 |cons c x=>
  cases y with
  |nil=>exact q.fr N (.str _ _ aq) (by rw[dj] at h;exact h)
  |cons d y=>
   have e:aK (c::x)++aK (d::y)=aK ((c::x)++(d::y)):=by
    show rR _=rR _
    congr 1
    show(c::x).toArray++(d::y).toArray=_
    simp
   show(Ib _).post _ _
   rw[e]
   have z:(c::x++d::y).length<=dZ:=by rw[gi];exact cG
   exact⟨z,q.fr (N.toks _) (.str _ _ z) h⟩
omit [WP] in
theorem o3 {v:ae} {i:Int} (h:ha v=ab i):v= .f (.int i):=by
 cases v with
 |f v=>cases v with
  |int j=>cases h;rfl
  |_=>exact a0 h
 |_=>exact a0 h
omit [WP] in
theorem mE {v:ae} {x:List Nat} (h:ig v=ab x):v= .f (.str x):=by
 cases v with
 |f v=>cases v with
  |str j=>cases h;rfl
  |_=>exact a0 h
 |_=>exact a0 h
theorem vg {a b:ae} {x y:ah} {P:ah->ah->Prop} {f:Int->Int->Option Prop×ae} {k:Option Prop×ae->aB} (aE:T.A a x) (ag:T.A b y) (h:(ct (match ha a with
  |some i=> (ha b).map (f i)
  |none=>af) k).holds) (q: ∀i j t u,(k (f i j)).holds->P (.int i t) (.int j u)):P x y:=by
 revert h
 cases e:ha a with
 |none=>exact fK
 |some i=>cases cM:ha b with
  |none=>exact fK
  |some j=>
   rw[o3 e] at aE
   rw[o3 cM] at ag
   exact λh=>ak (gJ aE) λt r=>ak (gJ ag) λu ir=>by rw[r,ir];exact q i j t u h
omit [WP] in
theorem T8 {v:ae} {x:List aj} (h:Jm v=ab x):v= .f (.tup x):=by
 cases v with
 |f v=>cases v with
  |tup j=>rw[<-bQ h]
  |_=>exact a0 h
 |_=>exact a0 h
omit [WP] in
theorem Jk {v:ae} {x:List (List Nat)×List aj} (h:Ce v=ab x):v= .f (.ei x.1 x.2):=by
 cases v with
 |f v=>cases v with
  |ei _ _=>rw[<-bQ h]
  |_=>exact a0 h
 |_=>exact a0 h
omit [WP] in
theorem T5 {v:ae} {x:aj} (h:ur v=ab x):v= .f x:=by
 cases v with
 |f v=>rw[<-bQ h]
 |_=>exact a0 h
omit [WP] in
theorem xC {v:ae} {x:List aj} (h:r8 v=ab x):v= .f (.lst x):=by
 cases v with
 |f v=>cases v with
  |lst j=>rw[<-bQ h]
  |_=>exact a0 h
 |_=>exact a0 h
theorem I6 {a b:ae} {x y:ah} {P:ah->ah->Prop} {k:ae->aB} (aE:T.A a x) (ag:T.A b y) (h:(o5 .Add a b k).holds) (q: ∀i j t u,(k (.f (.int (i+j)))).holds->P (.int i t) (.int j u))
  (gN: ∀i j t u,i.length<=dZ->j.length<=dZ->SZ (i++j).length/\(k (.f (.str (i++j)))).holds->P (.str (aK i) t) (.str (aK j) u)):P x y:=by
 cases a with
 |f a=>cases a with
  |int i=>exact vg (f:=λi j=> (af,.f (.int (i+j)))) aE ag h q
  |str i=>
   have h:(ct ((ig b).map λy=> (ab (SZ (i++y).length),.f (.str (i++y)))) λr=>nW r.1 (k r.2)).holds:=h
   revert h
   cases e:ig b with
   |none=>exact fK
   |some j=>
    rw[mE e] at ag
    exact λh=>ak (fQ aE) λt r=>ak (fQ ag) λu ir=>by rw[r.1,ir.1];exact gN i j t u r.2 ir.2 h
  |_=>exact h.elim
 |_=>exact h.elim
theorem ada {i j:Int} (h:0<j):i.fmod j=i%j:=Int.fmod_eq_emod_of_nonneg _ (Rq h)
theorem Fk {j:Int} (h:0<j):(j==0)=ac:=beq_eq_false_iff_ne.mpr (Ru h)
theorem aca {i j:Int} (h:0<j) (k:j<10000): ¬divisionGoesByPylong i j=aa:=by
 unfold divisionGoesByPylong
 have:j.natAbs.log2<14:=(Nat.log2_lt (by omega)).mpr (by omega)
 simp only[Fk h,Rb,if_false,gE,decide_eq_true_eq]
 omega
theorem abV {c:Nat} {n:Int} {t u:Tok} {K:ae->St->aB} {Q:ah->az->Prop} (q:fv Γ T K Q) (N:aX Γ T s) (aq: [c].length<=dZ) (l1: -1000<n) (e0:n<1000) (h:(K (.f (.str (gP n.toNat c))) T.σ).holds):
  bg (bp prog w) A (qc .Mult (.str (aK [c]) t) (.int n u)) Q E s:=by
 have len:(aK [c]).length=1:=rfl
 refine P.mul_str (by simp;omega) (λ_ _=> ?_) (λ_ _=> ?_) ?_
 ·rw[len]
  have:(2 ^ 63-1:Int) /n≥1:=(Int.le_ediv_iff_mul_le (by omega)).mpr (by omega)
  omega
 ·rw[len]
  unfold Si
  rw[gi]
  simp;omega
 ·rw[len]
  split
  ·rename_i z
   have:n.toNat=0:=by omega
   rw[this] at h
   exact⟨fu _,q.fr (N.toks _) (.str [] _ (fu _)) h⟩
  ·split
   ·rename_i hE gN
    have e:n=1:=by simpa using gN
    rw[e] at h
    exact q.fr N (.str _ _ aq) h
   ·have e:(⟨(gP n.toNat (aK [c]).cps).foldl (· ++ ·) #[]⟩:a7)=aK (gP n.toNat c):=by
     show rR ((gP n.toNat #[c]).foldl (· ++ ·) #[])=rR _
     rw[LY,Array.empty_append]
    rw[e]
    have z:(gP n.toNat c).length<=dZ:=by rw[gi,A3];omega
    exact⟨z,q.fr (N.toks _) (.str _ _ z) h⟩
theorem Ul {op:mx} {a b:ae} {hV kp:ah} {K:ae->St->aB} (N:aX Γ T s) (aE:T.A a hV) (ag:T.A b kp) {Q:ah->az->Prop} (h:(o5 op a b λr=>K r T.σ).holds) (q:fv Γ T K Q):
  bg (bp prog w) A (qc op hV kp) Q E s:=by
 cases op with
 |Add=>exact I6 (P:=λx y=>bg (bp prog w) A (qc .Add x y) Q E s) aE ag h (λi j t u h=>P.add_int (q.fr (N.toks _) (.int _ _) h)) (λi j t u aq aC h=>P.add_str (I7 q N aq aC h))
 |Sub=>exact vg (P:=λx y=>bg (bp prog w) A (qc .Sub x y) Q E s) aE ag h (λi j t u h=>P.sub_int (q.fr (N.toks _) (.int _ _) h))
 |Mod=>exact vg (P:=λx y=>bg (bp prog w) A (qc .Mod x y) Q E s) (f:=λi j=> (ab (0<j),.f (.int (i%j)))) aE ag h λi j t u h=>AutoIntOps.mod_1 (ne_true_of_eq_false<|Fk h.1) (by rw[ada h.1];exact q.fr (N.toks _) (.int _ _) h.2)
 |FloorDiv=>exact vg (P:=λx y=>bg (bp prog w) A (qc .FloorDiv x y) Q E s) (f:=λi j=> (ab (0<j/\j<10000),.f (.int (i/j)))) aE ag h λi j t u h=>
   AutoIntOps.floordiv_1 (ne_true_of_eq_false<|Fk h.1.1) (aca h.1.1 h.1.2) (by rw[Int.fdiv_eq_ediv_of_nonneg _ (Rq h.1.1)];exact q.fr (N.toks _) (.int _ _) h.2)
 |Mult=>
  have h:(ct (match ig a with
   |some [c]=> (ha b).map λn=> (ab (-1000<n/\n<1000),ae.f (.str (gP n.toNat c)))
   |_=>af) λr=>nW r.1 (K r.2 T.σ)).holds:=h
  revert h
  cases e:ig a with
  |none=>exact fK
  |some l=>cases l with
   |nil=>exact fK
   |cons c l=>cases l with
    |cons _ _=>exact fK
    |nil=>cases cM:ha b with
     |none=>exact fK
     |some n=>
      rw[mE e] at aE
      rw[o3 cM] at ag
      exact λh=>ak (fQ aE) λt r=>ak (gJ ag) λu ir=>by rw[r.1,ir];exact abV q N r.2 h.1.1 h.1.2 h.2
 |_=>exact h.elim
noncomputable def B4:mx->Bool
 | .Add=>aa
 | .Sub=>aa
 |_=>ac
theorem MN {op:mx} {a b:ae} {hV kp:ah} {K:ae->St->aB} (bV:B4 op=aa) (N:aX Γ T s) (aE:T.A a hV) (ag:T.A b kp) {Q:ah->az->Prop} (h:(o5 op a b λr=>K r T.σ).holds) (q:fv Γ T K Q):
  bg (bp prog w) A (xg op hV kp) Q E s:=by
 cases op with
 |Add=>exact I6 (P:=λx y=>bg (bp prog w) A (xg .Add x y) Q E s) aE ag h (λi j t u h=>P.iadd_int (q.fr (N.toks _) (.int _ _) h)) (λi j t u aq aC h=>P.iadd_str (I7 q N aq aC h))
 |Sub=>exact vg (P:=λx y=>bg (bp prog w) A (xg .Sub x y) Q E s) aE ag h (λi j t u h=>P.isub_int (q.fr (N.toks _) (.int _ _) h))
 |_=>exact ck bV
end
end
section
open Builtin Builtin.Str
variable [WP]
section
variable {prog:cP} {w:ba} {A:c2} {E:ah->az->Prop} {s:az} {Γ:bM} {T:bG}
def ua (Γ:bM) (T:bG) (K:Bool->St->aB) (Q:Bool->az->Prop):Prop:= ∀a4 b s',T.dS a4->aX Γ a4 s'->(K b a4.σ).holds->Q b s'
theorem ua.ex {K:Bool->St->aB} {Q:Bool->az->Prop} {a4:bG} (x:T.dS a4) (q:ua Γ T K Q):ua Γ a4 K Q:=λmB b s' y=>q mB b s' (x.trans y)
theorem Zi {v:ae} {x:ah} {r:Bool} (aW:T.A v x) (h:MT v=ab r):plainIs x .none=aa/\(x==Value.none)=r:=by
 cases v with
 |ap y=>rw[aW.2];exact⟨rfl,bQ h⟩
 |dy y f=>exact ak aW.2 λa e=>by rw[e.1];exact⟨rfl,bQ h⟩
 |f v=>
  revert h
  cases (show bq T.aP v x from aW)<;>first|exact λh=> ⟨rfl,bQ h⟩ |exact λh=>nomatch h
theorem Ze {c:Bool} {v:ae} {x:ah} {r:Bool} (aW:T.A v x) (h:MQ c v=ab r):plainIs x (.bool c)=aa/\(x==SG c)=r:=by
 cases v with
 |f v=>cases v with
  |none=>rw[k8 aW];exact⟨rfl,bQ h⟩
  |bool b=>rw[yo aW];exact⟨by cases b<;>cases c<;>rfl,AO (by cases b<;>cases c<;>rfl) (bQ h)⟩
  |_=>exact a0 h
 |_=>exact a0 h
theorem yZ {a b:ae} {x y:ah} {r:Bool} (aE:T.A a x) (ag:T.A b y) (h:vh a b=ab r):plainIs x y=aa/\(x==y)=r:=by
 cases b with
 |f v=>cases v with
  |none=>rw[k8 ag];exact Zi aE h
  |bool b=>rw[yo ag];exact Ze aE h
  |_=>exact a0 h
 |_=>exact a0 h
theorem U2 {op:hr} {i j:Int} {t u:Tok} {r:Bool} {Q:ah->az->Prop} (h:CL op i j=ab r) (q:Q (.bool r) s):
  bg (bp prog w) A (qd op (.int i t) (.int j u)) Q E s:=by
 cases op with
 |Eq=>exact P.eq_int (by rw[<-bQ h] at q;exact q)
 |NotEq=>exact P.ne_int (by rw[<-bQ h] at q;exact q)
 |Lt=>exact P.lt_int (by rw[<-bQ h] at q;exact q)
 |LtE=>exact P.le_int (by rw[<-bQ h] at q;exact q)
 |Gt=>exact P.gt_int (by rw[<-bQ h] at q;exact q)
 |GtE=>exact P.ge_int (by rw[<-bQ h] at q;exact q)
 |_=>exact a0 h
theorem U5 {op:hr} {x y:List Nat} {t u:Tok} {r:Bool} {Q:ah->az->Prop} (h:CM op x y=ab r) (q:Q (.bool r) s):
  bg (bp prog w) A (qd op (.str (aK x) t) (.str (aK y) u)) Q E s:=by
 cases op with
 |Eq=>exact P.eq_str (by have:=bQ h;rw[Eb] at this;rw[<-this] at q;exact q)
 |NotEq=>exact P.ne_str (by have:=bQ h;rw[Eb] at this;rw[<-this] at q;exact q)
 |Lt=>exact P.lt_str (by have:=bQ h;rw[Em] at this;rw[<-this] at q;exact q)
 |LtE=>exact P.le_str (by have:=bQ h;rw[Em] at this;rw[<-this] at q;exact q)
 |In=>exact P.in_str (by rw[MJ];exact bQ h▸q)
 |NotIn=>exact P.notIn_str (by rw[MJ];exact bQ h▸q)
 |_=>exact a0 h
noncomputable def so:ah->ah->Bool
 | .none,.none=>aa
 | .int i _,.int j _=>i==j
 | .str x _,.str y _=>x==y
 |_,_=>ac
abbrev Rm (A:c2) (s:az) (x y:ah) (b:Bool):Prop:=Ih A s x y (so x y)/\so x y=b
theorem Xg {A:c2} {v w:aj} {x y:ah} {b:Bool} (aW:bq T.aP v x) (hw:bq T.aP w y) (h:yt v w=ab b):Rm A s x y b:=by
 cases v with
 |none=>
  rw[k8 aW]
  cases w with
  |none=>rw[k8 hw];exact⟨Ii _,bQ h⟩
  |int i=>exact ak (gJ hw) λu e=>by rw[e];exact⟨SeqAt.EqAt.none_int _ _,bQ h⟩
  |str i=>exact ak (fQ hw) λu e=>by rw[e.1];exact⟨SeqAt.EqAt.none_str _ _,bQ h⟩
  |_=>exact a0 h
 |int i=>
  refine ak (gJ aW) λt e=> ?_
  rw[e]
  cases w with
  |none=>rw[k8 hw];exact⟨SeqAt.EqAt.int_none _ _,bQ h⟩
  |int i=>exact ak (gJ hw) λu e=>by rw[e];exact⟨SD _ _ _ _,bQ h⟩
  |_=>exact a0 h
 |str i=>
  refine ak (fQ aW) λt e=> ?_
  rw[e.1]
  cases w with
  |none=>rw[k8 hw];exact⟨SeqAt.EqAt.str_none _ _,bQ h⟩
  |str j=>exact ak (fQ hw) λu e=>by rw[e.1];exact⟨Ij _ _ _ _,AO (by show(aK i==aK j)=_;rw[Eb,<-SeqAt.str_beq]) (bQ h)⟩
  |_=>exact a0 h
 |_=>exact a0 h
theorem MF {A:c2} {v:aj} {x:ah} (aW:bq T.aP v x) {l:List aj}: ∀{ni:List ah} {r:Bool},ew T.aP l ni->kH v l=ab r->
  (∀y∈ni,Ih A s y x (so y x))/\ni.any (λy=>so y x)=r:=by
 induction l with
 |nil=>exact λaA h=>by rw[aA.q4];exact⟨λy cO=>absurd cO eG,bQ h⟩
 |cons w l ai=>
  refine λ{ni r} aA h=>bT aA.cases λy zs aA=> ?_
  have h:(match yt w v,kH v l with
   |some b,ab c=>ab (b||c)
   |_,_=>af)=ab r:=h
  rw[aA.1]
  cases e1:yt w v with
  |none=>rw[e1] at h;exact a0 h
  |some b=>cases e2:kH v l with
   |none=>rw[e1,e2] at h;exact a0 h
   |some c=>
    rw[e1,e2] at h
    have f:=Xg (A:=A) (s:=s) aA.2.1 aW e1
    have k:=ai aA.2.2 e2
    refine⟨λz cG=> ?_,by rw[RC,f.2,k.2];exact bQ h⟩
    cases cG with
    |head=>exact f.1
    |tail _ cG=>exact k.1 z cG
noncomputable def MG (m:Bool):hr:=cond m .In .NotIn
theorem Y9 {m:Bool} {b:ae} {v:aj} {x:ah} {l:List aj} {y:ah} {r:Bool} {Q:ah->az->Prop} (N:aX Γ T s) (aW:bq T.aP v x) (ag:T.A b y) (aA:tf b=ab l) (h:kH v l=ab r)
  (q:Q (.bool (cond m r (!r))) s):bg (bp prog w) A (qd (MG m) x y) Q E s:=by
 cases b with
 |f u=>cases u with
  |lst cz=>
   cases aA
   refine c5 (bq.i ag) λa vs n i=> ?_
   rw[i.1]
   have k:=MF (A:=A.in1) (s:=s) aW i.2.2 h
   have I:s.heap.IsList a vs.toArray:=⟨_,N.aY.bE _ _ i.2.1,rfl,_,rfl⟩
   have e:vs.toArray.any (λy=>so y x)=r:=by rw[<-k.2,RE]
   rw[<-e] at q
   have M:=λy cO=>k.1 y (wA.mpr cO)
   cases m with
   |true=>exact SeqAt.in_listAt _ I M q
   |false=>exact SeqAt.notIn_listAt _ I M q
  |tup cz=>
   cases aA
   refine bT (bq.i ag) λa vs i=> ?_
   rw[i.1]
   have k:=MF (A:=A.in1) (s:=s) aW i.2.2 h
   have I:s.heap.IsTuple a vs.toArray:=⟨_,N.aY.bE _ _ i.2.1,rfl,_,rfl⟩
   have e:vs.toArray.any (λy=>so y x)=r:=by rw[<-k.2,RE]
   rw[<-e] at q
   have M:=λy cO=>k.1 y (wA.mpr cO)
   cases m with
   |true=>exact SeqAt.in_tupleAt _ I M q
   |false=>exact SeqAt.notIn_tupleAt _ I M q
  |_=>exact a0 aA
 |_=>exact a0 aA
def kvs (ks:List (List Nat)) (es:List cT):List (a7×ah):=(ks.map aK).zip (es.map (·.val))
theorem isStrOf_self (k:a7) (t:Tok):Bm k (.str k t)=aa:=by unfold Bm;exact beq_self_eq_true _
theorem wO.is {k:List Nat} {e:cT} (h:wO k e):(strKind prog w).is (aK k) e.key=aa:=ak h.1 λt e=>by rw[e];exact isStrOf_self (aK k) t
theorem Nf {ks:List (List Nat)} {es:List cT} (h:gh ks es):Pairs (strKind prog w) es (kvs ks es):=by
 induction h with
 |nil=>exact .nil
 |cons h t ai=>exact .cons (wO.is h) rfl ai
theorem gh.keys (ay:WP.P=w.params) {ks:List (List Nat)} {es:List cT} (h:gh ks es): ∀e∈es,∃k,(strKind prog w).is k e.key=aa/\e.hash=(strKind prog w).hash k:=by
 induction h with
 |nil=>exact λe h=>absurd h eG
 |cons h t ai=>exact wU.mpr ⟨⟨_,wO.is h,by rw[h.2,ay];rfl⟩,ai⟩
theorem sR {ks:List (List Nat)} {es:List cT} (h:gh ks es):(kvs ks es).map (·.1)=ks.map aK:=by
 induction h with
 |nil=>rfl
 | @cons k e _ _ h t ai=>exact congrArg (aK k:: ·) ai
theorem vZ {a b:List Nat} (h:aK a=aK b):a=b:=List.toArray_inj (congrArg Str.cps h)
theorem pa {h:cu} {a:aR} {ks:List (List Nat)} {es:List cT} {n:Nat} (ay:WP.P=w.params) (aE:h.get? a=ab (eB es n)) (bX:ks.Nodup) (aS:gh ks es):
  h.DictOf (strKind prog w) a (kvs ks es):=
 ⟨_,es.toArray,n,aE,⟨rfl,rfl,rfl⟩,rfl,λe he=>aS.keys ay e (wA.mpr he),Nf aS,by
  rw[sR aS]
  exact AV aK (λa b sE e=>sE (vZ e)) bX⟩
theorem x7 (k x:List Nat):decide (aK k=aK x)=aM k x:=by
 cases e:aM k x with
 |true=>exact decide_eq_true (congrArg aK (gL.mp e))
 |false=>exact decide_eq_false λq=>by rw[gL.mpr (vZ q)] at e;cases e
theorem Nd {ks:List (List Nat)} {es:List cT} (x:List Nat) (h:gh ks es):(rZ (kvs ks es) (aK x)).isSome=ik x ks:=by
 induction h with
 |nil=>rfl
 | @cons k e ks es h t ai=>
  unfold rZ at ai⊢
  show(H2 _ (HI _ ((aK k,e.val)::kvs ks es))).isSome=(aM k x||ik x ks)
  rw[wR,x7]
  cases aM k x with
  |true=>rfl
  |false=>exact ai
theorem Y6 {op:hr} {x:List Nat} {t:Tok} {d:aR} {ks:List (List Nat)} {es:List cT} {n:Nat} {r:Bool} {Q:ah->az->Prop} (ay:WP.P=w.params) (hd:s.heap.get? d=ab (eB es n)) (bX:(ks.Nodup/\ ∀k∈ks,k.length<=dZ)/\(d==lI)=ac) (aS:gh ks es)
  (h:inD op x ks=ab r) (q:Q (.bool r) {s with toks:=s.toks+1}):bg (bp prog w) A (qd op (.str (aK x) t) (.ref d)) Q E s:=by
 have D:=pa (prog:=prog) ay hd bX.1.1 aS
 have is:(strKind prog w).is (aK x) (.str (aK x) t)=aa:=isStrOf_self (aK x) t
 cases op with
 |In=>exact wpAny_in_of is bX.2 D.mapOf (by rw[Nd x aS];exact bQ h▸q)
 |NotIn=>exact wpAny_notIn_of is bX.2 D.mapOf (by rw[Nd x aS];exact bQ h▸q)
 |_=>exact a0 h
theorem Y7 {op:hr} {i:Int} {t:Tok} {d:aR} {ks:List (List Nat)} {es:List cT} {n:Nat} {r:Bool} {Q:ah->az->Prop} (hd:s.heap.get? d=ab (eB es n)) (bX:(d==lI)=ac) (aS:gh ks es)
  (h:DO op ks=ab r) (q:Q (.bool r) {s with toks:=s.toks+1}):bg (bp prog w) A (qd op (.int i t) (.ref d)) Q E s:=by
 cases op with
 |In=>
  cases aS with
  |nil=>
   have D:s.heap.DictOf (intKind prog w) d []:=⟨_, #[],n,hd,⟨rfl,rfl,rfl⟩,rfl,λe he=>absurd he (Array.not_mem_empty e),.nil,.nil⟩
   exact wpAny_in_of (k:=i) (by show SH i (.int i t)=aa;simp[SH]) bX D.mapOf (by rw[<-bQ h] at q;exact q)
  |cons _ _=>exact a0 h
 |_=>exact a0 h
theorem Vs {T:bG} {v:ae} {e:List (List Nat)×List ae} (h:nO T.σ v=ab e): ∃y,v= .ap y/\T.σ.g y=ab (.dict e.1 e.2):=by
 cases v with
 |ap y=>
  have h:(match T.σ.g y with
   |some ao=>Jg ao
   |none=>af)=ab e:=h
  cases cI:T.σ.g y with
  |none=>rw[cI] at h;exact a0 h
  |some ao=>
   rw[cI] at h
   cases ao with
   |dict ks l=>cases h;exact⟨y,rfl,cI⟩
   |_=>exact a0 h
 |_=>exact a0 h
theorem uN {v:ae} {x:ah} {e:List (List Nat)×List ae} (N:aX Γ T s) (aW:T.A v x) (h:nO T.σ v=ab e): ∃y,v= .ap y/\T.σ.g y=ab (.dict e.1 e.2)/\x= .ref (T.ax (2*y))/\ ∃es n,∃_:(e.1.Nodup/\ ∀k∈e.1,k.length<=dZ)/\(T.ax (2*y)==lI)=ac,s.heap.get? (T.ax (2*y))=ab (eB es n)/\
   gh e.1 es/\bC (λa e=>T.A a (e:cT).val/\glob a=aa) e.2 es:=
 ak (Vs h) λy h=> ⟨y,h.1,h.2,(show T.A (.ap y) x from h.1▸aW).2,N.aY.cell y _ h.2⟩
def U3 (op:hr) (a b:ae) (σ:St):Option Bool:=match a with
  | .f (.int i)=>match b with
   | .f (.int j)=>CL op i j
   | .ap d=> (nO σ (.ap d)).bind λe=>DO op e.1
   |_=>af
  | .f (.str x)=>match b with
   | .f (.str y)=>CM op x y
   | .f .none=>sl op
   | .ap d=> (nO σ (.ap d)).bind λe=>inD op x e.1
   |_=>af
  | .f .none=>match b with
   | .f (.str _)=>sl op
   | .f (.int _)=>sl op
   |_=>af
  |_=>af
theorem U4 {op:hr} {a b:ae} {hV kp:ah} {r:Bool} {Q:ah->az->Prop} (ay:WP.P=w.params) (N:aX Γ T s) (aE:T.A a hV) (ag:T.A b kp) (h:U3 op a b T.σ=ab r) (q: ∀s',aX Γ T s'->Q (.bool r) s'):bg (bp prog w) A (qd op hV kp) Q E s:=by
 cases a with
 |f a=>cases a with
  |int i=>
   refine ak (gJ aE) λt e=> ?_
   rw[e]
   cases b with
   |f b=>cases b with
    |int j=>exact ak (gJ ag) λu e=>by rw[e];exact U2 h (q _ N)
    |_=>exact a0 h
   |ap d=>
    refine ak (p8.mp h) λe h=>ak (uN N ag h.1) λy c=>c5 c.2.2.2 λes n bX f6=> ?_
    rw[c.2.2.1];exact Y7 f6.1 bX.2 f6.2.1 h.2 (q _ (N.toks _))
   |_=>exact a0 h
  |str x=>
   refine ak (fQ aE) λt e=> ?_
   rw[e.1]
   cases b with
   |f b=>cases b with
    |str j=>exact ak (fQ ag) λu e=>by rw[e.1];exact U5 h (q _ N)
    |none=>
     rw[k8 ag]
     cases op with
     |Eq=>cases h;exact SeqAt.RcAt.str_none _ _ _ _ _ _ (q _ N)
     |_=>exact a0 h
    |_=>exact a0 h
   |ap d=>
    refine ak (p8.mp h) λe h=>ak (uN N ag h.1) λy c=>c5 c.2.2.2 λes n bX f6=> ?_
    rw[c.2.2.1];exact Y6 ay f6.1 bX f6.2.1 h.2 (q _ (N.toks _))
   |_=>exact a0 h
  |none=>
   rw[k8 aE]
   cases b with
   |f b=>cases b with
    |str j=>
     refine ak (fQ ag) λu e=> ?_
     rw[e.1]
     cases op with
     |Eq=>cases h;exact SeqAt.RcAt.none_str _ _ _ _ _ _ (q _ N)
     |_=>exact a0 h
    |int j=>
     refine ak (gJ ag) λu e=> ?_
     rw[e]
     cases op with
     |Eq=>cases h;exact SeqAt.RcAt.none_int _ _ _ _ _ _ (q _ N)
     |_=>exact a0 h
    |_=>exact a0 h
   |_=>exact a0 h
  |_=>exact a0 h
 |_=>exact a0 h
theorem U6 {op:hr} {a b:ae} {hV kp:ah} {r:Bool} {Q:ah->az->Prop} (ay:WP.P=w.params) (N:aX Γ T s) (aE:T.A a hV) (ag:T.A b kp) (h:Lo op a b T.σ=ab r)
  (q: ∀s',aX Γ T s'->Q (.bool r) s'):bg (bp prog w) A (qd op hV kp) Q E s:=by
 cases op with
 |Is=>exact wpAny_is_plain (yZ aE ag h).1 (by rw[(yZ aE ag h).2];exact q _ N)
 |IsNot=>
  have h:O0 (vh a b)=ab r:=h
  cases z:vh a b with
  |none=>rw[z] at h;exact a0 h
  |some c=>
   rw[z] at h
   exact wpAny_isNot_plain (yZ aE ag z).1 (by rw[(yZ aE ag z).2];exact bQ h▸q _ N)
 |_=>exact U4 ay N aE ag h q
theorem abK {op:hr} {a b:ae} {m:Bool×aj×List aj} (h:EM op a b=ab m):op=MG m.1/\tf b=ab m.2.2/\a= .f m.2.1:=by
 have K: ∀{c:Bool},((tf b).bind λl=> (ur a).map λx=> (c,x,l))=ab m->m.1=c/\tf b=ab m.2.2/\a= .f m.2.1:=λh=>
  ak (p8.mp h) λl h=>ak (p9.mp h.2) λx e=>by
   cases e.2
   cases a with
   |f v=>cases e.1;exact⟨rfl,h.1,rfl⟩
   |_=>exact a0 e.1
 cases op with
 |In=>exact⟨by rw[(K h).1];rfl,(K h).2⟩
 |NotIn=>exact⟨by rw[(K h).1];rfl,(K h).2⟩
 |_=>exact a0 h
theorem sg {op:hr} {a b:ae} {hV kp:ah} {k:Bool->aB} {Q:ah->az->Prop} (ay:WP.P=w.params) (N:aX Γ T s) (aE:T.A a hV) (ag:T.A b kp) (h:(o8 op a b T.σ k).holds)
  (q: ∀r s',aX Γ T s'->(k r).holds->Q (.bool r) s'):bg (bp prog w) A (qd op hV kp) Q E s:=by
 unfold o8 at h
 revert h
 cases e:EM op a b with
 |none=>exact λh=>ak (dp h) λr h=>U6 ay N aE ag h.1 λs' cR=>q r s' cR h.2
 |some m=>
  exact λh=>ak h λb h=>by
   have i:=abK e
   rw[i.1]
   rw[i.2.2] at aE
   exact Y9 N aE ag i.2.1 h.1 (q _ s N h.2)
end
end
section
open Builtin
theorem EY {α β:Type} {l:List α} {m:List β} (e:l.length=m.length):(!m.toArray.isEmpty)=sZ l:=by
 cases l with
 |nil=>rw[wQ e.symm];rfl
 |cons _ _=>cases m with
  |nil=>cases e
  |cons _ _=>rfl
theorem pS {α:Type} {l:List α} (h:cm l=aa):l.length<=1000000:=cS h
theorem z2 {α:Type} {l:List α} (h:cm l=aa):(l.length:Int)<2 ^ 63:=by have:=pS h;omega
variable [WP]
theorem ew.length {F:bh} {l:List aj}: ∀{m:List ah},ew F l m->l.length=m.length:=by
 induction l with
 |nil=>exact λh=>by rw[h.q4];rfl
 |cons v l ai=>exact λh=>bT h.cases λy zs h=>by rw[h.1];exact congrArg tU (ai h.2.2)
theorem n2 {ks:List (List Nat)} {es:List cT} (h:gh ks es):(kvs ks es).length=es.length:=by
 unfold kvs
 rw[List.length_zip,ed,ed,h.length,Nat.min_self]
theorem abS:ID (.type "method") "__bool__" =pure af:=by rw[S1,SO];kernel_rfl
theorem abT:ID (.type "method") "__len__" =pure af:=by rw[S1,SO];kernel_rfl
section
variable {prog:cP} {w:ba} {A:c2} {E:ah->az->Prop} {s:az} {Γ:bM} {T:bG}
theorem LA {α:Type} {a:aR} {ks:List (List Nat)} {l:List α} {es:List cT} {n:Nat} {Q:Bool->az->Prop} (ay:WP.P=w.params) (aE:s.heap.get? a=ab (eB es n)) (bX:(ks.Nodup/\ ∀k∈ks,k.length<=dZ)/\(a==lI)=ac) (aS:gh ks es)
  (e:l.length=es.length) (cG:cm l=aa) (h:Q (sZ l) {s with toks:=s.toks+1+1}):bg (bp prog w) A (truthy (.ref a)) Q E s:=by
 have k:=n2 aS
 refine wpAny_truthy_dict bX.2 (pa (prog:=prog) ay aE bX.1.1 aS) (by rw[k,<-e];exact z2 cG) ?_
 rw[<-List.isEmpty_toArray,EY (e.trans k.symm)];exact h
theorem N0 {α:Type} {a:aR} {l:List α} {vs:List ah} {n:Nat} {Q:Bool->az->Prop} (aE:s.heap.get? a=ab (lobj vs n))
  (e:l.length=vs.length) (cG:cm l=aa) (h:Q (sZ l) {s with toks:=s.toks+1+1}):bg (bp prog w) A (truthy (.ref a)) Q E s:=
 wpAny_truthy_list ⟨_,aE,rfl,_,rfl⟩ (by rw[hq,<-e];exact z2 cG) (by rw[EY e];exact h)
theorem abU {a:aR} {f x:ah} {Q:Bool->az->Prop} (aE:s.heap.get? a=ab (w9 f x)) (q:Q aa s):bg (bp prog w) A (truthy (.ref a)) Q E s:=by
 have dQ:s.TypeIs (.ref a) "method" :=⟨_,aE,rfl⟩
 unfold truthy
 refine bx (wpAny_callSpecial?_none (name:=cE "__bool__") dQ abS ?_)
 refine bx (IJ (name:=cE "__len__") dQ abT ?_)
 exact dc q
theorem Ae {v:ae} {x:ah} {K:Bool->St->aB} {Q:Bool->az->Prop} (ay:WP.P=w.params) (N:aX Γ T s) (aW:T.A v x) (h:(v7 v T.σ K).holds) (q:ua Γ T K Q):
  bg (bp prog w) A (truthy x) Q E s:=by
 cases v with
 |dy y f=>
  refine ak aW.2 λa e=> ?_
  rw[e.1]
  exact abU (N.aY.bE _ _ e.2) (q T aa _ (.refl T) N h)
 |ap y=>
  rw[aW.2]
  have c:=N.aY.cell y
  have h:(ct (match T.σ.g y with
   |some (.list l)=>ab (rr l)
   |some (.dict _ l)=>ab (rr l)
   |_=>af) λr=>nW r.1 (ask r.2 T.σ K)).holds:=h
  revert h c
  cases T.σ.g y with
  |none=>exact λ_ h=>h.elim
  |some ao=>
   cases ao with
   |inst _ _ _=>exact λ_ h=>h.elim
   |list l=>exact λc h=>bT (c _ rfl) λvs n c=>N0 c.1 c.2.length h.1 (q T _ _ (.refl T) (N.toks _) (nI h.2))
   |dict ks l=>exact λc h=>c5 (c _ rfl) λes n bX c=>LA ay c.1 bX c.2.1 c.2.2.length h.1 (q T _ _ (.refl T) (N.toks _) (nI h.2))
 |f v=>
  have i:=bq.i aW
  cases v with
  |none=>rw[i];exact λ_ _ _=>q T ac _ (.refl T) N h
  |bool b=>rw[i];exact t9 (q T b _ (.refl T) N (nI h))
  |int n=>exact ak i λt e=>by rw[e];exact P.truthy_int (q T _ _ (.refl T) N (nI h))
  |str l=>
   refine ak i λt e=> ?_
   rw[e.1]
   have len:(aK l).length=l.length:=hq ..
   refine SA (by have:=e.2;rw[gi] at this;rw[len];omega) (q T _ _ (.refl T) (N.toks _) ?_)
   rw[len]
   cases l with
   |nil=>exact h
   |cons _ _=>exact h
  |tup l=>
   refine bT i λa vs i=> ?_
   rw[i.1]
   exact ktl_truthy (N.aY.bE _ _ i.2.1) (by rw[hq,<-i.2.2.length];exact Rv.mpr (z2 h.1)) (by rw[EY i.2.2.length];exact q T _ _ (.refl T) (N.toks _) (nI h.2))
  |lst l=>
   refine c5 i λa vs n i=> ?_
   rw[i.1]
   exact N0 (N.aY.bE _ _ i.2.1) i.2.2.length h.1 (q T _ _ (.refl T) (N.toks _) (nI h.2))
  |ei ks l=>
   refine c5 i λa es n i=> ?_
   rw[i.1]
   exact LA ay (N.aY.bE _ _ i.2.2.1) i.2.1 i.2.2.2.1 (by rw[i.2.2.2.2.length,ed]) h.1 (q T _ _ (.refl T) (N.toks _) (nI h.2))
  |_=>exact h.elim
end
end
section
def seq (a b:a7):Bool:=aM a.cps.toList b.cps.toList
theorem seq_eq {a b:a7} (h:seq a b=aa):a=b:=by
 have:=gL.mp h
 cases a;cases b
 congr 1
 exact wB.mp this
def E1 (n:Nat) (id:a7):Bool:=seq (nm n) id
noncomputable def s6 (id:a7):Bool:= !(id==("__debug__" :a7))
noncomputable def zA:Expr->Bool
 | .Call (.Name id _) [] [] _=>id !=("super" :a7)
 |_=>aa
noncomputable def notStar:Expr->Bool
 | .Starred .. =>ac
 |_=>aa
noncomputable def DX:Expr->Bool
 | .UnaryOp .Not _ _=>ac
 | .BoolOp .. =>ac
 | .IfExp .. =>ac
 | .Compare .. =>ac
 |_=>aa
structure tI where
 x:Expr->Bool
 l:List Expr->Bool
 k:List mv->Bool
 e:Expr->Expr
 dw:List Expr->List Expr
 k7:List mv->List mv
noncomputable def tI.no:tI:=⟨λ_=>ac,λ_=>ac,λ_=>ac,id,id,id⟩
noncomputable def tI.of (f:Expr->Bool) (e:Expr->Expr):tI:=⟨f,λ_=>ac,λ_=>ac,e,id,id⟩
noncomputable def cj:Expr->Expr
 | .BinOp l _ _ _=>l
 | .UnaryOp _ e _=>e
 | .IfExp t _ _ _=>t
 | .Compare l _ _ _=>l
 | .Call f _ _ _=>f
 | .FormattedValue v _ _ _=>v
 | .Attribute v _ _=>v
 | .Subscript v _ _=>v
 | .ListComp e _ _ _=>e
 |e=>e
noncomputable def gD:Expr->Expr
 | .BinOp _ _ r _=>r
 | .IfExp _ b _ _=>b
 | .Subscript _ s _=>s
 |e=>e
noncomputable def QQ:Expr->Expr
 | .IfExp _ _ o _=>o
 |e=>e
noncomputable def xs:Expr->List Expr
 | .BoolOp _ vs _=>vs
 | .Compare _ _ cs _=>cs
 | .Call _ as _ _=>as
 | .JoinedStr vs _=>vs
 | .List es _=>es
 | .Tuple es _ _=>es
 |_=> []
noncomputable def pX:Expr->List mv
 | .Call _ _ ks _=>ks
 |_=> []
noncomputable def jq:Expr->Nat
 | .Constant _ k _=>k
 | .Tuple _ k _=>k
 |_=>0
noncomputable def fJ:Expr->Comprehension
 | .ListComp _ (g::_) _ _=>g
 |e=> ⟨e,e,[],0⟩
noncomputable def jp (sc:cN):Expr->cN
 | .ListComp _ _ s _=>s
 |_=>sc
noncomputable def QU:Expr->Option Expr
 | .Slice l _ _ _=>l
 |_=>af
noncomputable def QT:Expr->Option Expr
 | .Slice _ h _ _=>h
 |_=>af
noncomputable def h0 (l:List Expr):Expr:=l.headD default
noncomputable def aq (l:List Expr):Expr:=l.tail.headD default
noncomputable def D1 (l:List mv):mv:=l.headD ⟨af,default,default⟩
noncomputable def MS:Expr->Bool
 | .Name _ _=>aa
 |_=>ac
theorem Zh {P:Expr->Prop} {e:Expr} (h:MS e=aa) (k: ∀id p,P (.Name id p)):P e:=by
 cases e with
 |Name id p=>exact k id p
 |_=>exact ck h
theorem jg {b:Bool} (h:(!b)=aa):b=ac:=(oD b).mp h
theorem i3 {a b:Bool} (x:a=aa) (y:b=aa):(a&&b)=aa:=by rw[x,y];rfl
theorem b2 {a b:Bool} (h:(a&&b)=aa):a=aa/\b=aa:=fV.mp h
theorem cU {a b c:Bool} (h:(a&&b&&c)=aa):a=aa/\b=aa/\c=aa:=⟨(b2 (b2 h).1).1,(b2 (b2 h).1).2,(b2 h).2⟩
theorem d0 {a b c d:Bool} (h:(a&&b&&c&&d)=aa):a=aa/\b=aa/\c=aa/\d=aa:=⟨(b2 (cU h).1).1,(b2 (cU h).1).2,(cU h).2⟩
theorem fk {a b c d e:Bool} (h:(a&&b&&c&&d&&e)=aa):a=aa/\b=aa/\c=aa/\d=aa/\e=aa:=⟨(b2 (d0 h).1).1,(b2 (d0 h).1).2,(d0 h).2⟩
theorem k1 {a b c d e f:Bool} (h:(a&&b&&c&&d&&e&&f)=aa):a=aa/\b=aa/\c=aa/\d=aa/\e=aa/\f=aa:=⟨(b2 (fk h).1).1,(b2 (fk h).1).2,(fk h).2⟩
noncomputable def fG (sc:cN) (id:a7):Bool:=sc.names.lookup id==ab .local
noncomputable def pz (sc:cN) (id:a7):Bool:=sc.names.lookup id==ab .cell
noncomputable def DW (sc:cN) (id:a7):Bool:=sc.names.lookup id==ab .globalImplicit
noncomputable def qG (args:List Expr) (kws:List mv):Bool:=d4 (args.length+kws.length) 20
noncomputable def zz:Expr->Bool
 | .Slice .. =>ac
 |_=>aa
noncomputable def y3:X->Bool
 | .no=>aa
 |_=>ac
def jI (sc:cN) (n:String):Bool:=DW sc (cE n)&&s6 (cE n)
def zl (v:Expr) (b0 pos:er):Bool:=zA v&&(b0.endLine==pos.line)
noncomputable def zy:Expr->Bool
 | .Set .. =>ac
 |_=>aa
noncomputable def l7 (scope sc:cN):cN:={scope with names:=scope.names.map λ(n,k)=>if(k== .free&&sc.kind== .function&&sc.names.lookup n==ab .cell) then(n,.cell) else(n,k)}
noncomputable def Di (fr:List Nat):List (a7×mw)->Bool
 | []=>aa
 | (n,k)::r=> (match k with
  | .free=>fr.any λm=>E1 m n
  | .cell=>ac
  |_=>aa)&&Di fr r
noncomputable def Dh (sc:cN) (scope:cN):List Nat->Bool
 | []=>aa
 |m::r=>scope.names.lookup (nm m)==ab .free&&pz sc (nm m)&&Dh sc scope r
def x2 (scope sc:cN) (n:Nat) (fr:List Nat):Bool:=fG scope (nm n)&&scope.kind== .function&&(scope.names.all λx=>x.2 != .local||scope.names.lookup x.1==ab .local)&&Di fr scope.names&&Dh sc scope fr
noncomputable def Df (k:Nat):a7:=match k with
 |0=>cE "%%YAML %s"
 |_=>cE "%d.%d"
def Ld (s:String) (p:Expr):Expr:= .Constant (.str (cE s)) (jq p) p.pos
noncomputable def E0 (n:String) (p:Expr):Expr:= .Name (cE n) p.pos
def jZ (n:String) (as:List Expr) (p:Expr):Expr:= .Call (E0 n (cj p)) as [] p.pos
def n4 (n:String) (v:Expr->Expr) (as:List Expr) (p:Expr):Expr:= .Call (.Attribute (v (cj (cj p))) (cE n) (cj p).pos) as [] p.pos
def n5 (v:Expr->Expr) (p:Expr):Bool:=zl (v (cj (cj p))) (cj p).pos p.pos
def ye (a:X) (c:Expr->Expr) (o:Option Expr):Option Expr:=match y3 a with
 |true=>af
 |false=>ab (c (o.getD default))
def zF (a:X) (c:Expr->Bool) (o:Option Expr):Bool:=match y3 a with
 |true=>aa
 |false=>c (o.getD default)
def L4 (n:Nat) (p:Expr):Expr:= .FormattedValue (.Name (nm n) (cj p).pos) 115 af p.pos
def s9 (sc:cN) (n:Nat):Bool:=s6 (nm n)&&fG sc (nm n)
noncomputable def au (sc:cN):X->tI
 | .cq=> .of (λ_=>aa) λp=> .Constant .none (jq p) p.pos
 | .bF b=> .of (λ_=>aa) λp=> .Constant (.bool b) (jq p) p.pos
 | .a5 i=> .of (λ_=>aa) λp=> .Constant (.int i) (jq p) p.pos
 | .ks s=> .of (λ_=>aa) λp=> .Constant (.str (aK s)) (jq p) p.pos
 | .lo n=> .of (λ_=>s9 sc n) λp=> .Name (nm n) p.pos
 | .gl n=> .of (λ_=>s6 (nm n)&&DW sc (nm n)) λp=> .Name (nm n) p.pos
 | .clo n=> .of (λ_=>s6 (nm n)&&pz sc (nm n)) λp=> .Name (nm n) p.pos
 | .at o n=> .of (λp=>zA ((au sc o).e (cj p))&&(au sc o).x (cj p)) λp=> .Attribute ((au sc o).e (cj p)) (nm n) p.pos
 | .bin op a b=> .of (λp=> (au sc a).x (cj p)&&(au sc b).x (gD p)) λp=> .BinOp ((au sc a).e (cj p)) op ((au sc b).e (gD p)) p.pos
 | .cmp op a b=> .of (λp=> !By op ((au sc b).e (h0 (xs p)))&&(au sc a).x (cj p)&&(au sc b).x (h0 (xs p))) λp=> .Compare ((au sc a).e (cj p)) [op] [(au sc b).e (h0 (xs p))] p.pos
 | .cn o i=> .of (λp=>zz ((au sc i).e (gD p))&&(au sc o).x (cj p)&&(au sc i).x (gD p)) λp=> .Subscript ((au sc o).e (cj p)) ((au sc i).e (gD p)) p.pos
 | .aK o a b=> .of (λp=> (au sc o).x (cj p)&&zF a (au sc a).x (QU (gD p))&&zF b (au sc b).x (QT (gD p))) λp=> .Subscript ((au sc o).e (cj p)) (.Slice (ye a (au sc a).e (QU (gD p))) (ye b (au sc b).e (QT (gD p))) af (gD p).pos) p.pos
 | .neg a=> .of (λp=> (au sc a).x (cj p)) λp=> .UnaryOp .USub ((au sc a).e (cj p)) p.pos
 | .fw hS iN a b c=> .of (λp=> !By iN ((au sc c).e (aq (xs p)))&&(au sc a).x (cj p)&&(au sc b).x (h0 (xs p))&&(au sc c).x (aq (xs p))) λp=> .Compare ((au sc a).e (cj p)) [hS,iN] [(au sc b).e (h0 (xs p)),(au sc c).e (aq (xs p))] p.pos
 | .tup l=> .of (λp=> (au sc l).l (xs p)) λp=> .Tuple ((au sc l).dw (xs p)) (jq p) p.pos
 | .lst l=> .of (λp=> (au sc l).l (xs p)) λp=> .List ((au sc l).dw (xs p)) p.pos
 | .len a=> .of (λp=>jI sc "len" &&notStar ((au sc a).e (h0 (xs p)))&&(au sc a).x (h0 (xs p))) λp=>jZ "len" [(au sc a).e (h0 (xs p))] p
 | .gy a c=> .of (λp=>jI sc "isinstance" &&notStar ((au sc a).e (h0 (xs p)))&&notStar ((au sc c).e (aq (xs p)))&&(au sc a).x (h0 (xs p))&&(au sc c).x (aq (xs p))) λp=>jZ "isinstance" [(au sc a).e (h0 (xs p)),(au sc c).e (aq (xs p))] p
 | .vk a=> .of (λp=>jI sc "isinstance" &&jI sc "str" &&notStar ((au sc a).e (h0 (xs p)))&&(au sc a).x (h0 (xs p))) λp=>jZ "isinstance" [(au sc a).e (h0 (xs p)),E0 "str" (aq (xs p))] p
 | .cell _ l=> .of (λp=> (au sc l).l (xs p)) λp=> .List ((au sc l).dw (xs p)) p.pos
 | .o7 _=> .of (λ_=>aa) λp=> .Dict [] [] p.pos
 | .cF o a=> .of (λp=>n5 (au sc o).e p&&notStar ((au sc a).e (h0 (xs p)))&&(au sc o).x (cj (cj p))&&(au sc a).x (h0 (xs p))) λp=>n4 "append" (au sc o).e [(au sc a).e (h0 (xs p))] p
 | .ext o a=> .of (λp=>n5 (au sc o).e p&&notStar ((au sc a).e (h0 (xs p)))&&(au sc o).x (cj (cj p))&&(au sc a).x (h0 (xs p))) λp=>n4 "extend" (au sc o).e [(au sc a).e (h0 (xs p))] p
 | .rd o=> .of (λp=>n5 (au sc o).e p&&(au sc o).x (cj (cj p))) λp=>n4 "pop" (au sc o).e [.Constant (.int 0) (jq (h0 (xs p))) (h0 (xs p)).pos] p
 | .rf o=> .of (λp=>n5 (au sc o).e p&&(au sc o).x (cj (cj p))) λp=>n4 "pop" (au sc o).e [] p
 | .join s l=> .of (λp=>n5 (au sc s).e p&&notStar ((au sc l).e (h0 (xs p)))&&(au sc s).x (cj (cj p))&&(au sc l).x (h0 (xs p))) λp=>n4 "join" (au sc s).e [(au sc l).e (h0 (xs p))] p
 | .tm a b=> .of (λp=>n5 (au sc a).e p&&notStar ((au sc b).e (h0 (xs p)))&&(au sc a).x (cj (cj p))&&(au sc b).x (h0 (xs p))) λp=>n4 "startswith" (au sc a).e [(au sc b).e (h0 (xs p))] p
 | .mY a b=> .of (λp=>jI sc "max" &&notStar ((au sc a).e (h0 (xs p)))&&notStar ((au sc b).e (aq (xs p)))&&(au sc a).x (h0 (xs p))&&(au sc b).x (aq (xs p))) λp=>jZ "max" [(au sc a).e (h0 (xs p)),(au sc b).e (aq (xs p))] p
 | .rm a=> .of (λp=>jI sc "str" &&notStar ((au sc a).e (h0 (xs p)))&&(au sc a).x (h0 (xs p))) λp=>jZ "str" [(au sc a).e (h0 (xs p))] p
 | .sP a=> .of (λp=>jI sc "int" &&notStar ((au sc a).e (h0 (xs p)))&&(au sc a).x (h0 (xs p))) λp=>jZ "int" [(au sc a).e (h0 (xs p))] p
 | .tk a=> .of (λp=>jI sc "sorted" &&n5 (au sc a).e (h0 (xs p))&&(au sc a).x (cj (cj (h0 (xs p))))) λp=>jZ "sorted" [n4 "keys" (au sc a).e [] (h0 (xs p))] p
 | .uY n m=> .of (λ_=>s9 sc n&&s9 sc m) λp=> .JoinedStr [Ld "%TAG " (h0 (xs p)),L4 n (aq (xs p)),Ld " " (h0 (xs p).tail.tail),L4 m (aq (xs p).tail.tail)] p.pos
 | .fmt k a=> .of (λp=> (au sc a).x (gD p)) λp=> .BinOp (.Constant (.str (Df k)) (jq (cj p)) (cj p).pos) .Mod ((au sc a).e (gD p)) p.pos
 | .uK _ o=> .of (λp=>n5 (au sc o).e p&&(au sc o).x (cj (cj p))) λp=>n4 "copy" (au sc o).e [] p
 | .uJ o=> .of (λp=>n5 (au sc o).e p&&(au sc o).x (cj (cj p))) λp=>n4 "copy" (au sc o).e [] p
 | .pf a=> .of (λp=>DX ((au sc a).e p)&&(au sc a).x p) (au sc a).e
 | .uT a b=> .of (λp=> !By .Eq ((au sc b).e (h0 (xs p)))&&(au sc a).x (cj p)&&(au sc b).x (h0 (xs p))) λp=> .Compare ((au sc a).e (cj p)) [.Eq] [(au sc b).e (h0 (xs p))] p.pos
 | .hB _ n fr e i=> .of (λp=>x2 (jp sc p) sc n fr&&zy ((au sc i).e (fJ p).iter)&&(au (l7 (jp sc p) sc) e).x (cj p)&&(au sc i).x (fJ p).iter) λp=> .ListComp ((au (l7 (jp sc p) sc) e).e (cj p)) [⟨.Name (nm n) (fJ p).target.pos,(au sc i).e (fJ p).iter,[],0⟩] (jp sc p) p.pos
 | .vr n fr e i=> .of (λp=>x2 (jp sc p) sc n fr&&jI sc "range" &&notStar ((au sc i).e (h0 (xs (fJ p).iter)))&&(au (l7 (jp sc p) sc) e).x (cj p)&&(au sc i).x (h0 (xs (fJ p).iter))) λp=> .ListComp ((au (l7 (jp sc p) sc) e).e (cj p)) [⟨.Name (nm n) (fJ p).target.pos,jZ "range" [(au sc i).e (h0 (xs (fJ p).iter))] (fJ p).iter,[],0⟩] (jp sc p) p.pos
 | .not a=> .of (λp=> (au sc a).x (cj p)) λp=> .UnaryOp .Not ((au sc a).e (cj p)) p.pos
 | .and l=> .of (λp=> (au sc l).l (xs p)) λp=> .BoolOp .And ((au sc l).dw (xs p)) p.pos
 | .or l=> .of (λp=> (au sc l).l (xs p)) λp=> .BoolOp .Or ((au sc l).dw (xs p)) p.pos
 | .j8 c a b=> .of (λp=> (au sc c).x (cj p)&&(au sc a).x (gD p)&&(au sc b).x (QQ p)) λp=> .IfExp ((au sc c).e (cj p)) ((au sc a).e (gD p)) ((au sc b).e (QQ p)) p.pos
 | .call f args kws=> .of (λp=>MS ((au sc f).e (cj p))&&(au sc f).x (cj p)&&(au sc args).l (xs p)&&(au sc kws).k (pX p)&&qG ((au sc args).dw (xs p)) ((au sc kws).k7 (pX p))) λp=> .Call ((au sc f).e (cj p)) ((au sc args).dw (xs p)) ((au sc kws).k7 (pX p)) p.pos
 | .aG o n args kws=> .of (λp=>zA ((au sc o).e (cj (cj p)))&&((cj p).pos.endLine==p.pos.line)&&(au sc o).x (cj (cj p))&&(au sc args).l (xs p)&&(au sc kws).k (pX p)&&qG ((au sc args).dw (xs p)) ((au sc kws).k7 (pX p))) λp=> .Call (.Attribute ((au sc o).e (cj (cj p))) (nm n) (cj p).pos) ((au sc args).dw (xs p)) ((au sc kws).k7 (pX p)) p.pos
 | .nil=> ⟨λ_=>ac,λ_=>aa,λ_=>aa,id,λ_=> [],λ_=> []⟩
 | .cons a r=> ⟨λ_=>ac,λl=>notStar ((au sc a).e (h0 l))&&(au sc a).x (h0 l)&&(au sc r).l l.tail,λ_=>ac,id,λl=> (au sc a).e (h0 l)::(au sc r).dw l.tail,id⟩
 | .eZ n a r=> ⟨λ_=>ac,λ_=>ac,λl=> (au sc a).x (D1 l).value&&(au sc r).k l.tail,id,id,λl=> ⟨ab (nm n),(au sc a).e (D1 l).value,(D1 l).pos⟩::(au sc r).k7 l.tail⟩
 |_=> .no
theorem Zj {P:X->Prop} {a:X} (h:y3 a=aa) (k:P .no):P a:=by
 cases a with
 |no=>exact k
 |_=>exact ck h
theorem Ll {P:X->Prop} {sc:cN} {r:X} {a8:List Expr} (h:(au sc r).l a8=aa) (k:P .nil) (kb: ∀a b,P (.cons a b)):P r:=by
 cases r with
 |nil=>exact k
 |cons a b=>exact kb a b
 |_=>exact ck h
theorem uy {o:Expr} {attr:a7} {env:dm} {whole:hJ ah}:zA o=aa->attributeBase o attr env whole=whole:=by
 cases o with
 |Call f as ks p=>cases f with
  |Name id p=>cases as with
   |nil=>cases ks with
    |nil=>
     intro h
     have e:((id !=("super" :a7)) ||attr== "__class__" ||env.kindOf "super" !=ab .globalImplicit||env.kindOf "__class__" !=ab .free)=aa:=by rw[show(id !=("super" :a7))=aa from h];rfl
     exact if_pos e
    |cons _ _=>exact λ_=> (rfl:whole=whole)
   |cons _ _=>exact λ_=> (rfl:whole=whole)
  |_=>exact λ_=> (rfl:whole=whole)
 |_=>exact λ_=> (rfl:whole=whole)
theorem MX {e:Expr} {env:dm} {whole:hJ ah}:DX e=aa->isTrue e env whole=(do let v <-whole;xj e.pos;holding [v] (truthy v)):=by
 cases e with
 |UnaryOp op x p=>cases op with
  |Not=>exact ck
  |_=>exact λ_=>rfl
 |BoolOp=>exact ck
 |IfExp=>exact ck
 |Compare=>exact ck
 |_=>exact λ_=>rfl
theorem v3 {e:Expr} {rest:List Expr} {env:dm}:notStar e=aa->h2 (e::rest) env=(ac,dz e env)::h2 rest env:=by
 cases e with
 |Starred=>exact ck
 |_=>exact λ_=>rfl
theorem v0 {σ:St} {n:Nat} {v:ae} {K:St->aB}:stK σ n v K=K ⟨nf n v σ.loc,σ.hp,σ.lh,σ.lu⟩:=GW _ _
variable [WP]
def wH (env:dm) (Γ:bM) (n:Nat) (v:ae):Prop:= ∃c o x,env.cells.lookup (nm n)=ab c/\Γ.Fr c=ab o/\o.data= .cell (ab x)/\(match v with
 | .ap i=> ∃a,Γ.pin i=ab a/\x= .ref a
 | .f (.bool b)=>x= .bool b
 |_=>False)
structure dk (sc:cN) (env:dm) (Γ:bM) (S:cL):Prop where
 scope:env.scope=sc
 kind:sc.kind= .function
 loc:env.locals=Γ.L
 i7:env.globals=jx
 blt:env.builtins=oU
 clo: ∀n v,aL n S.clo=ab v->wH env Γ n v
def fq (A:c2) (k:Nat):Prop:=A.depth+3*k<=990/\A.units+20*k<=9000/\A.handled=af
def AQ (base:cu) (n:a7) (v:aj):Prop:= ∃a l0,bq base.get? v a/\base.Ns jx l0/\(l0 n=ab a\/(l0 n=af/\ ∃n6,base.Ns oU n6/\n6 n=ab a))
noncomputable def uA:List (a7×ah):= [("len",.builtin "len"),("isinstance",.builtin "isinstance"),("str",.type "str"),("int",.type "int"),("max",.builtin "max"),("sorted",.builtin "sorted"),("list",.type "list"),("range",.type "range"),("enumerate",.type "enumerate"),("super",.type "super")]
structure IV (K:bY) (D:Nat) (m:List (Nat×Bool)):Prop where
 g:Bv K D "__class__" =aa
 d:Br K D=aa
 a:hK K (.ref D) "__class__" =ab (ab (.builtin "object.__class__"))
 q2:mroIn K D (.type "object")=ab aa
 c: ∀C b,aL C m=ab b->(b=aa->isIn K (.ref D) C=aa)/\(b=ac->kin_not K D C=aa)
structure Top (K:bY) (base:cu) (S:cL):Prop extends Known K base S where
 dd: ∀x∈uA,∃l0 n6,base.Ns jx l0/\l0 x.1=af/\base.Ns oU n6/\n6 x.1=ab x.2
 sub: ∀D m,aL D S.sub=ab m->IV K D m
 yD:oR K (.builtin "object.__class__") "__get__" =ab (ab (.builtin "getset_descriptor.__get__"))/\xc K (.builtin "object.__class__")=ab aa
 Lp: ∀D m,aL D S.sub=ab m->(my K D).isSome=aa
 g: ∀n v,aL n S.g=ab v->AQ base (nm n) v
 lim:base.NoLimit
section
variable {prog:cP} {w:ba} {A:c2} {E:ah->az->Prop} {s:az} {Γ:bM} {T:bG} {env:dm} {sc:cN} {S:cL} {Kf:bY} {K:ae->St->aB} {Q:ah->az->Prop}
theorem dk.fn (Ev:dk sc env Γ S):env.scope.kind= .function:=by rw[Ev.scope];exact Ev.kind
theorem dk.is (Ev:dk sc env Γ S) {n:a7} {k:mw} (h:(sc.names.lookup n==ab k)=aa):env.kindOf n=ab k:=by unfold H8;rw[Ev.scope];exact beq_iff_eq.mp h
theorem Ep {n:Nat} {v:ae} (Ev:dk sc env Γ S) (aA:fG sc (nm n)=aa) (N:aX Γ T s) (aW:gs n T.σ.loc=ab v) (h:(K v T.σ).holds) (q:fv Γ T K Q):bg (bp prog w) A (loadName env (nm n)) Q E s:=
 ak N.lo.ns λm hm=>ak (hm.2 n v aW) λx e=>BL Ev.fn (Ev.is aA) (by rw[Ev.loc];exact hm.1) e.1 (q.of N e.2 h)
theorem abp {n:Nat} {v:aj} (bb:Top Kf Γ.base S) (Ev:dk sc env Γ S) (aA:DW sc (nm n)=aa) (N:aX Γ T s) (aW:aL n S.g=ab v) (h:(K (.f v) T.σ).holds) (q:fv Γ T K Q):bg (bp prog w) A (loadName env (nm n)) Q E s:=
 bT (bb.g n v aW) λa l0 i=>Iu Ev.fn (Ev.is aA)
  (have r:=q.fr N (bq.mono N.base i.1) h
   have g:s.heap.Ns env.globals l0:=by rw[Ev.i7];exact i.2.1.keeps N.keeps
   i.2.2.elim (λj=>loadGlobal_global g j r) λj=>ak j.2 λn6 k=>H4 g j.1 (by rw[Ev.blt];exact k.1.keeps N.keeps) k.2 r)
theorem vx {n:String} {v:ah} (bb:Top Kf Γ.base S) (Ev:dk sc env Γ S) (ar:(cE n,v)∈uA) (aA:jI sc n=aa) (N:aX Γ T s) (h:Q v s) {pos:er}:
  bg (bp prog w) A (dz (.Name (cE n) pos) env) Q E s:=
 bT (bb.dd _ ar) λl0 n6 i=>t7 (Iu Ev.fn (Ev.is (b2 aA).1)
  (H4 (by rw[Ev.i7];exact i.1.keeps N.keeps) i.2.1 (by rw[Ev.blt];exact i.2.2.1.keeps N.keeps) i.2.2.2 h)) (jg (b2 aA).2)
theorem pU {n:Nat} {v:ae} {x:ah} {K:St->aB} {Q:Unit->az->Prop} (Ev:dk sc env Γ S) (aA:fG sc (nm n)=aa) (N:aX Γ T s) (aH:T.A v x) (h:(stK T.σ n v K).holds) (q:nD Γ T K (Q ())):
  bg (bp prog w) A (storeName env (nm n) x) Q E s:=by
 refine ak N.lo.ns λm hm=>BO (m:=m) (Ev.is aA) (by rw[Ev.loc];exact hm.1) (λh' yO hs=> ?_) (by rw[Ev.scope,Ev.kind];rfl)
 rw[Ev.loc] at yO hs
 exact q ⟨T.aP,T.ax,⟨nf n v T.σ.loc,T.σ.hp,T.σ.lh,T.σ.lu⟩⟩ _ ⟨dT.refl _,λ_ h=>h,λ_ _=>rfl⟩ (N.store aH hm.2 yO hs n7) (by rw[v0] at h;exact h)
end
end
section
variable [WP]
abbrev hY (R:ae->ah->Prop) (kw:List (Nat×ae)) (kvs:List (a7×ah)):Prop:=bC (λa b=> (b:a7×ah).1=nm (a:Nat×ae).1/\R a.2 b.2) kw kvs
def lB (prog:cP) (w:ba) (S:cL) (base:cu) (k a:Nat):Prop:=
 ∀(p:List Nat×List (Nat×aj)) (pt:a3),aL a S.a8=ab p->aL a S.pt=ab pt->
 ∀(A:c2) (s:az) (aP Fr:bh) (ax:Nat->aR) (hp:b4) (pos:List ae) (vs:List ah) (kw:List (Nat×ae)) (kvs:List (a7×ah)) (full:List ae) (K:ae->b4->Prop) (R:nx->az->Prop),
 fq A k->fc aP Fr ax (gl hp) [] s.heap->dT base.get? aP->bC (d9 aP ax (dO (gl hp) [])) pos vs->hY (d9 aP ax (dO (gl hp) [])) kw kvs->lk (k6 p.1 pos) kw=aa->gw p.2 p.1 pos kw=ab full->lM pos=aa->o2 kw=aa->
 pt full hp K->(∀eF ρ' dn s' av v,Back aP ax hp Fr s eF ρ' dn s'->d9 eF ρ' (dO (gl dn) []) av v->K av dn->R (.ok (.ret v)) s')->
 nz (bp prog w) A (.call (.ref a) ⟨vs,kvs⟩) R s
structure iy (prog:cP) (w:ba) (K:bY) (S:cL) (base:cu) (k:Nat):Prop where
 ok: ∀a pt,aL a S.pt=ab pt->lB prog w S base k a
 keep: ∀a pt,aL a S.pt=ab pt->Bs K (.ref a)=aa
 fn: ∀a pt,aL a S.pt=ab pt->aL a S.ih=af->fnIn K a=aa
theorem aiB {l:List ae} (g:lM l=aa): ∀v∈l,glob v=aa:=by
 induction l with
 |nil=>exact λv h=>absurd h eG
 |cons a l ai=>
  intro v h
  have g:=b2 g
  cases h with
  |head=>exact g.1
  |tail _ h=>exact ai g.2 v h
theorem bC.glob {F:bh} {ax:Nat->aR} {U U':Nat->Prop} (u: ∀x,x<100->U x->U' x) {l:List ae} {vs:List ah} (h:bC (d9 F ax U) l vs):lM l=aa->bC (d9 F ax U') l vs:=by
 induction h with
 |nil=>exact λ_=> .nil
 |cons h t ai=>exact λg=> .cons (h.glob (b2 g).1 u) (ai (b2 g).2)
theorem hY.glob {F:bh} {ax:Nat->aR} {U U':Nat->Prop} (u: ∀x,x<100->U x->U' x) {l:List (Nat×ae)} {vs:List (a7×ah)} (h:hY (d9 F ax U) l vs):o2 l=aa->hY (d9 F ax U') l vs:=by
 induction h with
 |nil=>exact λ_=> .nil
 |cons h t ai=>exact λg=> .cons ⟨h.1,h.2.glob (b2 g).1 u⟩ (ai (b2 g).2)
theorem CH {G:Prop} {S:cL} {a:Nat} {pos:List ae} {kw:List (Nat×ae)} {c:a3×List ae} (h:mK S a pos kw=ab c)
  (k: ∀p,aL a S.a8=ab p->aL a S.pt=ab c.1->lM pos=aa->o2 kw=aa->lk (k6 p.1 pos) kw=aa->gw p.2 p.1 pos kw=ab c.2->G):G:=by
 unfold mK at h
 revert h
 cases e:aL a S.a8 with
 |none=>exact a0
 |some p=>cases cM:aL a S.pt with
  |none=>exact a0
  |some pt=>
   show(match lM pos&&(o2 kw&&lk (k6 p.1 pos) kw) with
    |true=> (gw p.2 p.1 pos kw).map λl=> (pt,l)
    |false=>af)=ab c->G
   cases g:lM pos&&(o2 kw&&lk (k6 p.1 pos) kw) with
   |false=>exact a0
   |true=>
    have g:=b2 g
    exact λh=>ak (p9.mp h) λl h=>k p e (by rw[cM,<-h.2]) g.1 (b2 g.2).1 (b2 g.2).2 (by rw[h.1,<-h.2])
theorem CG {S:cL} {x a:Nat} {pos:List ae} {kw:List (Nat×ae)} {c:a3×List ae} (h:CF S (.dy x a) pos kw=ab c):aL a S.ih=af/\mK S a (.ap x::pos) kw=ab c:=by
 have h:(match aL a S.ih with
  |none=>mK S a (.ap x::pos) kw
  |some _=>af)=ab c:=h
 revert h
 cases aL a S.ih with
 |none=>exact λh=> ⟨rfl,h⟩
 |some _=>exact a0
theorem Lh {G:Prop} {S:cL} {f:ae} {pos:List ae} {kw:List (Nat×ae)} {c:a3×List ae} (h:CF S f pos kw=ab c)
  (k: ∀a,f= .f (.st a)->mK S a pos kw=ab c->G) (kb: ∀x a,f= .dy x a->aL a S.ih=af->mK S a (.ap x::pos) kw=ab c->G):G:=by
 cases f with
 |ap x=>exact a0 h
 |f v=>cases v with
  |st a=>exact k a rfl h
  |_=>exact a0 h
 |dy x a=>exact kb x a rfl (CG h).1 (CG h).2
section
variable {prog:cP} {w:ba} {A:c2} {E:ah->az->Prop} {s:az} {Γ:bM} {T:bG} {env:dm} {sc:cN} {S:cL} {Kf:bY} {k:Nat}
theorem Li {a:Nat} {pos:List ae} {vs:List ah} {kw:List (Nat×ae)} {kvs:List (a7×ah)} {K:ae->St->aB} {c:a3×List ae} {R:nx->az->Prop} (aw:fq A k) (F:iy prog w Kf S Γ.base k) (N:aX Γ T s) (aW:bC T.A pos vs) (aS:hY T.A kw kvs)
  (e:mK S a pos kw=ab c) (h:c.1 c.2 T.σ.hp λr dn=> (hg (glob r) (K r ⟨T.σ.loc,dn,T.σ.lh,T.σ.lu⟩)).holds) (q:fv Γ T K λv=>R (.ok (.ret v))):nz (bp prog w) A (.call (.ref a) ⟨vs,kvs⟩) R s:=
 CH e λp e1 e2 g1 g2 g3 ag=>ak N.enter λku B=>
  have U:=rx N.lo.lu
  F.ok a c.1 e2 p c.1 e1 e2 A s T.aP ku T.ax T.σ.hp pos vs kw kvs c.2 _ _ aw B.1 N.base (aW.glob U g1) (hY.glob U aS g2) g3 ag g1 g2 h
   λeF ρ' dn s' av v b yJ cg=>ak (B.2 eF ρ' dn s' b) λiU b=>q _ v av s' b.2.1 b.1 (b.2.2 av v yJ) (gq cg).2
theorem UE {f:ae} {bI:ah} {pos:List ae} {vs:List ah} {kw:List (Nat×ae)} {kvs:List (a7×ah)} {K:ae->St->aB} {Q:ah->az->Prop} (aw:fq A k) (F:iy prog w Kf S Γ.base k) (N:aX Γ T s) (hf:T.A f bI) (aW:bC T.A pos vs) (aS:hY T.A kw kvs)
  (h:(nK S f pos kw T.σ K).holds) (q:fv Γ T K Q):bg (bp prog w) A (iA bI vs kvs) Q E s:=
 IF (ak (dp h) λc h=>Lh h.1
  (λa e cM=>by
   rw[e] at hf
   rw[bq.i hf]
   exact Li aw F N aW aS cM h.2 q)
  λx a e _ cM=>by
   rw[e] at hf
   exact ak hf.2 λy m=>by rw[m.1];exact method_call (N.aY.bE _ _ m.2) (Li aw F N (.cons (show T.A (.ap x) _ from⟨hf.1,rfl⟩) aW) aS cM h.2 q))
def Kept (prog:cP) (w:ba) (bI:ah) (h:cu):Prop:= ∃k,(k=Keeper.frame\/k=Keeper.machine\/k=Keeper.boundFrame)/\Looks (bp prog w) h (rX bI) k
theorem ZQ {f:ae} {bI:ah} {pos:List ae} {kw:List (Nat×ae)} {K:ae->St->aB} {σ:St} {a4:bG} {s':az} (bb:Top Kf Γ.base S) (F:iy prog w Kf S Γ.base k) (hf:T.A f bI)
  (h:(nK S f pos kw σ K).holds) (x:T.dS a4) (cR:aX Γ a4 s'):Kept prog w bI s'.heap:=
 ak (dp h) λc h=>Lh h.1
  (λa e cM=>by
   rw[e] at hf
   rw[bq.i hf]
   exact CH cM λp _ e2 _ _ _ _=>keeps_K (F.keep _ _ e2) _ (cR.gY bb.toKnown))
  λy a e ey cM=>by
   rw[e] at hf
   exact ak hf.2 λb m=>by rw[m.1];exact CH cM λp _ e2 _ _ _ _=>keeps_M (F.fn _ _ e2 ey) _ ⟨cR.aY.bE _ _ (x.bE _ _ m.2),cR.gY bb.toKnown⟩
end
end
section
variable [WP]
def IL (Γ:bM) (T:bG) (K:List ae->St->aB) (Q:List ah->az->Prop):Prop:= ∀a4 vs as s',T.dS a4->aX Γ a4 s'->bC a4.A as vs->(K as a4.σ).holds->Q vs s'
def Tf (Γ:bM) (T:bG) (K:List (Nat×ae)->St->aB) (ns:List a7) (Q:List ah->az->Prop):Prop:= ∀a4 vs kw s',T.dS a4->aX Γ a4 s'->hY a4.A kw (ns.zip vs)->ns.length=vs.length->(K kw a4.σ).holds->Q vs s'
section
variable (prog:cP) (w:ba) (Γ:bM) (k:Nat)
def mm (m:St->(ae->St->aB)->aB) (t:hJ ah):Prop:= ∀{A:c2} {E:ah->az->Prop} {s:az} {T:bG} {K:ae->St->aB} {Q:ah->az->Prop},fq A k->aX Γ T s->(m T.σ K).holds->fv Γ T K Q->bg (bp prog w) A t Q E s
def xt (m:St->(Bool->St->aB)->aB) (t:hJ Bool):Prop:= ∀{A:c2} {E:ah->az->Prop} {s:az} {T:bG} {K:Bool->St->aB} {Q:Bool->az->Prop},fq A k->aX Γ T s->(m T.σ K).holds->ua Γ T K Q->bg (bp prog w) A t Q E s
def RX (m:St->(List ae->St->aB)->aB) (t:hJ (List ah)):Prop:= ∀{A:c2} {E:ah->az->Prop} {s:az} {T:bG} {K:List ae->St->aB} {Q:List ah->az->Prop},fq A k->aX Γ T s->(m T.σ K).holds->IL Γ T K Q->bg (bp prog w) A t Q E s
def Rx (m:St->(List (Nat×ae)->St->aB)->aB) (ns:List a7) (t:hJ (List ah)):Prop:= ∀{A:c2} {E:ah->az->Prop} {s:az} {T:bG} {K:List (Nat×ae)->St->aB} {Q:List ah->az->Prop},fq A k->aX Γ T s->(m T.σ K).holds->Tf Γ T K ns Q->bg (bp prog w) A t Q E s
variable (S:cL) (sc:cN) (env:dm)
structure bc (e:X):Prop where
 cX: ∀p,(au sc e).x p=aa->mm prog w Γ k (ev S e).x (dz ((au sc e).e p) env)
 kQ: ∀p,(au sc e).x p=aa->xt prog w Γ k (ev S e).t (isTrue ((au sc e).e p) env (dz ((au sc e).e p) env))
 ov: ∀a8 pos,(au sc e).l a8=aa->RX prog w Γ k (ev S e).l (spliced (iZ pos (h2 ((au sc e).dw a8) env)))
 st: ∀a8 pos,(au sc e).l a8=aa->(iZ pos (h2 ((au sc e).dw a8) env)).any (·.1)=ac
 wo: ∀ks pos,(au sc e).k ks=aa->Rx prog w Γ k (ev S e).k ((mz pos (mA ((au sc e).k7 ks) env)).filterMap (·.1)) (evalAll ((mz pos (mA ((au sc e).k7 ks) env)).map (·.2)))
 hk: ∀ks pos,(au sc e).k ks=aa->(mz pos (mA ((au sc e).k7 ks) env)).all (·.1.isSome)=aa
 hV: ∀a8,(au sc e).l a8=aa->xt prog w Γ k (ev S e).a (allTrue .And ((au sc e).dw a8) env)
 wq: ∀a8,(au sc e).l a8=aa->xt prog w Γ k (ev S e).o (allTrue .Or ((au sc e).dw a8) env)
 av: ∀a8 pos,(au sc e).l a8=aa->mm prog w Γ k (ev S e).av (Bz pos .And (xf ((au sc e).dw a8) env))
 e3: ∀a8 pos,(au sc e).l a8=aa->mm prog w Γ k (ev S e).e3 (Bz pos .Or (xf ((au sc e).dw a8) env))
end
theorem nU {α:Type} {f:α->Bool} {a:α} {G:Prop} (h:f=λ_=>ac) (g:f a=aa):G:=ck (by rw[h] at g;exact g)
section
variable {prog:cP} {w:ba} {A:c2} {E:ah->az->Prop} {s:az} {Γ:bM} {T:bG} {env:dm} {sc:cN} {S:cL} {Kf:bY} {k:Nat}
theorem bc.of {x:X} (aH: ∀p,(au sc x).x p=aa->mm prog w Γ k (ev S x).x (dz ((au sc x).e p) env)) (ci: ∀p,(au sc x).x p=aa->xt prog w Γ k (ev S x).t (isTrue ((au sc x).e p) env (dz ((au sc x).e p) env)))
  (aA:(au sc x).l=λ_=>ac) (aS:(au sc x).k=λ_=>ac):bc prog w Γ k S sc env x:=
 ⟨aH,ci,λ_ _=>nU aA,λ_ _=>nU aA,λ_ _=>nU aS,λ_ _=>nU aS,λ_=>nU aA,λ_=>nU aA,λ_ _=>nU aA,λ_ _=>nU aA⟩
theorem bc.val {x:X} {m:St->(ae->St->aB)->aB} (ay:WP.P=w.params) (e:ev S x= .val m) (aH: ∀p,(au sc x).x p=aa->mm prog w Γ k m (dz ((au sc x).e p) env)) (aW: ∀p,(au sc x).x p=aa->DX ((au sc x).e p)=aa)
  (aA:(au sc x).l=λ_=>ac) (aS:(au sc x).k=λ_=>ac):bc prog w Γ k S sc env x:=by
 refine .of (λp hp=>by rw[e];exact aH p hp) (λp hp A E s T K Q aw N h q=> ?_) aA aS
 rw[e] at h
 rw[MX (aW p hp)]
 exact bx (aH p hp aw N h λa4 v av s' x cR a h=>bx (gH (gj (Ae ay cR a h (q.ex x)))))
variable (ay:WP.P=w.params) (Ev:dk sc env Γ S) (bb:Top Kf Γ.base S) (F:iy prog w Kf S Γ.base k)
include ay
theorem aga:bc prog w Γ k S sc env .cq:=
 .val ay rfl (λ_ _ {_ _ _ _ _ _} _ N h q=>dc (q.fr N .none h)) (λ_ _=>rfl) rfl rfl
theorem af7 (b:Bool):bc prog w Γ k S sc env (.bF b):=
 .val ay rfl (λ_ _ {_ _ _ _ _ _} _ N h q=>dc (q.fr N (.bool b) h)) (λ_ _=>rfl) rfl rfl
theorem af9 (i:Int):bc prog w Γ k S sc env (.a5 i):=
 .val ay rfl (λ_ _ {_ _ _ _ _ _} _ N h q=>S5 (q.fr (N.toks _) (.int i _) h)) (λ_ _=>rfl) rfl rfl
theorem agb (x:List Nat):bc prog w Γ k S sc env (.ks x):=
 .val ay rfl (λ_ _ {_ _ _ _ _ _} _ N h q=>xn (q.fr (N.toks _) (.str x _ (bf (cS (gq h).1) (by rw[gi];decide))) (gq h).2)) (λ_ _=>rfl) rfl rfl
include Ev
theorem agf (n:Nat):bc prog w Γ k S sc env (.lo n):=
 .val ay rfl (λ_ hp {_ _ _ _ _ _} _ N h q=>t7 (ak (dp h) λv h=>Ep Ev (b2 hp).2 N h.1 h.2 q) (jg (b2 hp).1)) (λ_ _=>rfl) rfl rfl
include bb
theorem af0 (n:Nat):bc prog w Γ k S sc env (.gl n):=
 .val ay rfl (λ_ hp {_ _ _ _ _ _} _ N h q=>t7 (ak (dp h) λv h=>abp bb Ev (b2 hp).2 N h.1 h.2 q) (jg (b2 hp).1)) (λ_ _=>rfl) rfl rfl
end
end
section
variable [WP]
section
variable {prog:cP} {w:ba} {A:c2} {E:ah->az->Prop} {s:az} {Γ:bM} {T:bG} {env:dm} {sc:cN} {S:cL} {Kf:bY} {k:Nat}
variable (ay:WP.P=w.params) (Ev:dk sc env Γ S) (bb:Top Kf Γ.base S) (F:iy prog w Kf S Γ.base k)
include ay
theorem afM {op:mx} {a b:X} (br:bc prog w Γ k S sc env a) (cV:bc prog w Γ k S sc env b):bc prog w Γ k S sc env (.bin op a b):=
 .val ay rfl (λp hp {_ _ _ _ _ _} aw N h q=>wpAny_BinOp (br.cX _ (b2 hp).1 aw N h λbS v av bk bi aT bl h=>cV.cX _ (b2 hp).2 aw aT h λfj v2 o4 dh cC bR dF h=>
  Ul bR (bl.ex cC) dF h (q.ex (bi.trans cC)))) (λ_ _=>rfl) rfl rfl
theorem afR {op:hr} {a b:X} (br:bc prog w Γ k S sc env a) (cV:bc prog w Γ k S sc env b):bc prog w Γ k S sc env (.cmp op a b):=
 .of (λp hp {_ _ _ _ _ _} aw N h q=>S4 (br.cX _ (cU hp).2.1 aw N h λbS v av bk bi aT bl h=>cV.cX _ (cU hp).2.2 aw aT h λfj v2 o4 dh cC bR dF h=>
   sg ay bR (bl.ex cC) dF h λr s' cR h=> (q.ex (bi.trans cC)).fr cR (.bool r) h) (jg (cU hp).1))
  (λp hp {_ _ _ _ _ _} aw N h q=>wpAny_isTrue_Compare1 (br.cX _ (cU hp).2.1 aw N h λbS v av bk bi aT bl h=>cV.cX _ (cU hp).2.2 aw aT h λfj v2 o4 dh cC bR dF h=>
   sg ay bR (bl.ex cC) dF h λr s' cR h=>t9 (q fj r s' (bi.trans cC) cR (nI h))) (jg (cU hp).1)) rfl rfl
theorem agm {a:X} (br:bc prog w Γ k S sc env a):bc prog w Γ k S sc env (.not a):=
 .of (λp hp {_ _ _ _ _ _} aw N h q=>wpAny_UnaryOp (br.cX _ hp aw N h λbS v av bk bi aT bl h=>by
   unfold unaryOp
   refine gj ?_
   show bg _ _ (truthy v>>=λb=>pure (SG (!b))) _ _ _
   exact bx (Ae ay aT bl h λfj b dh cC bR h=>dc ((q.ex (bi.trans cC)).fr bR (.bool _) h))))
  (λp hp {_ _ _ _ _ _} aw N h q=>wpAny_isTrue_Not (br.kQ _ hp aw N h λbS b bk bi aT h=>q bS _ bk bi aT h)) rfl rfl
theorem af1 {c a b:X} (iH:bc prog w Γ k S sc env c) (br:bc prog w Γ k S sc env a) (cV:bc prog w Γ k S sc env b):bc prog w Γ k S sc env (.j8 c a b):=by
 refine .of (λp hp A E s T K Q aw N h q=>wpAny_IfExp (iH.kQ _ (cU hp).1 aw N h λbS b bk bi aT h=> ?_)) (λp hp A E s T K Q aw N h q=> ?_) rfl rfl
 ·cases b with
  |true=>exact br.cX _ (cU hp).2.1 aw aT h (q.ex bi)
  |false=>exact cV.cX _ (cU hp).2.2 aw aT h (q.ex bi)
 ·show bg _ _ (isTrue (.IfExp _ _ _ _) env _) _ _ _
  rw[arm_isTrue_IfExp]
  refine bx (iH.kQ _ (cU hp).1 aw N h λbS b bk bi aT h=> ?_)
  cases b with
  |true=>exact br.kQ _ (cU hp).2.1 aw aT h (q.ex bi)
  |false=>exact cV.kQ _ (cU hp).2.2 aw aT h (q.ex bi)
theorem snd_and {l:X} (gX:bc prog w Γ k S sc env l):bc prog w Γ k S sc env (.and l):=
 .of (λp hp {_ _ _ _ _ _} aw N h q=>by
   show bg _ _ (dz (.BoolOp _ _ _) env) _ _ _
   rw[SM];exact gX.av _ _ hp aw N h q)
  (λp hp {_ _ _ _ _ _} aw N h q=>S8 (gX.hV _ hp aw N h q)) rfl rfl
theorem agn {l:X} (gX:bc prog w Γ k S sc env l):bc prog w Γ k S sc env (.or l):=
 .of (λp hp {_ _ _ _ _ _} aw N h q=>by
   show bg _ _ (dz (.BoolOp _ _ _) env) _ _ _
   rw[SM];exact gX.e3 _ _ hp aw N h q)
  (λp hp {_ _ _ _ _ _} aw N h q=>S8 (gX.wq _ hp aw N h q)) rfl rfl
theorem z4:bc prog w Γ k S sc env .nil where
 cX:=λ_=>ck
 kQ:=λ_=>ck
 ov:=λ_ _ _ {_ _ _ _ _ _} aw N h q=>H5 (q _ _ [] _ (.refl _) N .nil h)
 st:=λ_ _ _=>rfl
 wo:=λ_ _ _ {_ _ _ _ _ _} aw N h q=>dc (q _ _ [] _ (.refl _) N .nil rfl h)
 hk:=λ_ _ _=>rfl
 hV:=λ_ _ {_ _ _ _ _ _} aw N h q=>dc (q _ _ _ (.refl _) N h)
 wq:=λ_ _ {_ _ _ _ _ _} aw N h q=>dc (q _ _ _ (.refl _) N h)
 av:=λ_ _ _ {_ _ _ _ _ _} aw N h q=>h.elim
 e3:=λ_ _ _ {_ _ _ _ _ _} aw N h q=>h.elim
theorem z3 {a r:X} (br:bc prog w Γ k S sc env a) (hz:bc prog w Γ k S sc env r):bc prog w Γ k S sc env (.cons a r) where
 cX:=λ_=>ck
 kQ:=λ_=>ck
 ov:=λa8 pos h {A E s T K Q} aw N cg q=>by
  show bg _ _ (spliced (iZ pos (h2 ((au sc a).e (h0 a8)::(au sc r).dw a8.tail) env))) _ _ _
  rw[v3 (cU h).1]
  exact Bi (br.cX _ (cU h).2.1 aw N cg λbS v av bk bi aT bl cg=>hz.ov _ pos (cU h).2.2 aw aT cg λfj vs as dh cC bR dF cg=>q fj _ _ _ (bi.trans cC) bR (.cons (bl.ex cC) dF) cg)
 st:=λa8 pos h=>by
  show(iZ pos (h2 ((au sc a).e (h0 a8)::(au sc r).dw a8.tail) env)).any (·.1)=ac
  rw[v3 (cU h).1]
  exact hz.st _ pos (cU h).2.2
 wo:=λ_ _=>ck
 hk:=λ_ _=>ck
 hV:=λa8 h {A E s T K Q} aw N cg q=>bx (br.kQ _ (cU h).2.1 aw N cg λbS b bk bi aT cg=>by
  cases b with
  |true=>exact hz.hV _ (cU h).2.2 aw aT cg (q.ex bi)
  |false=>exact dc (q _ _ _ bi aT cg))
 wq:=λa8 h {A E s T K Q} aw N cg q=>bx (br.kQ _ (cU h).2.1 aw N cg λbS b bk bi aT cg=>by
  cases b with
  |true=>exact dc (q _ _ _ bi aT cg)
  |false=>exact hz.wq _ (cU h).2.2 aw aT cg (q.ex bi))
 av:=λa8 pos h {A E s T K Q} aw N cg q=>by
  have ch:=(cU h).2.2
  refine Ll (P:=λr=>bc prog w Γ k S sc env r->(au sc r).l a8.tail=aa->mm prog w Γ k (ev S (.cons a r)).av (Bz pos .And (dz ((au sc a).e (h0 a8)) env::xf ((au sc r).dw a8.tail) env))) ch
   (λ_ _ {_ _ _ _ _ _} aw N cg q=>br.cX _ (cU h).2.1 aw N cg q) (λb r hz ch A E s T K Q aw N cg q=> ?_) hz ch aw N cg q
  refine bx (br.cX _ (cU h).2.1 aw N cg λbS v av bk bi aT bl cg=>bx (gH (bx (gj (Ae ay aT bl cg λfj fN dh cC bR cg=> ?_)))))
  cases fN with
  |true=>exact hz.av _ pos ch aw bR cg (q.ex (bi.trans cC))
  |false=>exact dc (q _ _ _ _ (bi.trans cC) bR (bl.ex cC) cg)
 e3:=λa8 pos h {A E s T K Q} aw N cg q=>by
  have ch:=(cU h).2.2
  refine Ll (P:=λr=>bc prog w Γ k S sc env r->(au sc r).l a8.tail=aa->mm prog w Γ k (ev S (.cons a r)).e3 (Bz pos .Or (dz ((au sc a).e (h0 a8)) env::xf ((au sc r).dw a8.tail) env))) ch
   (λ_ _ {_ _ _ _ _ _} aw N cg q=>br.cX _ (cU h).2.1 aw N cg q) (λb r hz ch A E s T K Q aw N cg q=> ?_) hz ch aw N cg q
  refine bx (br.cX _ (cU h).2.1 aw N cg λbS v av bk bi aT bl cg=>bx (gH (bx (gj (Ae ay aT bl cg λfj fN dh cC bR cg=> ?_)))))
  cases fN with
  |true=>exact dc (q _ _ _ _ (bi.trans cC) bR (bl.ex cC) cg)
  |false=>exact hz.e3 _ pos ch aw bR cg (q.ex (bi.trans cC))
theorem af8 {n:Nat} {a r:X} (br:bc prog w Γ k S sc env a) (hz:bc prog w Γ k S sc env r):bc prog w Γ k S sc env (.eZ n a r) where
 cX:=λ_=>ck
 kQ:=λ_=>ck
 ov:=λ_ _=>ck
 st:=λ_ _=>ck
 wo:=λa8 pos h {A E s T K Q} aw N cg q=>wpAny_evalAll_cons (bx (br.cX _ (b2 h).1 aw N cg λbS v av bk bi aT bl cg=>bx (gH (dc (hz.wo _ pos (b2 h).2 aw aT cg λfj vs as dh cC bR dF l cg=>
  q fj _ _ _ (bi.trans cC) bR (.cons ⟨rfl,bl.ex cC⟩ dF) (congrArg tU l) cg)))))
 hk:=λa8 pos h=>hz.hk _ pos (b2 h).2
 hV:=λ_=>ck
 wq:=λ_=>ck
 av:=λ_ _=>ck
 e3:=λ_ _=>ck
end
end
section
theorem bC.cF {α β:Type} {R:α->β->Prop} {l:List α} {m:List β} {cz:List α} {aU:List β} (h:bC R l m) (h':bC R cz aU):bC R (l++cz) (m++aU):=by
 induction h with
 |nil=>exact h'
 |cons a b ai=>exact .cons a ai
theorem Zk {kws:List (Option a7×hJ ah)} (yI:kws.all (·.1.isSome)=aa):kws.any (·.1.isNone)=ac:=
 List.any_eq_false.mpr λx aH=>by rw[Be,<-Option.not_isSome_iff_eq_none];exact λe=>e (fL.mp yI x aH)
variable [WP]
section
variable {prog:cP} {w:ba} {A:c2} {E:ah->az->Prop} {s:az} {Γ:bM} {T:bG} {env:dm} {sc:cN} {S:cL} {Kf:bY} {k:Nat}
theorem De {f:ah} {args:List (Bool×hJ ah)} {kws:List (Option a7×hJ ah)} {Q:Args->az->Prop} (st:args.any (·.1)=ac) (yI:kws.all (·.1.isSome)=aa)
  (h:bg (bp prog w) A (spliced args) (λvs bk=>bg (bp prog w) A (evalAll (kws.map (·.2))) (λks dh=>Q ⟨vs,(kws.filterMap (·.1)).zip ks⟩ dh) E bk) E s):
  bg (bp prog w) A (evalArgs f aa args kws) Q E s:=by
 cases args with
 |nil=>exact λΓ p DN=>evalArgs_kw_nil yI (h Γ p DN) Γ p DN
 |cons a r=>cases a with|mk b x=>cases b with
  |true=>exact Bool.noConfusion st
  |false=>exact evalArgs_kw yI h
theorem xY {args kws:X} (br:bc prog w Γ k S sc env args) (iJ:bc prog w Γ k S sc env kws) (bb:Top Kf Γ.base S) (F:iy prog w Kf S Γ.base k) {as:List Expr} {ks:List mv} (aE:(au sc args).l as=aa) (aS:(au sc kws).k ks=aa)
  {pos:er} {f:ae} {bI:ah} {K:ae->St->aB} {Q:ah->az->Prop} {C:List ae->List (Nat×ae)->St->aB} {pre:List ae} {prev:List ah} (aw:fq A k) (N:aX Γ T s) (hf:T.A f bI) (DJ:bC T.A pre prev)
  (aD: ∀vs kw σ,(C vs kw σ).holds->(nK S f (pre++vs) kw σ K).holds) (h:((ev S args).l T.σ λvs σ=> (ev S kws).k σ λkw σ=>C vs kw σ).holds) (q:fv Γ T K Q):
  bg (bp prog w) A (t5 pos bI prev (iZ pos (h2 ((au sc args).dw as) env)) (mz pos (mA ((au sc kws).k7 ks) env))) Q E s:=by
 have st:=br.st as pos aE
 have hk:=iJ.hk ks pos aS
 exact Bq (P:=Kept prog w bI) (by rw[st,Zk hk];rfl) (λh x=>x) (De st hk (br.ov as pos aE aw N h λbS vs av bk bi aT bl h=>iJ.wo ks pos aS aw aT h λfj kvs kw dh cC bR dF l h=>
  have x:=bi.trans cC
  ⟨ZQ bb F hf (aD _ _ _ h) x bR,UE aw F bR (hf.ex x) ((DJ.ex x).cF (bl.ex cC)) dF (aD _ _ _ h) (q.ex x)⟩))
variable (ay:WP.P=w.params) (Ev:dk sc env Γ S) (bb:Top Kf Γ.base S) (F:iy prog w Kf S Γ.base k)
include ay bb
theorem afL {o:X} {n:Nat} (dM:bc prog w Γ k S sc env o):bc prog w Γ k S sc env (.at o n):=by
 refine .val ay rfl (λp hp A E s T K Q aw N h q=> ?_) (λ_ _=>rfl) rfl rfl
 show bg _ _ (dz (.Attribute _ _ _) env) _ _ _
 rw[arm_eval_Attribute,uy (b2 hp).1]
 exact bx (dM.cX _ (b2 hp).2 aw N h λbS v av bk bi aT bl h=>bx (gH (bx (gj (L7 bb.toKnown aT bl h λfj ahT aiC dh cC bR dF h=>
  bx (IH (dc (q _ _ _ _ (bi.trans cC) bR dF h))))))))
include F
theorem afN {f args kws:X} (hf:bc prog w Γ k S sc env f) (br:bc prog w Γ k S sc env args) (iJ:bc prog w Γ k S sc env kws):bc prog w Γ k S sc env (.call f args kws):=
 .val ay rfl (λp hp {A E s T K Q} aw N h q=>
  Zh (P:=λe=>mm prog w Γ k (ev S f).x (dz e env)->bg (bp prog w) A (dz (.Call e ((au sc args).dw (xs p)) ((au sc kws).k7 (pX p)) p.pos) env) Q E s) (fk hp).1
   (λid aiQ Yr=>xm (Yr aw N h λbS v av bk bi aT bl h=>xY (pre:= []) br iJ bb F (fk hp).2.2.1 (fk hp).2.2.2.1 aw aT bl .nil (λ_ _ _ h=>h) h (q.ex bi))) (hf.cX _ (fk hp).2.1)) (λ_ _=>rfl) rfl rfl
omit ay bb F in
theorem LS {args kws:X} {as:List Expr} {ks:List mv} {pos:er} (st:(iZ pos (h2 as env)).any (·.1)=ac) (hk:(mz pos (mA ks env)).all (·.1.isSome)=aa) (l:qG as ks=aa):
  IC (as.length+ks.length) (iZ pos (h2 as env)) (mz pos (mA ks env))=aa:=by
 unfold IC
 have l:as.length+ks.length<20:=cS l
 have e1:(iZ pos (h2 as env)).all (!·.1)=aa:=by
  rw[List.all_eq_not_any_not]
  simp only[Bool.not_not]
  rw[st];rfl
 rw[hk,e1]
 simp only[Hj,decide_eq_true_eq]
 split<;>omega
theorem abG {args kws:X} {x n:Nat} (br:bc prog w Γ k S sc env args) (iJ:bc prog w Γ k S sc env kws) {as:List Expr} {ks:List mv} (aE:(au sc args).l as=aa) (aS:(au sc kws).k ks=aa)
  {pos:er} {ji:hJ Bool} {e3:ah} {K:ae->St->aB} {Q:ah->az->Prop} (aw:fq A k) (N:aX Γ T s) (bV:T.A (.ap x) e3)
  (h:(ct (ux S n (.ap x) T.σ) λbI=>hg (y2 bI) ((ev S args).l T.σ λvs σ=> (ev S kws).k σ λkw σ=>nK S bI vs kw σ K)).holds) (q:fv Γ T K Q):
  bg (bp prog w) A (getMethod e3 (nm n) ji) (λr=>bg (bp prog w) A (t5 pos r.1 r.2 (iZ pos (h2 ((au sc args).dw as) env)) (mz pos (mA ((au sc kws).k7 ks) env))) Q E) E s:=by
 have bV:=bV
 rw[bV.2]
 have h:(ct (match T.σ.g x with
  |some (.inst c ns l)=>match S.at c n with
   |some .no=>fld n ns l
   |some (.fn f)=>kd n ns l (.dy x f)
   |some (.val w)=>kd n ns l (.f w)
   |none=>af
  |_=>af) λbI=>hg (y2 bI) ((ev S args).l T.σ λvs σ=> (ev S kws).k σ λkw σ=>nK S bI vs kw σ K)).holds:=h
 revert h
 cases aH:T.σ.g x with
 |none=>exact fK
 |some ao=>cases ao with
  |inst c ns l=>
   refine bT (yX N aH) λes h7 i=> ?_
   have f:=yu (n:=n) i.k i.l
   show(ct (match S.at c n with
    |some .no=>fld n ns l
    |some (.fn f)=>kd n ns l (.dy x f)
    |some (.val w)=>kd n ns l (.f w)
    |none=>af) λbI=>hg (y2 bI) ((ev S args).l T.σ λvs σ=> (ev S kws).k σ λkw σ=>nK S bI vs kw σ K)).holds->_
   cases bj:S.at c n with
   |none=>exact fK
   |some at'=>
    have g:=xa (uI bb.toKnown bj (nm n)).1
    cases at' with
    |no=>exact λh=>ak (dp h) λav h=>ak (f.1 av h.1) λe m=>
      method_usual (N.gY bb.toKnown) i.I g.1 g.2 (bb.ih c n .no bj).1 rfl (Dl N bb.toKnown bj i.I m.2 (Mi m.1.1) (xY (pre:= []) br iJ bb F aE aS aw (N.toks _) m.1.1 .nil (λ_ _ _ h=>h) (gq h.2).2 q))
    |fn h5=>
     exact λh=>method_fn (N.gY bb.toKnown) i.I g.1 g.2 (bb.ih c n _ bj).1 (beq_iff_eq.mp (bb.ih c n _ bj).2.1) (by show(Bt (nm n) (eB es h7)).map _=_;rw[Bu,f.2 (n8 h).1];rfl)
      (xY (f:= .f (.st h5)) (pre:= [.ap x]) br iJ bb F aE aS aw N (.st h5) (.cons (show T.A (.ap x) _ from⟨bV.1,rfl⟩) .nil)
       (λvs kw σ h=>ak (dp h) λc h=> (show(ct (mK S h5 (.ap x::vs) kw) _).holds by rw[(CG h.1).2];exact h.2)) (gq (n8 h).2).2 q)
    |val v=>exact λh=>ck (gq (n8 h).2).1
  |_=>exact fK
theorem agh {o args kws:X} {n:Nat} (dM:bc prog w Γ k S sc env o) (br:bc prog w Γ k S sc env args) (iJ:bc prog w Γ k S sc env kws):bc prog w Γ k S sc env (.aG o n args kws):=by
 refine .val ay rfl (λp hp A E s T K Q aw N h q=> ?_) (λ_ _=>rfl) rfl rfl
 have hp:=k1 hp
 show bg _ _ (dz (.Call (.Attribute _ _ _) _ _ _) env) _ _ _
 rw[arm_eval_Call,uy hp.1]
 refine bx (dM.cX _ hp.2.2.1 aw N h λbS e3 av bk bi aT bl h=>bx (gH ?_))
 have mp:BF aa ((au sc o).e (cj (cj p))) env (cj p).pos p.pos=pure p.pos:=by unfold BF;rw[hp.2.1];rfl
 unfold methodCall
 rw[LS (args:=args) (kws:=kws) (br.st (xs p) p.pos hp.2.2.2.1) (iJ.hk (pX p) p.pos hp.2.2.2.2.1) hp.2.2.2.2.2,mp]
 refine ak (dp h) λi h=> ?_
 cases av with
 |ap x=>exact bx (gj (h3 (abG ay bb F br iJ hp.2.2.2.1 hp.2.2.2.2.1 aw aT bl h.2 (q.ex bi)) (λ_ _ z=>bx (dc z)) λ_ _ z=>z))
 |_=>exact a0 h.1
end
end
section
variable [WP]
noncomputable def q5:Expr->Bool
 | .ListComp .. =>ac
 | .SetComp .. =>ac
 | .DictComp .. =>ac
 |_=>aa
noncomputable def OW:Expr->Bool
 | .Tuple .. =>ac
 |_=>aa
noncomputable def vG (sc:cN):List Nat->List Expr->Bool
 | [],[]=>aa
 |n::ns,.Name id _::gf=>E1 n id&&fG sc id&&vG sc ns gf
 |_,_=>ac
noncomputable def iq:List Nat->List Expr->List Expr
 | [],_=> []
 |n::ns,l=> .Name (nm n) (h0 l).pos::iq ns l.tail
structure AL where
 s:cy->Bool
 b:List cy->Bool
 e:cy->cy
 bZ:List cy->List cy
noncomputable def AL.of (f:cy->Bool) (e:cy->cy):AL:=⟨f,λ_=>ac,e,id⟩
def ec:cy->Expr
 | .Assign gf _ _=>h0 gf
 | .AugAssign t _ _ _=>t
 | .For t _ _ _ _=>t
 |_=>default
noncomputable def b3:cy->Expr
 | .Expr e _=>e
 | .Assign _ e _=>e
 | .AugAssign _ _ e _=>e
 | .For _ i _ _ _=>i
 | .Assert t _ _=>t
 | .If t _ _ _=>t
 | .While t _ _ _=>t
 | .Return (ab e) _=>e
 |_=>default
noncomputable def wu:cy->List Expr
 | .Assign gf _ _=>gf
 |_=> []
noncomputable def jr:cy->List cy
 | .For _ _ b _ _=>b
 | .While _ b _ _=>b
 | .If _ b _ _=>b
 | .Try b _ _ _ _=>b
 |_=> []
noncomputable def QV:cy->List cy
 | .If _ _ o _=>o
 |_=> []
noncomputable def aim:cy->Option Expr
 | .Assert _ m _=>m
 |_=>af
noncomputable def ail:cy->List ExceptHandler
 | .Try _ h _ _ _=>h
 |_=> []
noncomputable def vY (l:List cy):cy:=l.headD default
def jf (n:Nat) (p:Expr):Expr:= .Name (nm n) p.pos
noncomputable def dH (sc:cN):S->AL
 | .exp x=> .of (λp=>q5 ((au sc x).e (b3 p))&&(au sc x).x (b3 p)) λp=> .Expr ((au sc x).e (b3 p)) p.pos
 | .aN n x=> .of (λp=>fG sc (nm n)&&q5 ((au sc x).e (b3 p))&&(au sc x).x (b3 p)) λp=> .Assign [.Name (nm n) (ec p).pos] ((au sc x).e (b3 p)) p.pos
 | .a9 o n x=> .of (λp=>q5 ((au sc x).e (b3 p))&&(au sc o).x (cj (ec p))&&(au sc x).x (b3 p)) λp=> .Assign [.Attribute ((au sc o).e (cj (ec p))) (nm n) (ec p).pos] ((au sc x).e (b3 p)) p.pos
 | .gS n op x=> .of (λp=>fG sc (nm n)&&B4 op&&(au sc x).x (b3 p)) λp=> .AugAssign (.Name (nm n) (ec p).pos) op ((au sc x).e (b3 p)) p.pos
 | .kz o n op x=> .of (λp=>B4 op&&(au sc o).x (cj (ec p))&&(au sc x).x (b3 p)) λp=> .AugAssign (.Attribute ((au sc o).e (cj (ec p))) (nm n) (ec p).pos) op ((au sc x).e (b3 p)) p.pos
 | .jB ns x=> .of (λp=>d4 1 ns.length&&vG sc ns (iq ns (wu p))&&(au sc x).x (b3 p)) λp=> .Assign (iq ns (wu p)) ((au sc x).e (b3 p)) p.pos
 | .ast ns x=> .of (λp=>vG sc ns (iq ns (xs (ec p)))&&q5 ((au sc x).e (b3 p))&&OW ((au sc x).e (b3 p))&&(au sc x).x (b3 p)) λp=> .Assign [.Tuple (iq ns (xs (ec p))) (jq (ec p)) (ec p).pos] ((au sc x).e (b3 p)) p.pos
 | .qp o i x=> .of (λp=>zz ((au sc i).e (gD (ec p)))&&q5 ((au sc x).e (b3 p))&&(au sc o).x (cj (ec p))&&(au sc i).x (gD (ec p))&&(au sc x).x (b3 p)) λp=> .Assign [.Subscript ((au sc o).e (cj (ec p))) ((au sc i).e (gD (ec p))) (ec p).pos] ((au sc x).e (b3 p)) p.pos
 | .se n x=> .of (λp=>fG sc (nm n)&&(au sc x).x (b3 p)) λp=> .AugAssign (.Name (nm n) (ec p).pos) .Add ((au sc x).e (b3 p)) p.pos
 | .fr n x b=> .of (λp=>fG sc (nm n)&&zy ((au sc x).e (b3 p))&&(au sc x).x (b3 p)&&(dH sc b).b (jr p)) λp=> .For (.Name (nm n) (ec p).pos) ((au sc x).e (b3 p)) ((dH sc b).bZ (jr p)) [] p.pos
 | .qI n x b=> .of (λp=>fG sc (nm n)&&jI sc "range" &&notStar ((au sc x).e (h0 (xs (b3 p))))&&(au sc x).x (h0 (xs (b3 p)))&&(dH sc b).b (jr p)) λp=> .For (.Name (nm n) (ec p).pos) (jZ "range" [(au sc x).e (h0 (xs (b3 p)))] (b3 p)) ((dH sc b).bZ (jr p)) [] p.pos
 | .sy n m x b=> .of (λp=>fG sc (nm n)&&fG sc (nm m)&&jI sc "enumerate" &&notStar ((au sc x).e (h0 (xs (b3 p))))&&(au sc x).x (h0 (xs (b3 p)))&&(dH sc b).b (jr p)) λp=> .For (.Tuple [jf n (h0 (xs (ec p))),jf m (aq (xs (ec p)))] (jq (ec p)) (ec p).pos) (jZ "enumerate" [(au sc x).e (h0 (xs (b3 p)))] (b3 p)) ((dH sc b).bZ (jr p)) [] p.pos
 | .u0 n x b=> .of (λp=>fG sc (nm n)&&jI sc "list" &&notStar ((au sc x).e (h0 (xs (b3 p))))&&(au sc x).x (h0 (xs (b3 p)))&&(dH sc b).b (jr p)) λp=> .For (.Name (nm n) (ec p).pos) (jZ "list" [(au sc x).e (h0 (xs (b3 p)))] (b3 p)) ((dH sc b).bZ (jr p)) [] p.pos
 | .try b=> .of (λp=> (dH sc b).b (jr p)) λp=> .Try ((dH sc b).bZ (jr p)) (ail p) [] [] p.pos
 | .uu t n m i=> .of (λp=> (fG sc (nm t)&& !((jp sc (b3 p)).names.any λx=>x.1==nm t&&(x.2== .local||x.2== .cell)))&&((ec p).pos.line==(b3 p).pos.line)&&x2 (jp sc (b3 p)) sc n []&&fG (jp sc (b3 p)) (nm m)&&(s6 (nm n)&& !bA n m)&&(zy ((au sc i).e (fJ (b3 p)).iter)&&(au sc i).x (fJ (b3 p)).iter))
   λp=> .Assign [.Name (nm t) (ec p).pos] (.ListComp (jf n (cj (b3 p))) [⟨.Tuple [jf n (h0 (xs (fJ (b3 p)).target)),jf m (aq (xs (fJ (b3 p)).target))] (jq (fJ (b3 p)).target) (fJ (b3 p)).target.pos,(au sc i).e (fJ (b3 p)).iter,[jf n (h0 (fJ (b3 p)).ifs)],0⟩] (jp sc (b3 p)) (b3 p).pos) p.pos
 | .sb x=> .of (λp=> (au sc x).x (b3 p)) λp=> .Assert ((au sc x).e (b3 p)) (aim p) p.pos
 | .ite c b o=> .of (λp=> (au sc c).x (b3 p)&&(dH sc b).b (jr p)&&(dH sc o).b (QV p)) λp=> .If ((au sc c).e (b3 p)) ((dH sc b).bZ (jr p)) ((dH sc o).bZ (QV p)) p.pos
 | .eR c b=> .of (λp=> (au sc c).x (b3 p)&&(dH sc b).b (jr p)) λp=> .While ((au sc c).e (b3 p)) ((dH sc b).bZ (jr p)) [] p.pos
 | .ret x=> .of (λp=> (au sc x).x (b3 p)) λp=> .Return (ab ((au sc x).e (b3 p))) p.pos
 | .rh=> .of (λ_=>aa) λp=> .Return af p.pos
 | .ta=> .of (λ_=>aa) λp=> .Pass p.pos
 | .brk=> .of (λ_=>aa) λp=> .Break p.pos
 | .bK=> ⟨λ_=>aa,λ_=>aa,id,id⟩
 | .nil=> ⟨λ_=>ac,λ_=>aa,id,λ_=> []⟩
 | .cons a r=> ⟨λ_=>ac,λl=> (dH sc a).s (vY l)&&(dH sc r).b l.tail,id,λl=> (dH sc a).e (vY l)::(dH sc r).bZ l.tail⟩
def AP (T:bG) (f:nv):cD->Prop
 | .aQ=>f= .next
 | .c0=>f= .brk
 | .df=>f= .cont
 | .hF av=> ∃v,f= .ret v/\T.A av v
def nC (Γ:bM) (T:bG) (K:cD->St->aB) (Q:nv->az->Prop):Prop:= ∀a4 g f s',T.dS a4->aX Γ a4 s'->AP a4 f g->(K g a4.σ).holds->Q f s'
theorem nC.ex {Γ:bM} {T a4:bG} {K:cD->St->aB} {Q:nv->az->Prop} (x:T.dS a4) (q:nC Γ T K Q):nC Γ a4 K Q:=λmB g f s' y=>q mB g f s' (x.trans y)
theorem nC.aQ {Γ:bM} {T:bG} {K:cD->St->aB} {Q:nv->az->Prop} (q:nC Γ T K Q):nD Γ T (K .aQ) (Q .next):=λa4 s' x N h=>q a4 .aQ .next s' x N rfl h
section
variable (prog:cP) (w:ba) (Γ:bM) (k:Nat)
def qg (m:St->(cD->St->aB)->aB) (t:hJ nv):Prop:= ∀{A:c2} {E:ah->az->Prop} {s:az} {T:bG} {K:cD->St->aB} {Q:nv->az->Prop},fq A k->aX Γ T s->(m T.σ K).holds->nC Γ T K Q->bg (bp prog w) A t Q E s
variable (S:cL) (sc:cN) (env:dm)
structure et (e:Q7.S):Prop where
 s: ∀p,(dH sc e).s p=aa->qg prog w Γ k (bN S e) (qe ((dH sc e).e p) env)
 b: ∀a8,(dH sc e).b a8=aa->qg prog w Γ k (bN S e) (nA ((dH sc e).bZ a8) env)
end
section
variable {prog:cP} {w:ba} {A:c2} {E:ah->az->Prop} {s:az} {Γ:bM} {T:bG} {env:dm} {sc:cN} {S:cL} {Kf:bY} {k:Nat}
theorem et.of {e:Q7.S} (h: ∀p,(dH sc e).s p=aa->qg prog w Γ k (bN S e) (qe ((dH sc e).e p) env)) (ag:(dH sc e).b=λ_=>ac):et prog w Γ k S sc env e:=⟨h,λ_=>nU ag⟩
theorem tn {e:Expr} {t:Option Expr} {l:Nat}:q5 e=aa->xk e t l env=pure ac:=by
 cases e with
 |ListComp=>exact ck
 |SetComp=>exact ck
 |DictComp=>exact ck
 |_=>exact λ_=>rfl
variable (ay:WP.P=w.params) (Ev:dk sc env Γ S) (bb:Top Kf Γ.base S) (F:iy prog w Kf S Γ.base k)
include Ev
theorem OX:interactive env=ac:=by
 unfold interactive
 rw[Ev.scope,Ev.kind];rfl
theorem aer {x:X} (cn:bc prog w Γ k S sc env x):et prog w Γ k S sc env (.exp x):=
 .of (λp hp {_ _ _ _ _ _} aw N h q=>wpAny_Expr_any (cn.cX _ (b2 hp).2 aw N h λbS v av bk bi aT bl h=>q.aQ _ _ bi aT h) (OX Ev) (tn (b2 hp).1)) rfl
theorem aei {n:Nat} {x:X} (cn:bc prog w Γ k S sc env x):et prog w Γ k S sc env (.aN n x):=
 .of (λp hp {_ _ _ _ _ _} aw N h q=>IE (cn.cX _ (cU hp).2.2 aw N h λbS v av bk bi aT bl h=>pU Ev (cU hp).1 aT bl h (q.aQ.ex bi)) (tn (cU hp).2.1)) rfl
include bb in
theorem aef {o:X} {n:Nat} {x:X} (dM:bc prog w Γ k S sc env o) (cn:bc prog w Γ k S sc env x):et prog w Γ k S sc env (.a9 o n x):=
 .of (λp hp {_ _ _ _ _ _} aw N h q=>plainObj_wpAny_Assign_Attribute (cn.cX _ (cU hp).2.2 aw N h λbS v av bk bi aT bl h=>dM.cX _ (cU hp).2.1 aw aT h λfj e3 hj dh cC bR dF h=>
  P1 bb.toKnown bR dF (bl.ex cC) h (q.aQ.ex (bi.trans cC))) (tn (cU hp).1)) rfl
theorem aeo {n:Nat} {op:mx} {x:X} (cn:bc prog w Γ k S sc env x):et prog w Γ k S sc env (.gS n op x):=
 .of (λp hp {_ _ _ _ K _} aw N h q=>ak (dp h) λold h=>S2 (Ep (K:=λold σ=> (ev S x).x σ λv σ=>o5 op old v λr=>stK σ n r (K .aQ)) Ev (cU hp).1 N h.1 h.2 λbS v av bk bi aT bl h=>
  cn.cX _ (cU hp).2.2 aw aT h λfj v2 o4 dh cC bR dF h=>MN (K:=λr σ=>stK σ n r (K .aQ)) (cU hp).2.1 bR (bl.ex cC) dF h λi1 r Jv fU eW dU mG h=>pU Ev (cU hp).1 dU mG h (q.aQ.ex ((bi.trans cC).trans eW)))) rfl
include bb in
theorem aem {o:X} {n:Nat} {op:mx} {x:X} (dM:bc prog w Γ k S sc env o) (cn:bc prog w Γ k S sc env x):et prog w Γ k S sc env (.kz o n op x):=
 .of (λp hp {_ _ _ _ K _} aw N h q=>wpAny_AugAssign_AttributeAny (dM.cX _ (cU hp).2.1 aw N h λbS e3 hj bk bi aT bl h=>
  L7 (K:=λold σ=> (ev S x).x σ λv σ=>o5 op old v λr=>vX S n hj r σ λσ=>K .aQ σ) bb.toKnown aT bl h λfj old av dh cC bR dF h=>
  cn.cX _ (cU hp).2.2 aw bR h λi1 QK Jv fU eW dU mG h=>MN (K:=λr σ=>vX S n hj r σ λσ=>K .aQ σ) (cU hp).1 dU (dF.ex eW) mG h λkY r Jw iR g6 fM k2 h=>
  P1 bb.toKnown fM (bl.ex ((cC.trans eW).trans g6)) k2 h (q.aQ.ex (bi.trans ((cC.trans eW).trans g6))))) rfl
omit Ev
theorem aew {c:X} {b o:Q7.S} (iH:bc prog w Γ k S sc env c) (cV:et prog w Γ k S sc env b) (dM:et prog w Γ k S sc env o):et prog w Γ k S sc env (.ite c b o):=by
 refine .of (λp hp A E s T K Q aw N h q=>wpAny_If (iH.kQ _ (cU hp).1 aw N h λbS r bk bi aT h=> ?_)) rfl
 cases r with
 |true=>exact cV.b _ (cU hp).2.1 aw aT h (q.ex bi)
 |false=>exact dM.b _ (cU hp).2.2 aw aT h (q.ex bi)
theorem aeD {c:X} {b:Q7.S} (iH:bc prog w Γ k S sc env c) (cV:et prog w Γ k S sc env b):et prog w Γ k S sc env (.eR c b):=by
 refine .of (λp hp A E s T K Q aw N h q=>ak h λn h=>wpAny_While (codeAny_whileLoop (λn s=> ∃a4,T.dS a4/\aX Γ a4 s/\G2 (ev S c).t (bN S b) n a4.σ λf σ=> (K f σ).holds) (λn bk I=>ak I λbS I=> ?_) n ⟨T,.refl T,N,h⟩)) rfl
 cases n with
 |zero=>exact I.2.2.elim
 |succ n=>
  refine iH.kQ _ (b2 hp).1 aw I.2.1 I.2.2 λfj r dh cC bR h=> ?_
  cases r with
  |false=>exact t8 (q.aQ _ _ (I.1.trans cC) bR h)
  |true=>
   refine cV.b _ (b2 hp).2 aw bR h λi1 g f fU eW dU hf h=> ?_
   have be:=(I.1.trans cC).trans eW
   cases g with
   |aQ=>rw[hf];exact⟨n,nt n,i1,be,dU,h⟩
   |df=>rw[hf];exact⟨n,nt n,i1,be,dU,h⟩
   |c0=>rw[hf];exact q.aQ _ _ be dU h
   |hF v=>exact ak hf λy e=>by rw[e.1];exact q _ (.hF v) _ _ be dU ⟨y,rfl,e.2⟩ h
theorem aez {x:X} (cn:bc prog w Γ k S sc env x):et prog w Γ k S sc env (.ret x):=
 .of (λp hp {_ _ _ _ _ _} aw N h q=>wpAny_Return_some (cn.cX _ hp aw N h λbS v av bk bi aT bl h=>q _ (.hF av) _ _ bi aT ⟨v,rfl,bl⟩ h)) rfl
theorem aeA:et prog w Γ k S sc env .rh:=
 .of (λp hp {_ _ _ T _ _} aw N h q=>wpAny_Return_none (q _ (.hF (.f .none)) _ _ (.refl T) N ⟨.none,rfl,(.none:bq T.aP .none .none)⟩ h)) rfl
theorem aey:et prog w Γ k S sc env .ta:=
 .of (λp hp {_ _ _ T _ _} aw N h q=>wpAny_Pass (q.aQ _ _ (.refl T) N h)) rfl
theorem aep:et prog w Γ k S sc env .brk:=
 .of (λp hp {_ _ _ T _ _} aw N h q=>by
  show bg _ _ (qe (.Break _) env) _ _ _
  rw[arm_exec_Break]
  exact bx (gH (dc (q _ .c0 _ _ (.refl T) N rfl h)))) rfl
theorem aeB:et prog w Γ k S sc env .bK:=⟨λp hp {_ _ _ _ _ _} aw N h q=>h.elim,λp hp {_ _ _ _ _ _} aw N h q=>h.elim⟩
theorem aex:et prog w Γ k S sc env .nil:=⟨λ_=>ck,λa8 hp {_ _ _ T _ _} aw N h q=>t8 (q.aQ _ _ (.refl T) N h)⟩
theorem aeq {a r:Q7.S} (br:et prog w Γ k S sc env a) (hz:et prog w Γ k S sc env r):et prog w Γ k S sc env (.cons a r):=by
 refine⟨λ_=>ck,λa8 hp A E s T K Q aw N h q=>BK (br.s _ (b2 hp).1 aw N h λbS g f bk bi aT hf h=> ?_)⟩
 cases g with
 |aQ=>rw[hf];exact hz.b _ (b2 hp).2 aw aT h (q.ex bi)
 |df=>rw[hf];exact q _ .df _ _ bi aT rfl h
 |c0=>rw[hf];exact q _ .c0 _ _ bi aT rfl h
 |hF v=>exact ak hf λy e=>by rw[e.1];exact q _ (.hF v) _ _ bi aT ⟨y,rfl,e.2⟩ h
end
end
noncomputable def ry (eC:List (a7×ah)) (a8:List a7) (vs:List ah) (kw:List (a7×ah)) (n:a7):Option ah:=((a8.zip vs).lookup n).or ((kw.lookup n).or (eC.lookup n))
theorem Er {n:a7} {l m:List (a7×ah)}:(l++m).lookup n=(l.lookup n).or (m.lookup n):=List.lookup_append
theorem AF (names:List a7): ∀vs:List ah,(names.zip vs).map (·.1)=names.take vs.length:=by
 induction names with
 |nil=>exact λvs=>tP.symm
 |cons n ns ai=>exact λvs=>by cases vs with
  |nil=>rfl
  |cons v vs=>exact congrArg (n:: ·) (ai vs)
theorem lookup_none {n:a7} {l:List (a7×ah)} (h: ∀x∈l,x.1≠n):l.lookup n=af:=RN.mpr λx aH=>bne_iff_ne.mpr λq=>h x aH q.symm
theorem apart {names:List a7} {m:Nat} {items:List ah} (bX:names.Nodup): ∀n∈names.take m,((names.drop m).zip items).lookup n=af:=λn ar=>lookup_none λy cO q=>by
 rw[<-p4 m names] at bX
 have cO:=tO (f:=(·.1)) cO
 rw[AF] at cO
 exact(A5.mp bX).2.2 _ ar _ (HQ cO) q.symm
theorem abv {M:tZ} {A:c2} {E:ah->az->Prop} {s:az} {names:List a7} {vs:List ah} {kw:List (a7×ah)} {body:a7×ah->List (a7×ah)×List (a7×ah)->hJ (ForInStep (List (a7×ah)×List (a7×ah)))}
  {α:Type} {f:List (a7×ah)×List (a7×ah)->hJ α} {Q:α->az->Prop} (aS: ∀x∈kw,x.1∈names.drop vs.length) (bX:names.Nodup) (cq:(kw.map (·.1)).Nodup)
  (ag: ∀x r,names.contains x.1=aa->(r.1.lookup x.1).isSome=ac->body x r=pure (.yield (r.1++ [x],r.2))) (h:bg M A (f (names.zip vs++kw,[])) Q E s):bg M A (wM kw (names.zip vs,[]) body>>=f) Q E s:=by
 refine bx (IG body (λrest b s'=> (∃done,kw=done++rest/\b=(names.zip vs++done,[]))/\bg M A (f (names.zip vs++kw,[])) Q E s') _ (λx rest b s' I=> ?_) (λb s' I=> ?_) kw _ ⟨⟨[],rfl,by rw[dj]⟩,h⟩)
 ·refine ak I.1 λdone e=> ?_
  have aH:=aS x (by rw[e.1];exact List.mem_append_right _ eo)
  rw[ag x b (rP.mpr (List.mem_of_mem_drop aH)) (by
   rw[e.2,lookup_none λy cO=> ?_];rfl
   rcases A4.mp cO with cO|cO
   ·rw[<-p4 vs.length names] at bX
    exact(A5.mp bX).2.2 _ (AF names vs▸tO cO) _ aH
   ·rw[e.1,lD,p2] at cq
    exact(A5.mp cq).2.2 _ (tO cO) _ eo),e.2]
  exact dc ⟨⟨done++ [x],by rw[e.1,bt];rfl,by rw[bt]⟩,I.2⟩
 ·refine ak I.1 λdone e=> ?_
  rw[e.2,<-(dj done).symm.trans e.1.symm|>.symm]
  exact I.2
theorem abw {M:tZ} {A:c2} {E:ah->az->Prop} {s:az} {eC qq:List (a7×ah)} {body:a7×ah->List (a7×ah)->hJ (ForInStep (List (a7×ah)))}
  {α:Type} {f:List (a7×ah)->hJ α} {Q:α->az->Prop} (ag: ∀x r,body x r=cond (r.lookup x.1).isNone (pure (.yield (r++ [x]))) (pure (.yield r)))
  (h: ∀b,(∀n,b.lookup n=(qq.lookup n).or (eC.lookup n))->bg M A (f b) Q E s):bg M A (wM eC qq body>>=f) Q E s:=by
 refine bx (IG body (λrest b s'=> (∀n,(b.lookup n).or (rest.lookup n)=(qq.lookup n).or (eC.lookup n))/\s'=s) _ (λx rest b s' I=> ?_) (λb s' I=> ?_) eC _ ⟨λ_=>rfl,rfl⟩)
 ·rw[ag]
  cases z:b.lookup x.1 with
  |none=>
   refine dc ⟨λn=> (AO ?_ (I.1 n)),I.2⟩
   rw[Er,Sb]
   cases x with|mk k v=>
   rw[mo,mo,HO]
   cases n==k<;>rfl
  |some u=>
   refine dc ⟨λn=> (AO ?_ (I.1 n)),I.2⟩
   cases x with|mk k v=>
   rw[mo]
   cases q:n==k with
   |true=>rw[beq_iff_eq.mp q,show b.lookup k=ab u from z];rfl
   |false=>rfl
 ·rw[I.2]
  exact h b λn=>by rw[<-I.1 n,HO,Sd]
theorem aic {M:tZ} {A:c2} {E:ah->az->Prop} {s:az} {d:ah} {items:List ah} {Q:Option (Array ah)->az->Prop} (h:(d= .none/\items= [])\/ ∃a n,d= .ref a/\s.heap.get? a=ab (mc items n))
  (q: ∀x,(x.getD #[]).toList=items->Q x s):bg M A (seqItems? d) Q E s:=
 h.elim (λh=>by rw[h.1];exact dc (q af (by rw[h.2];rfl))) λh=>bT h λa n h=>by rw[h.1];exact wpAny_seqItems h.2 rfl (q _ rfl)
theorem tE {M:tZ} {A:c2} {E:ah->az->Prop} {s:az} {α:Type} {c:Prop} [Decidable c] {a b:hJ α} {Q:α->az->Prop} (h: ¬c) (k:bg M A b Q E s):bg M A (if c then a else b) Q E s:=by rw[if_neg h];exact k
theorem TX {g:a7->Option ah} {a8:List a7} {full:List ah} (h:bC (λn v=>g n=ab v) a8 full):a8.filterMap (λn=> (g n).map (n, ·))=a8.zip full:=by
 induction h with
 |nil=>rfl
 | @cons n v a8 full h t ai=>rw[HH,h];exact congrArg ((n,v):: ·) ai
theorem bC.abH {α β:Type} {R:α->β->Prop} {l:List α} {m:List β} (h:bC R l m): ∀a∈l,∃b,R a b:=by
 induction h with
 |nil=>exact λa h=>absurd h eG
 |cons h t ai=>exact λa aE=>by cases aE with
  |head=>exact⟨_,h⟩
  |tail _ aE=>exact ai a aE
theorem bC.ES {α β:Type} {R R':α->β->Prop} {l:List α} {m:List β} (h:bC R l m):(∀a∈l,∀b,R a b->R' a b)->bC R' l m:=by
 induction h with
 |nil=>exact λ_=> .nil
 |cons h t ai=>exact λf=> .cons (f _ eo _ h) (ai λa aE=>f a (eY _ aE))
theorem acb {b eC:List (a7×ah)} {l names:List a7} {full:List ah} (g:bC (λn v=> (b.lookup n).or (eC.lookup n)=ab v) names full) (sub: ∀n∈l,n∈names) (b0: ∀n∈l,eC.lookup n=af):
  ¬(!(l.filter λn=> (b.lookup n).isNone).isEmpty)=aa:=by
 rw[List.filter_eq_nil_iff.mpr λn ar e=>ak (g.abH n (sub n ar)) λv q=>by
  rw[Be.mp e,b0 n ar] at q
  exact a0 q]
 exact oB
theorem Up {M:tZ} {A:c2} {E:ah->az->Prop} {s:az} {fd:jV} {args:List iz} {dflt:List Expr} {fx:List (Option Expr)} {names:List a7} {items:List ah} (hp:fd.params=⟨[],args,af,[],fx,af,dflt⟩) (ar:args.map (·.arg)=names)
  (hd:(fd.defaults= .none/\items= [])\/ ∃a n,fd.defaults= .ref a/\s.heap.get? a=ab (mc items n)) (bj:items.length<=names.length) (bX:names.Nodup)
  {vs:List ah} {kw:List (a7×ah)} {full:List ah} (aS: ∀x∈kw,x.1∈names.drop vs.length) (cq:(kw.map (·.1)).Nodup) (aA:vs.length<=names.length) (ag:bC (λn v=>ry ((names.drop (names.length-items.length)).zip items) names vs kw n=ab v) names full) {Q:List (a7×ah)->az->Prop} (q:Q (names.zip full) s):
  bg M A (Iw fd ⟨vs,kw⟩) Q E s:=by
 subst ar
 cases fd with|mk a1 a2 nF ui qm uj I3 I4 I5 aiA=>
 cases hp
 refine abv (f:= ?_) (body:= ?_) aS bX cq (λx r aq aC=> ?_) ?_
 rotate_left 2
 ·cases x with|mk k v=>
  exact(if_pos (by rw[show _=aa from aq];rfl)).trans (if_neg (by rw[show _=ac from aC];exact oB))
 refine bx (aic hd λit hit=> ?_)
 subst hit
 have W3:HE ((it.getD #[]).toList.length- (args.map (·.arg)).length) (it.getD #[]).toList=(it.getD #[]).toList:=by rw[H0 bj];rfl
 rw[<-W3] at ag
 have ag:=bC.mono (R':=λn v=> (((args.map (·.arg)).zip vs++kw).lookup n).or ((((args.map (·.arg)).drop ((args.map (·.arg)).length- (HE ((it.getD #[]).toList.length- (args.map (·.arg)).length) (it.getD #[]).toList).length)).zip (HE ((it.getD #[]).toList.length- (args.map (·.arg)).length) (it.getD #[]).toList)).lookup n)=ab v) (λn v h=>by rw[Er,Sb];exact h) ag
 refine tE (λh=>mu.mpr aA (of_decide_eq_true (fV.mp h).1)) ?_
 refine tE (acb ag (λn=>HQ) (apart bX)) ?_
 refine abw (λx r=>by cases x with|mk k v=>show(if _ then _ else _)=_;cases (List.lookup k r).isNone<;>rfl) λb Dw=> ?_
 refine bx (dc (tE oB (dc (a:=((args.map λx=>Arg.arg x)++ []).filterMap λn=> (b.lookup n).map (n, ·)) ?_)))
 rw[dj,TX (full:=full) (ag.mono λn v h=>by rw[Dw];exact h)]
 exact q
section
theorem OP (n k:Nat):(nm n==nm k)=bA k n:=by
 rw[beq_eq]
 by_cases q:k=n
 ·rw[q,decide_eq_true rfl];exact beq_self_eq_true _
 ·rw[decide_eq_false q];exact beq_eq_false_iff_ne.mpr λe=>q (n7 _ _ e).symm
theorem abh {R:ae->ah->Prop} {n:Nat} {av:ae} {a8:List Nat}: ∀{full:List ae} {vs:List ah},bC R full vs->aL n (a8.zip full)=ab av-> ∃v,((a8.map nm).zip vs).lookup (nm n)=ab v/\R av v:=by
 induction a8 with
 |nil=>exact λ_ h=>a0 h
 |cons p a8 ai=>
  intro full vs h
  cases h with
  |nil=>exact a0
  | @cons a v full vs aq aC=>
   show(match bA p n with
    |true=>ab a
    |false=>aL n (a8.zip full))=ab av-> ∃u,(match nm n==nm p with
    |true=>ab v
    |false=> ((a8.map nm).zip vs).lookup (nm n))=ab u/\R av u
   rw[OP]
   cases bA p n with
   |true=>exact λh=> ⟨v,rfl,bQ h▸aq⟩
   |false=>exact ai aC
theorem zf {R:ae->ah->Prop} {kw:List (Nat×ae)} {kvs:List (a7×ah)} (n:Nat) (h:hY R kw kvs):(∀av,aL n kw=ab av-> ∃v,kvs.lookup (nm n)=ab v/\R av v)/\(aL n kw=af->kvs.lookup (nm n)=af):=by
 induction h with
 |nil=>exact⟨λav h=>a0 h,λ_=>rfl⟩
 | @cons a b kw kvs h t ai=>
  cases b with|mk x v=>
  show(∀av,(match bA a.1 n with
   |true=>ab a.2
   |false=>aL n kw)=ab av-> ∃u,(match nm n==x with
   |true=>ab v
   |false=>kvs.lookup (nm n))=ab u/\R av u)/\((match bA a.1 n with
   |true=>ab a.2
   |false=>aL n kw)=af->(match nm n==x with
   |true=>ab v
   |false=>kvs.lookup (nm n))=af)
  rw[show x=nm a.1 from h.1,OP]
  cases bA a.1 n with
  |true=>exact⟨λav e=> ⟨v,rfl,bQ e▸h.2⟩,λe=>a0 e.symm⟩
  |false=>exact ai
theorem Cy {G:Prop} {ds:List (Nat×aj)} {p:Nat} {a8:List Nat} {v:ae} {vs:List ae} {kw:List (Nat×ae)} {full:List ae} (h:gw ds (p::a8) (v::vs) kw=ab full) (k: ∀r,aL p kw=af->gw ds a8 vs kw=ab r->full=v::r->G):G:=by
 have h:(match aL p kw with
  |none=>match gw ds a8 vs kw with
   |some r=>ab (v::r)
   |none=>af
  |some _=>af)=ab full:=h
 revert h
 cases ey:aL p kw with
 |some _=>exact a0
 |none=>cases e:gw ds a8 vs kw with
  |none=>exact a0
  |some r=>exact λh=>k r ey e (bQ h).symm
theorem KZ {G:Prop} {ds:List (Nat×aj)} {p:Nat} {a8:List Nat} {kw:List (Nat×ae)} {full:List ae} (h:gw ds (p::a8) [] kw=ab full) (k: ∀v r,(aL p kw=ab v\/aL p kw=af/\ ∃d,aL p ds=ab d/\v= .f d)->gw ds a8 [] kw=ab r->full=v::r->G):G:=by
 have h:(match aL p kw with
  |some v=>match gw ds a8 [] kw with
   |some r=>ab (v::r)
   |none=>af
  |none=>match aL p ds with
   |some d=>match gw ds a8 [] kw with
    |some r=>ab (.f d::r)
    |none=>af
   |none=>af)=ab full:=h
 revert h
 cases ey:aL p kw with
 |some v=>cases e:gw ds a8 [] kw with
  |none=>exact a0
  |some r=>exact λh=>k v r (.inl ey) e (bQ h).symm
 |none=>cases e1:aL p ds with
  |none=>exact a0
  |some d=>cases e:gw ds a8 [] kw with
   |none=>exact a0
   |some r=>exact λh=>k _ r (.inr ⟨ey,d,e1,rfl⟩) e (bQ h).symm
theorem abg {p:Nat} {d:aj} {ds:List (Nat×aj)}:aL p ds=ab d->aL p (ds.map λd=> ((d.1,.f d.2):Nat×ae))=ab (.f d):=by
 induction ds with
 |nil=>exact a0
 |cons q ds ai=>
  show(match bA q.1 p with
   |true=>ab q.2
   |false=>aL p ds)=ab d->(match bA q.1 p with
   |true=>ab (ae.f q.2)
   |false=>aL p (ds.map λd=> ((d.1,.f d.2):Nat×ae)))=ab (.f d)
  cases bA q.1 p with
  |true=>exact λh=>congrArg ab (congrArg ae.f (bQ h))
  |false=>exact ai
theorem OR {a8:List Nat} (h:a8.Nodup):(a8.map nm).Nodup:=AV nm (λ_ _ sE e=>sE (n7 _ _ e)) h
theorem ahM {eC:List (a7×ah)} {p:a7} {a8:List a7} {v:ah} {vs:List ah} {kw:List (a7×ah)} {bI:List ah} (bX:p∉a8) (h:bC (λn v=>ry eC a8 vs kw n=ab v) a8 bI):bC (λn lq=>ry eC (p::a8) (v::vs) kw n=ab lq) a8 bI:=
 h.ES λn ar b e=>by
  unfold ry at e⊢
  rw[show((p::a8).zip (v::vs)).lookup n=(a8.zip vs).lookup n by rw[RV,mo,show(n==p)=ac from beq_eq_false_iff_ne.mpr λq=>bX (by rw[<-q];exact ar)]]
  exact e
theorem Un {R:ae->ah->Prop} {ds:List (Nat×aj)} {eC:List (a7×ah)} (hd:hY R (ds.map λd=> (d.1,.f d.2)) eC) {kw:List (Nat×ae)} {kvs:List (a7×ah)} (aS:hY R kw kvs) {a8:List Nat}: ∀{pos:List ae} {vs:List ah} {full:List ae},
  a8.Nodup->bC R pos vs->gw ds a8 pos kw=ab full-> ∃bI,bC R full bI/\vs.length<=a8.length/\bC (λn v=>ry eC (a8.map nm) vs kvs n=ab v) (a8.map nm) bI:=by
 induction a8 with
 |nil=>exact λ_ h e=>by cases h with
  |nil=>exact⟨[],bQ e▸ .nil,fi _,.nil⟩
  |cons _ _=>exact a0 e
 |cons p a8 ai=>
  intro pos vs full bX h e
  have bX:=p3.mp bX
  have ab3:nm p∉a8.map nm:=λm=>ak (wX.mp m) λy q=>bX.1 (n7 _ _ q.2▸q.1)
  cases h with
  | @cons v x pos vs aq aC=>
   refine Cy e λr e1 e2 kC=>ak (ai bX.2 aC e2) λbI i=> ?_
   rw[kC]
   exact⟨x::bI,.cons aq i.1,iX i.2.1,.cons (by unfold ry;rw[p2,RV,mo,beq_self_eq_true];rfl) (ahM ab3 i.2.2)⟩
  |nil=>
   refine KZ e λv r e1 e2 kC=>ak (ai bX.2 .nil e2) λbI i=> ?_
   rw[kC]
   have K: ∃y,((kvs.lookup (nm p)).or (eC.lookup (nm p))=ab y)/\R v y:=e1.elim
    (λe=>ak ((zf p aS).1 v e) λy q=> ⟨y,by rw[q.1];rfl,q.2⟩)
    λe=>ak e.2 λd q=>ak ((zf p hd).1 _ (abg q.1)) λy z=> ⟨y,by rw[(zf p aS).2 e.1,z.1];rfl,q.2▸z.2⟩
   exact ak K λy q=> ⟨y::bI,.cons q.2 i.1,fu _,.cons q.1 (i.2.2.mono λn v h=>by unfold ry at h⊢;rw[List.zip_nil_right] at h⊢;exact h)⟩
theorem OC {n:Nat} {l:List Nat}:iL n l=aa->n∈l:=by
 induction l with
 |nil=>exact ck
 |cons m l ai=>exact λh=> ((nj ..).mp h).elim (λh=>fg h▸eo) λh=>eY _ (ai h)
theorem VC {α β:Type} {R:α->β->Prop} {l:List α} {m:List β} (h:bC R l m): ∀{a8:List Nat},k6 a8 l=a8.drop m.length:=by
 induction h with
 |nil=>exact λ{a8}=>by cases a8<;>rfl
 |cons _ _ ai=>exact λ{a8}=>by cases a8 with
  |nil=>rfl
  |cons p a8=>exact ai
theorem ZX {rest:List Nat} {R:ae->ah->Prop} {kw:List (Nat×ae)} {kvs:List (a7×ah)} (h:hY R kw kvs):lk rest kw=aa->(∀x∈kvs,x.1∈rest.map nm)/\(kvs.map (·.1)).Nodup:=by
 induction h with
 |nil=>exact λ_=> ⟨λx h=>absurd h eG,.nil⟩
 | @cons a b kw kvs h t ai=>
  intro g
  have g:=cU g
  have i:=ai g.2.2
  refine⟨λy cO=> ?_,p3.mpr ⟨λhm=> ?_,i.2⟩⟩
  ·cases cO with
   |head=>rw[h.1];exact tO (OC g.1)
   |tail _ cO=>exact i.1 y cO
  ·have g2:=g.2.1
   revert g2
   cases e:aL a.1 kw with
   |some _=>exact ck
   |none=>
    have ar:=(zf a.1 t).2 e
    rw[<-h.1] at ar
    exact λ_=>ak (wX.mp hm) λy q=>bne_iff_ne.mp (RN.mp ar y q.1) q.2.symm
theorem El {α:Type} {n:Nat} {p:Nat×Option α} {r:List (Nat×Option α)}:gs n (p::r)=cond (bA p.1 n) p.2 (gs n r):=by
 show(match(match bA p.1 n with
  |true=>ab p.2
  |false=>aL n r) with
  |some o=>o
  |none=>af)=_
 cases bA p.1 n<;>rfl
theorem NG {n:Nat} {ex:List Nat}:gs n (E3 ex)=(af:Option ae):=by
 induction ex with
 |nil=>rfl
 |cons m ex ai=>exact El.trans (by rw[ai];cases bA _ n<;>rfl)
theorem NF {n:Nat} {ex:List Nat} {a8:List Nat}: ∀{l:List ae},gs n (locs a8 l ex)=aL n (a8.zip l):=by
 induction a8 with
 |nil=>exact λ{l}=>by cases l<;>exact NG
 |cons p a8 ai=>
  intro l
  cases l with
  |nil=>exact NG
  |cons v l=>exact El.trans (by
   rw[ai]
   show cond (bA p n) (ab v) _=(match bA p n with
    |true=>ab v
    |false=>aL n (a8.zip l))
   cases bA p n<;>rfl)
variable [WP]
structure oF (base:cu) (a:Nat) (p:List Nat×List (Nat×aj)) (o:bW) (fd:jV) (args:List iz) (dflt:List Expr) (fx:List (Option Expr)) (body:List cy) (items:List ah):Prop where
 at_:base.get? a=ab o
 data:o.data= .func fd
 ra:fd.params=⟨[],args,af,[],fx,af,dflt⟩
 jC:fd.body= .stmts body
 kind:fd.scope.kind= .function
 cB:fd.scope.isCoroutine=ac
 gen:fd.scope.isGenerator=ac
 i7:fd.globals=jx
 blt:fd.builtins=oU
 code:base.CodeRec fd.code fd.qualname
 E2:args.map (·.arg)=p.1.map nm
 loc: ∀n∈p.1,fG fd.scope (nm n)=aa
 zx: ∀x∈fd.scope.names,x.2≠ .cell
 C6:(fd.defaults= .none/\items= [])\/ ∃t n,fd.defaults= .ref t/\base.get? t=ab (mc items n)
 dl:items.length<=p.1.length
 Vv:hY (λa v=> ∃x,a= .f x/\bq base.get? x v) (p.2.map λd=> (d.1,.f d.2)) (((p.1.map nm).drop (p.1.length-items.length)).zip items)
structure rK (base:cu) (a:Nat) (p:List Nat×List (Nat×aj)) (b:Q7.S):Prop where
 bX:p.1.Nodup
 fd: ∃o fd args dflt fx body items,oF base a p o fd args dflt fx ((dH fd.scope b).bZ body) items/\(dH fd.scope b).b body=aa
end
section
theorem abu {n:a7} {l:List (a7×ah)}:(l.map (·.1)).Nodup->l.reverse.lookup n=l.lookup n:=by
 induction l with
 |nil=>exact λ_=>rfl
 |cons p l ai=>
  intro bX
  have bX:=p3.mp bX
  cases p with|mk k v=>
  rw[List.reverse_cons,Er,ai bX.2,mo,mo,HO]
  cases z:n==k with
  |false=>exact Sd
  |true=>
   rw[lookup_none (n:=n) (l:=l) λx aH q=>bX.1 (wX.mpr ⟨x,aH,q.trans (beq_iff_eq.mp z)⟩)]
   rfl
theorem Dp {σ:St} (h:σ.lh= []):σ.g=gl σ.hp:=by
 funext x
 unfold St.g gl
 rw[h]
 cases d4 x 100<;>rfl
variable [WP]
theorem fc.back {aP Fr:bh} {ax:Nat->aR} {σ:St} {h:cu} (lu: ∀x∈σ.lu,100<=x) (C:fc aP Fr ax σ.g σ.lu h):fc aP Fr ax (gl σ.hp) [] h:=
 have G: ∀x ao,gl σ.hp x=ab ao->σ.g x=ab ao:=λx ao e=>ph (qL e)▸e
 ⟨C.bE,C.fr,λx ao e=>Hl (rx lu) (C.cell x ao (G x ao e)),λx ao e=>C.ca x ao (G x ao e),λx y ao bo e1 e2=>C.gm x y ao bo (G x ao e1) (G y bo e2)⟩
theorem zw {h:cu} {b:aR} (n:h.objs.size<=b) (o:bW):h.get? b≠ab o:=λe=>mu.mpr n (oO e)
theorem fc.fresh {aP Fr:bh} {ax:Nat->aR} {g:Nat->Option cb} {lu:List Nat} {h:cu} (C:fc aP Fr ax g lu h) {b:aR} (N: ∀o,h.get? b≠ab o):aP b=af/\Fr b=af/\ ∀x ao,g x=ab ao->b∉adr ax x ao:=by
 refine⟨?_, ?_,λx ao e m=>ak (lL (C.cell x ao e) b m) N⟩
 ·cases q:aP b with
  |none=>rfl
  |some o=>exact absurd (C.bE _ _ q) (N o)
 ·cases q:Fr b with
  |none=>rfl
  |some o=>exact absurd (C.fr _ _ q).1 (N o)
theorem fc.grow {aP Fr:bh} {ax:Nat->aR} {g:Nat->Option cb} {lu:List Nat} {h h':cu} (C:fc aP Fr ax g lu h) (k: ∀b o,h.get? b=ab o->h'.get? b=ab o):fc aP Fr ax g lu h':=
 ⟨λb o e=>k b o (C.bE b o e),λb o e=> ⟨k b o (C.fr b o e).1,(C.fr b o e).2⟩,
  λx ao e=>iw (dT.refl _) (λ_ h=>h) (λ_ _=>rfl) (λa aE=>ak (lL (C.cell x ao e) a aE) λo aq=>by rw[aq,k _ _ aq]) rfl rfl (C.cell x ao e),C.ca,C.gm⟩
theorem aX.begin {aP Fr:bh} {ax:Nat->aR} {hp:b4} {base:cu} {s:az} {full:List ae} {bI:List ah} {a8 ex:List Nat} {h₀:cu} {t:Nat} (C:fc aP Fr ax (gl hp) [] s.heap) (ag:dT base.get? aP) (ii:bC (d9 aP ax (dO (gl hp) [])) full bI) (bX:a8.Nodup)
  (vb:h₀.Ns s.heap.objs.size λx=> ((a8.map nm).zip bI).reverse.lookup x) (k: ∀b o,s.heap.get? b=ab o->h₀.get? b=ab o):
  aX ⟨Fr,s.heap.objs.size,base,s.gens,s.os,λ_=>af⟩ ⟨aP,ax,⟨locs a8 full ex,hp,[],[]⟩⟩ {s with heap:=h₀,toks:=t}:=by
 have C9:St.g ⟨locs a8 full ex,hp,[],[]⟩=gl hp:=Dp rfl
 have f:=C.fresh (zw (fi _))
 refine⟨?_,⟨⟨_,vb,λn av e=> ?_⟩,⟨f.1,f.2.1⟩,λx ao e=>f.2.2 x ao (by rw[<-C9];exact e),λx aH=>absurd aH eG⟩,ag,rfl,rfl,λ_ _ e=>a0 e⟩
 ·show fc aP Fr ax (St.g ⟨locs a8 full ex,hp,[],[]⟩) [] h₀
  rw[C9]
  exact C.grow k
 ·refine ak (abh ii (by rw[<-NF (ex:=ex)];exact e)) λv q=> ⟨v, ?_, ?_⟩
  ·rw[abu]
   ·exact q.1
   ·rw[AF]
    exact List.Nodup.sublist (List.take_sublist _ _) (OR bX)
  ·show d9 aP ax (dO (St.g ⟨locs a8 full ex,hp,[],[]⟩) []) av v
   rw[C9]
   exact q.2
theorem aX.aaI {aP Fr:bh} {ax:Nat->aR} {hp:b4} {base:cu} {s s':az} {loc:List (Nat×Option ae)} {L:aR} {pin:Nat->Option aR} {T:bG} (N:aX ⟨Fr,L,base,s.gens,s.os,pin⟩ T s') (x:bG.dS ⟨aP,ax,⟨loc,hp,[],[]⟩⟩ T):Back aP ax hp Fr s T.aP T.ax T.σ.hp s':=
 have dN: ∀y,dO (gl hp) [] y->bG.U ⟨aP,ax,⟨loc,hp,[],[]⟩⟩ y:=λy h=>by
  show dO (St.g ⟨loc,hp,[],[]⟩) [] y
  rw[show St.g ⟨loc,hp,[],[]⟩=gl hp from Dp rfl]
  exact h
 ⟨x.bE,λy h=>rx N.lo.lu y (h.elim (λq=>q.2) λq=>absurd q eG) (x.dN y (dN y h)),λy h=>x.ax y (dN y h),N.aY.back N.lo.lu,N.gens,N.os⟩
section
variable {prog:cP} {w:ba} {S fD:cL} {Kf:bY} {k:Nat} {base:cu}
theorem oF.binds {a:Nat} {p:List Nat×List (Nat×aj)} {o:bW} {fd:jV} {args:List iz} {dflt:List Expr} {fx:List (Option Expr)} {body:List cy} {items:List ah} (D:oF base a p o fd args dflt fx body items) (bX:p.1.Nodup)
  {s:az} (keep: ∀b o,base.get? b=ab o->s.heap.get? b=ab o) {pos:List ae} {vs:List ah} {kw:List (Nat×ae)} {kvs:List (a7×ah)} {R:ae->ah->Prop} (eI: ∀x v,bq base.get? x v->R (.f x) v) (aW:bC R pos vs) (aS:hY R kw kvs)
  (hy:lk (k6 p.1 pos) kw=aa) {full:List ae} (ag:gw p.2 p.1 pos kw=ab full): ∃bI,bC R full bI/\BindsTo s fd ⟨vs,kvs⟩ ((p.1.map nm).zip bI):=by
 have eC:hY R (p.2.map λd=> (d.1,.f d.2)) (((p.1.map nm).drop (p.1.length-items.length)).zip items):=D.Vv.mono λx y q=> ⟨q.1,ak q.2 λz q=>q.1▸eI z _ q.2⟩
 refine ak (Un eC aS bX aW ag) λbI i=> ⟨bI,i.1,λM A E Q q=> ?_⟩
 have Nb:=ZX aS hy
 refine Up D.ra D.E2 (items:=items) (D.C6.elim .inl λz=> .inr (bT z λt n z=> ⟨t,n,z.1,keep _ _ z.2⟩)) (by rw[ed];exact D.dl) (OR bX) (λx aH=> ?_) Nb.2 (by rw[ed];exact i.2.1) (by rw[ed];exact i.2.2) q
 have m:=Nb.1 x aH
 rw[VC aW,List.map_drop] at m
 exact m
theorem oF.locs {a:Nat} {p:List Nat×List (Nat×aj)} {o:bW} {fd:jV} {args:List iz} {dflt:List Expr} {fx:List (Option Expr)} {body:List cy} {items:List ah} (D:oF base a p o fd args dflt fx body items) {bI:List ah}:
  ∀x∈(p.1.map nm).zip bI,fd.scope.names.lookup x.1=ab .local:=λx aH=>by
 have hm:=tO (f:=(·.1)) aH
 rw[AF] at hm
 exact ak (wX.mp (HQ hm)) λn q=>by rw[<-q.2];exact beq_iff_eq.mp (D.loc n q.1)
theorem fq.room {A:c2} (aw:fq A (k+1)):A.depth<recursionLimit:=p7 (tS (bf (gG _ _) aw.1)) (cS rfl)
theorem fq.body {A:c2} {fd:jV} {L:aR} {a:aR} (aw:fq A (k+1)):fq (A.deeper (jW fd L a)) k:=by
 refine⟨?_, ?_,aw.2.2⟩
 ·have:=aw.1
  show A.depth+1+3*k<=990
  omega
 ·have:=aw.2.1
  show A.units+3+20*k<=9000
  omega
theorem Ny {aP Fr:bh} {ax:Nat->aR} {hp:b4} {s s':az} {loc:List (Nat×Option ae)} {L:aR} {pin:Nat->Option aR} {T:bG} {K:ae->b4->Prop} {R:nx->az->Prop} {g:cD} {f:nv} (N:aX ⟨Fr,L,base,s.gens,s.os,pin⟩ T s') (x:bG.dS ⟨aP,ax,⟨loc,hp,[],[]⟩⟩ T) (cg:(kh K g T.σ).holds)
  (back: ∀eF ρ' dn s' av v,Back aP ax hp Fr s eF ρ' dn s'->d9 eF ρ' (dO (gl dn) []) av v->K av dn->R (.ok (.ret v)) s'):AP T f g->R (.ok (.ret (match f with| .ret v=>v|_=> .none))) s':=by
 intro hf
 have B:=N.aaI x
 cases g with
 |aQ=>rw[hf];exact back _ _ _ _ (.f .none) .none B (show bq _ _ _ from .none) cg
 |c0=>exact cg.elim
 |df=>exact cg.elim
 |hF av=>exact ak hf λv e=>by rw[e.1];exact back _ _ _ _ _ _ B (e.2.glob (gq cg).1 (rx N.lo.lu)) (gq cg).2
theorem Xn {a:Nat} {ex:List Nat} {p:List Nat×List (Nat×aj)} {b:Q7.S} {pt:a3} (D:rK base a p b) (lim:base.NoLimit)
  (snd: ∀(Γ:bM) (env:dm) (sc:cN),Γ.base=base->dk sc env Γ S->et prog w Γ k S sc env b) (aD:S.clo= []) (nX:aL a fD.a8=ab p) (nY:aL a fD.pt=ab pt) (mR: ∀full hp K,pt full hp K->bH S p.1 ex b full hp K):
  lB prog w fD base (k+1) a:=by
 intro q8 zO e1 e2
 cases bQ (nX.symm.trans e1)
 cases bQ (nY.symm.trans e2)
 intro A s aP Fr ax hp pos vs kw kvs full K R aw C ag aW aS hy i8 g1 g2 h back
 have keep: ∀b o,base.get? b=ab o->s.heap.get? b=ab o:=λb o e=>C.bE b o (ag b o e)
 refine QS D.fd λo fd args dflt fx body F=>ak F λitems g8=> ?_
 have F:=g8.1
 exact ak (F.binds D.bX (s:=s) keep (λx v q=>bq.mono ag q) aW aS hy i8) λbI uD=>codeAny_call_def aw.room (keep _ _ F.at_) F.data (lim.keeps keep) (F.code.keeps keep) F.jC uD.2 F.zx F.locs (λh₀ vb DC=>
  (snd _ (jW fd s.heap.objs.size a) fd.scope rfl ⟨rfl,F.kind,rfl,F.i7,F.blt,λn v e=>by rw[aD] at e;exact a0 e⟩).b body g8.2
   aw.body (aX.begin (ex:=ex) C ag uD.1 D.bX vb DC) (mR full hp K h) λa4 g f s' x cR hf cg=>by cases f<;>exact Ny cR x cg back hf) F.cB F.gen F.kind
end
end
section
theorem ZW {n:Nat} {rest:List Nat} (h:iL n rest=ac) {kw:List (Nat×ae)}:lk rest kw=aa->aL n kw=af:=by
 induction kw with
 |nil=>exact λ_=>rfl
 |cons a kw ai=>
  intro g
  show(match bA a.1 n with
   |true=>ab a.2
   |false=>aL n kw)=af
  cases q:bA a.1 n with
  |true=>rw[<-fg q,(cU g).1] at h;exact ck h.symm
  |false=>exact ai (cU g).2.2
theorem abI {n:Nat} {α:Type} {a8:List Nat}: ∀{l:List α},iL n a8=ac->iL n (k6 a8 l)=ac:=by
 induction a8 with
 |nil=>exact λ{l} _=>by cases l<;>rfl
 |cons p a8 ai=>exact λ{l} h=>by cases l with
  |nil=>exact h
  |cons _ _=>exact ai (AJ.mp h).2
theorem o1 {ax ρ':Nat->aR} {x:Nat} (h:ρ' (2*x)=ax (2*x)/\ρ' (2*x+1)=ax (2*x+1)) (cB:cb):adr ρ' x cB=adr ax x cB:=by
 cases cB with
 |inst _ _ _=>show [_,_]= [_,_];rw[h.1,h.2]
 |list _=>show [_]= [_];rw[h.1]
 |dict _ _=>show [_]= [_];rw[h.1]
variable [WP]
theorem fc.add {aP Fr:bh} {ax ρ':Nat->aR} {g g':Nat->Option cb} {lu sV:List Nat} {h:cu} (C:fc aP Fr ax g lu h) {y:Nat} {ao:cb} (pN: ∀x,x≠y->ρ' (2*x)=ax (2*x)/\ρ' (2*x+1)=ax (2*x+1))
  (old: ∀x cB,g' x=ab cB->(x=y/\cB=ao)\/(x≠y/\g x=ab cB)) (dN: ∀x,dO g lu x->x≠y/\dO g' sV x) (c:lz aP ρ' (dO g' sV) h y ao)
  (b0: ∀a∈adr ρ' y ao,aP a=af/\Fr a=af/\ ∀x cB,g x=ab cB->a∉adr ax x cB):fc aP Fr ρ' g' sV h:=by
 refine⟨C.bE,C.fr,λx cB e=> (old x cB e).elim (λq=>by rw[q.1,q.2];exact c) λq=>iw (dT.refl _) (λx u=> (dN x u).2) (λx u=> (pN x (dN x u).1).1) (λ_ _=>rfl) (pN x q.1).1 (pN x q.1).2 (C.cell x cB q.2),
  λx cB e a aE=> (old x cB e).elim (λq=> ?_) λq=>C.ca x cB q.2 a (o1 (pN x q.1) cB▸aE),λx z cB bo e1 e2 ne a aE ag=> (old x cB e1).elim (λq=> (old z bo e2).elim (λe9=>ne (q.1.trans e9.1.symm)) λe9=> ?_) λq=> (old z bo e2).elim (λe9=> ?_) λe9=> ?_⟩
 ·rw[q.1,q.2] at aE
  exact⟨(b0 a aE).1,(b0 a aE).2.1⟩
 ·rw[q.1,q.2] at aE
  exact(b0 a aE).2.2 z bo e9.2 (o1 (pN z e9.1) bo▸ag)
 ·rw[e9.1,e9.2] at ag
  exact(b0 a ag).2.2 x cB q.2 (o1 (pN x q.1) cB▸aE)
 ·exact C.gm x z cB bo q.2 e9.2 ne a (o1 (pN x q.1) cB▸aE) (o1 (pN z e9.1) bo▸ag)
theorem Dn {id:Nat} {ao:cb} {hp:b4} (h:id<100) (y:Nat):gl ((id,ao)::hp) y=if y=id then ab ao else gl hp y:=by
 show(match d4 y 100 with
  |true=> (match bA id y with
   |true=>ab ao
   |false=>aL y hp)
  |false=>af)=if y=id then ab ao else(match d4 y 100 with
  |true=>aL y hp
  |false=>af)
 cases q:d4 y 100 with
 |true=>cases z:bA id y with
  |true=>exact(if_pos (fg z).symm).symm
  |false=>exact(if_neg (iY (w1 z))).symm
 |false=>exact(if_neg λz=>by rw[z,show d4 id 100=aa from mq h] at q;exact ck q.symm).symm
noncomputable def oz (ax:Nat->aR) (id:Nat) (x d:aR):Nat->aR:=λn=>if n=2*id then x else if n=2*id+1 then d else ax n
theorem AH {ax:Nat->aR} {id:Nat} {x d:aR}:oz ax id x d (2*id)=x:=if_pos rfl
theorem Ha {ax:Nat->aR} {id:Nat} {x d:aR}:oz ax id x d (2*id+1)=d:=(if_neg (R9 _)).trans (if_pos rfl)
theorem Hb {ax:Nat->aR} {id:Nat} {x d:aR} {y:Nat} (h:y≠id):oz ax id x d (2*y)=ax (2*y)/\oz ax id x d (2*y+1)=ax (2*y+1):=
 ⟨(if_neg (by omega)).trans (if_neg (by omega)),(if_neg (by omega)).trans (if_neg (by omega))⟩
section
variable {prog:cP} {w:ba} {S fD:cL} {Kf:bY} {k:Nat} {base:cu}
theorem EK {C e6 id fT:Nat} {p:List Nat×List (Nat×aj)} {eK:a3} (X:Kf.In base) (hm:rV Kf C=aa) (bj:hK Kf (.ref C) "__init__" =ab (ab (.ref e6))) (hf:oS Kf (.ref e6)=ab (.type "function"))
  (init:lB prog w S base k e6) (qQ:aL e6 S.a8=ab (fT::p.1,p.2)) (qR:aL e6 S.pt=ab eK) (qS:iL fT p.1=ac) (hx:id<100)
  {A:c2} {s:az} {aP Fr:bh} {ax:Nat->aR} {hp:b4} {pos:List ae} {vs:List ah} {kw:List (Nat×ae)} {kvs:List (a7×ah)} {full:List ae} {K:b4->Prop} {R:nx->az->Prop}
  (aw:fq A (k+1)) (Cl:fc aP Fr ax (gl hp) [] s.heap) (ag:dT base.get? aP) (aW:bC (d9 aP ax (dO (gl hp) [])) pos vs) (aS:hY (d9 aP ax (dO (gl hp) [])) kw kvs) (hy:lk (k6 p.1 pos) kw=aa) (i8:gw p.2 p.1 pos kw=ab full) (g1:lM pos=aa) (g2:o2 kw=aa)
  (YD:aL id hp=af) (h:eK (.ap id::full) ((id,.inst C [] [])::hp) λr dn=>r= .f .none/\K dn)
  (back: ∀eF ρ' dn s' x,Back aP ax hp Fr s eF ρ' dn s'->d9 eF ρ' (dO (gl dn) []) (.ap id) x->K dn->R (.ok (.ret x)) s'):nz (bp prog w) A (.call (.ref C) ⟨vs,kvs⟩) R s:=by
 have BZ:Kf.In s.heap:=λa o e=>Cl.bE a o (ag a o (X a o e))
 cases s with|mk cw yD d t os=>
 have iv:=Cl.grow (h':=(cw.push w8).push (kX C cw.objs.size)) λb o e=>tY _ (tY _ e)
 have X1:gl hp id=af:=by unfold gl;rw[YD];cases d4 id 100<;>rfl
 have dN: ∀y,dO (gl hp) [] y->y≠id/\dO (gl ((id,cb.inst C [] [])::hp)) [] y:=λy u=>u.elim
  (λu=>have n:y≠id:=λq=>by rw[q,X1] at u;exact ck u.1
   ⟨n,.inl ⟨by rw[Dn hx,if_neg n];exact u.1,u.2⟩⟩) λu=>absurd u eG
 have BY:dO (gl ((id,cb.inst C [] [])::hp)) [] id:= .inl ⟨by rw[Dn hx,if_pos rfl];rfl,hx⟩
 have Jj: ∀av v,d9 aP ax (dO (gl hp) []) av v->d9 aP (oz ax id (cw.objs.size+1) cw.objs.size) (dO (gl ((id,cb.inst C [] [])::hp)) []) av v:=λav v h=>h.mono (dT.refl _) (λy u=> (dN y u).2) λy u=> (Hb (dN y u).1).1
 have iV:fc aP Fr (oz ax id (cw.objs.size+1) cw.objs.size) (gl ((id,cb.inst C [] [])::hp)) [] ((cw.push w8).push (kX C cw.objs.size)):=by
  refine iv.add (y:=id) (ao:= .inst C [] []) (λx n=>Hb n) (λx cB e=> ?_) dN ⟨?_,[],0, ?_,fu _,.nil,.nil⟩ λa aE=> ?_
  ·rw[Dn hx] at e
   by_cases n:x=id
   ·rw[if_pos n] at e;exact .inl ⟨n,(bQ e).symm⟩
   ·rw[if_neg n] at e;exact .inr ⟨n,e⟩
  ·rw[AH,Ha];heap_get
  ·rw[Ha]
   show((cw.push w8).push (kX C cw.objs.size)).get? cw.objs.size=ab w8
   heap_get
  ·refine Cl.fresh (zw ?_)
   have aE:a∈ [oz ax id (cw.objs.size+1) cw.objs.size (2*id),oz ax id (cw.objs.size+1) cw.objs.size (2*id+1)]:=aE
   rw[AH,Ha] at aE
   cases aE with
   |head=>exact kx _
   |tail _ aE=>exact fh (jU.mp aE).symm
 have Dw:gw p.2 (fT::p.1) (.ap id::pos) kw=ab (.ap id::full):=by
  show(match aL fT kw with
   |none=>match gw p.2 p.1 pos kw with
    |some r=>ab (ae.ap id::r)
    |none=>af
   |some _=>af)=_
  rw[ZW (abI qS) hy,i8]
 refine make_core (makes_of BZ hm) (looks_findIn BZ bj) (λself=>bind_fn BZ self hf) (.inl rfl) ?_
 refine init (fT::p.1,p.2) eK qQ qR _ _ aP Fr _ ((id,.inst C [] [])::hp) (.ap id::pos) _ kw kvs (.ap id::full) _ _ ⟨?_, ?_,aw.2.2⟩ iV ag (.cons (show d9 aP (oz ax id (cw.objs.size+1) cw.objs.size) _ (.ap id) _ from⟨BY,by rw[AH]⟩) (aW.mono Jj))
  (aS.mono λ_ _ q=> ⟨q.1,Jj _ _ q.2⟩) hy Dw (i3 (mq hx) g1) g2 h λeF iU dn s' av v B yJ cg=> ?_
 ·have:=aw.1
  show A.depth+1+3*k<=990
  omega
 ·have:=aw.2.1
  show A.units+1+20*k<=9000
  omega
 ·rw[cg.1] at yJ
  exact⟨k8 yJ,back eF iU dn s' _ ⟨B.bE,λy u=>B.dN y (dN y u).2,λy u=> (B.ax y (dN y u).2).trans (Hb (dN y u).1).1,B.aY,B.gens,B.os⟩ ⟨B.dN id BY,by rw[B.ax id BY,AH]⟩ cg.2⟩
theorem Xq {C e6 id:Nat} {fT:Nat} {p:List Nat×List (Nat×aj)} {pt eK:a3} (X:Kf.In base) (hm:rV Kf C=aa) (bj:hK Kf (.ref C) "__init__" =ab (ab (.ref e6))) (hf:oS Kf (.ref e6)=ab (.type "function"))
  (init:lB prog w S base k e6) (qQ:aL e6 S.a8=ab (fT::p.1,p.2)) (qR:aL e6 S.pt=ab eK) (qS:iL fT p.1=ac) (nX:aL C fD.a8=ab p) (nY:aL C fD.pt=ab pt) (hx:id<100)
  (mR: ∀full hp K,pt full hp K->aL id hp=af/\eK (.ap id::full) ((id,.inst C [] [])::hp) λr dn=>r= .f .none/\(aL id dn).isSome=aa/\K (.ap id) dn):
  lB prog w fD base (k+1) C:=by
 intro q8 zO e1 e2
 cases bQ (nX.symm.trans e1)
 cases bQ (nY.symm.trans e2)
 intro A s aP Fr ax hp pos vs kw kvs full K R aw Cl ag aW aS hy i8 g1 g2 h back
 exact EK X hm bj hf init qQ qR qS hx aw Cl ag aW aS hy i8 g1 g2 (mR full hp K h).1 (mR full hp K h).2 λeF ρ' dn s' x B a cg=>back eF ρ' dn s' _ x B a cg.2
end
end
section
open Classical in
def hx (own:aR->Prop) (h:cu) (Fr:bh):bh:=λb=>if own b then h.get? b else Fr b
theorem u6 {own:aR->Prop} {h:cu} {Fr:bh} {b:aR} (o:own b):hx own h Fr b=h.get? b:=if_pos o
theorem u7 {own:aR->Prop} {h:cu} {Fr:bh} {b:aR} (o: ¬own b):hx own h Fr b=Fr b:=if_neg o
noncomputable def r5:List ae->Bool
 | []=>aa
 | .f _::r=>r5 r
 |_=>ac
noncomputable def y0:ae->Bool
 | .f _=>aa
 |_=>ac
theorem Jb {l:List ae}:r5 l=aa-> ∀v∈l,y0 v=aa:=by
 induction l with
 |nil=>exact λ_ v h=>absurd h eG
 |cons a l ai=>cases a with
  |f x=>exact λg v h=>by cases h with
   |head=>rfl
   |tail _ h=>exact ai g v h
  |_=>exact ck
theorem Um {ds:List (Nat×aj)} {kw:List (Nat×ae)} {a8:List Nat}: ∀{pos full:List ae},gw ds a8 pos kw=ab full->(∀v∈full,y0 v=aa)-> ∀v∈pos,y0 v=aa:=by
 induction a8 with
 |nil=>exact λ{pos full} h _=>by cases pos with
  |nil=>exact λv h=>absurd h eG
  |cons _ _=>exact a0 h
 |cons p a8 ai=>
  intro pos full h g
  cases pos with
  |nil=>exact λv h=>absurd h eG
  |cons v vs=>
    refine Cy h λr _ e kC=> ?_
    rw[kC] at g
    exact wU.mpr ⟨g v eo,ai e λu eT=>g u (eY _ eT)⟩
theorem Uo {ds:List (Nat×aj)} {n:Nat} {v:ae} {kw:List (Nat×ae)} (e:aL n kw=ab v) {a8:List Nat}: ∀{pos full:List ae},gw ds a8 pos kw=ab full->iL n (k6 a8 pos)=aa->v∈full:=by
 induction a8 with
 |nil=>exact λ{pos full} h g=>by cases pos<;>exact ck g
 |cons p a8 ai=>
  intro pos full h g
  cases pos with
  |cons w pos=>exact Cy h λr _ e2 kC=>kC▸eY _ (ai e2 g)
  |nil=>
    refine KZ h λu r o e2 kC=> ?_
    rw[kC]
    have g:(bA p n||iL n a8)=aa:=g
    cases q:bA p n with
    |true=>
     rw[<-fg q] at e
     exact o.elim (λo=>by rw[o] at e;rw[bQ e];exact eo) λo=>by rw[o.1] at e;exact a0 e
    |false=>rw[q] at g;exact eY _ (ai e2 (by cases a8<;>exact g))
theorem Nh {rest:List Nat} {kw:List (Nat×ae)}:lk rest kw=aa-> ∀x∈kw,aL x.1 kw=ab x.2/\iL x.1 rest=aa:=by
 induction kw with
 |nil=>exact λ_ x h=>absurd h eG
 |cons a kw ai=>
  intro g x h
  have g:=cU g
  cases h with
  |head=>
   refine⟨?_,g.1⟩
   show(match bA a.1 a.1 with
    |true=>ab a.2
    |false=>aL a.1 kw)=_
   rw[Ba]
  |tail _ h=>
   have i:=ai g.2.2 x h
   refine⟨?_,i.2⟩
   show(match bA a.1 x.1 with
    |true=>ab a.2
    |false=>aL x.1 kw)=_
   cases q:bA a.1 x.1 with
   |false=>exact i.1
   |true=>
    have g2:=g.2.1
    rw[fg q,i.1] at g2
    exact ck g2
variable [WP]
theorem d9.fast {F g8:bh} {ax ρ':Nat->aR} {U U':Nat->Prop} (k:dT F g8) {a:ae} {v:ah} (h:d9 F ax U a v) (g:y0 a=aa):d9 g8 ρ' U' a v:=by
 cases a with
 |f x=>exact bq.mono k h
 |_=>exact ck g
theorem XE {F g8:bh} {ax:Nat->aR} {U:Nat->Prop} (k:dT F g8) {es:List cT}: ∀{l:List aj},bC (λa e=>d9 F ax U a (e:cT).val/\glob a=aa) (l.map .f) es->ew g8 l (es.map (·.val)):=by
 induction es with
 |nil=>exact λ{l} h=>by cases l with
  |nil=>exact .nil
  |cons _ _=>cases h
 |cons e es ai=>exact λ{l} h=>by cases l with
  |nil=>cases h
  |cons v l=>cases h with
   |cons h t=>exact .cons (bq.mono k h.1) (ai t)
theorem fc.hide {aP Fr:bh} {ax:Nat->aR} {g g':Nat->Option cb} {lu sV:List Nat} {h:cu} (C:fc aP Fr ax g lu h) {own:aR->Prop} (bV: ∀b,own b->aP b=af) (sub: ∀x ao,g' x=ab ao->g x=ab ao) (c: ∀x ao,g' x=ab ao->lz aP ax (dO g' sV) h x ao)
  (b0: ∀x ao,g' x=ab ao-> ∀a∈adr ax x ao,¬own a):fc aP (hx own h Fr) ax g' sV h:=by
 refine⟨C.bE,λb o e=> ?_,c,λx ao e a aE=> ?_,λx y ao bo e1 e2=>C.gm x y ao bo (sub x ao e1) (sub y bo e2)⟩
 ·by_cases z:own b
  ·rw[u6 z] at e;exact⟨e,bV b z⟩
  ·rw[u7 z] at e;exact C.fr b o e
 ·have z:=C.ca x ao (sub x ao e) a aE
  exact⟨z.1,by rw[u7 (b0 x ao e a aE)];exact z.2⟩
theorem fc.QI {aP eF Fr:bh} {ax:Nat->aR} {g:Nat->Option cb} {lu:List Nat} {h h':cu} (C:fc aP Fr ax g lu h) {own:aR->Prop} (bV: ∀b,own b->Fr b=af) (all: ∀x ao,g x=ab ao-> ∀a∈adr ax x ao,own a) (l:dT aP eF)
  (bE: ∀b o,eF b=ab o->h'.get? b=ab o) (fr: ∀b o,hx own h Fr b=ab o->h'.get? b=ab o/\eF b=af):fc eF Fr ax g lu h':=
 ⟨bE,λb o e=>fr b o (by rw[u7 λz=>a0 ((bV b z).symm.trans e)];exact e),λx ao e=>iw l (λ_ h=>h) (λ_ _=>rfl) (λa aE=>ak (lL (C.cell x ao e) a aE) λo q=>by rw[q,(fr a o (by rw[u6 (all x ao e a aE)];exact q)).1]) rfl rfl (C.cell x ao e),
  λx ao e a aE=> ⟨ak (lL (C.cell x ao e) a aE) λo q=> (fr a o (by rw[u6 (all x ao e a aE)];exact q)).2,(C.ca x ao e a aE).2⟩,C.gm⟩
theorem fc.fast {aP Fr:bh} {ax:Nat->aR} {g:Nat->Option cb} {lu:List Nat} {h:cu} (C:fc aP Fr ax g lu h) {a:aR} {o:bW} (aE:h.get? a=ab o) (hv:aP a=af) (DA:Fr a=af) (aD: ∀x ao,g x=ab ao->a∉adr ax x ao):fc (aP.ins a o) Fr ax g lu h:=by
 refine⟨λb x e=> ?_,λb x e=> ⟨(C.fr b x e).1, ?_⟩,λx ao e=>iw (bh.yV (.inl hv)) (λ_ h=>h) (λ_ _=>rfl) (λ_ _=>rfl) rfl rfl (C.cell x ao e),λx ao e b ag=> ⟨?_,(C.ca x ao e b ag).2⟩,C.gm⟩
 ·by_cases q:b=a
  ·rw[q,bh.gb] at e;rw[q,<-bQ e];exact aE
  ·rw[bh.f9 _ _ q] at e;exact C.bE b x e
 ·rw[bh.f9 _ _ λq=>by rw[q,DA] at e;exact a0 e];exact(C.fr b x e).2
 ·rw[bh.f9 _ _ λq=>aD x ao e (by rw[<-q];exact ag)];exact(C.ca x ao e b ag).1
section
variable {prog:cP} {w:ba} {S fD:cL} {Kf:bY} {k:Nat} {base:cu}
theorem qM (x:Nat):gl [] x=af:=by unfold gl;cases d4 x 100<;>rfl
theorem Ji {aP:bh} {ax ρ':Nat->aR} {U U':Nat->Prop} {ds:List (Nat×aj)} {a8:List Nat} {pos full:List ae} {vs:List ah} {kw:List (Nat×ae)} {kvs:List (a7×ah)} (aW:bC (d9 aP ax U) pos vs) (aS:hY (d9 aP ax U) kw kvs) (hy:lk (k6 a8 pos) kw=aa)
  (i8:gw ds a8 pos kw=ab full) (lc:r5 full=aa):bC (d9 aP ρ' U') pos vs/\hY (d9 aP ρ' U') kw kvs:=
 ⟨aW.ES λa aE _ h=>h.fast (dT.refl _) (Um i8 (Jb lc) a aE),aS.ES λa aE _ h=> ⟨h.1,h.2.fast (dT.refl _) (Jb lc _ (Uo (Nh hy a aE).1 i8 (Nh hy a aE).2))⟩⟩
theorem Xo {C e6:Nat} {fT:Nat} {p:List Nat×List (Nat×aj)} {pt eK:a3} (X:Kf.In base) (hm:rV Kf C=aa) (bj:hK Kf (.ref C) "__init__" =ab (ab (.ref e6))) (hf:oS Kf (.ref e6)=ab (.type "function"))
  (init:lB prog w S base k e6) (qQ:aL e6 S.a8=ab (fT::p.1,p.2)) (qR:aL e6 S.pt=ab eK) (qS:iL fT p.1=ac) (nX:aL C fD.a8=ab p) (nY:aL C fD.pt=ab pt)
  (mR: ∀full hp K,pt full hp K->r5 full=aa/\eK (.ap 99::full) [(99,.inst C [] [])] λr dn=>r= .f .none/\ ∃ns l,dn= [(99,.inst C ns (l.map .f))]/\K (.f (.inst C ns l)) hp):
  lB prog w fD base (k+1) C:=by
 intro q8 zO e1 e2
 cases bQ (nX.symm.trans e1)
 cases bQ (nY.symm.trans e2)
 intro A s aP Fr ax hp pos vs kw kvs full K R aw Cl ag aW aS hy i8 g1 g2 h back
 have h:=mR full hp K h
 have f5:=Ji (ρ':=ax) (U':=dO (gl []) []) aW aS hy i8 h.1
 refine EK (Fr:=hx (λb=> ∃y ao,gl hp y=ab ao/\b∈adr ax y ao) s.heap Fr) (hp:= []) X hm bj hf init qQ qR qS (by decide) aw
  (Cl.hide (λb o=>bT o λy ao o=> (Cl.ca y ao o.1 b o.2).1) (λx ao e=>a0 ((qM x).symm.trans e)) (λx ao e=>a0 ((qM x).symm.trans e)) λx ao e=>a0 ((qM x).symm.trans e))
  ag f5.1 f5.2 hy i8 g1 g2 rfl h.2 λeF ρ' dn s' x B a cg=>bT cg λns l cg=> ?_
 have wC:=B.aY
 rw[cg.1] at wC
 have own: ∀{b:aR},hx (λb=> ∃y ao,gl hp y=ab ao/\b∈adr ax y ao) s.heap Fr b=af-> ∀y ao,gl hp y=ab ao->b∉adr ax y ao:=λ{b} n y ao e ag=>ak (lL (Cl.cell y ao e) b ag) λo q=>by
  rw[u6 ⟨y,ao,e,ag⟩,q] at n;exact a0 n.symm
 have out: ∀{b:aR},hx (λb=> ∃y ao,gl hp y=ab ao/\b∈adr ax y ao) s.heap Fr b=af->Fr b=af:=λ{b} n=>by
  rw[u7 λz=>bT z λy ao z=>own n y ao z.1 z.2] at n;exact n
 have c:=wC.cell 99 (.inst C ns (l.map .f)) rfl
 have xE:=wC.ca 99 (.inst C ns (l.map .f)) rfl _ (.head _)
 have ad:=wC.ca 99 (.inst C ns (l.map .f)) rfl _ (.tail _ (.head _))
 refine bT c.2 λes n q=> ?_
 have ne:ρ' (2*99+1)≠ρ' (2*99):=λz=>by have hE:=q.1;rw[z,c.1] at hE;cases hE
 have U:=Cl.QI (λb o=>bT o λy ao o=> (Cl.ca y ao o.1 b o.2).2) (λx ao e a aE=> ⟨x,ao,e,aE⟩) B.bE B.aY.bE B.aY.fr
 have TJ:=(U.fast c.1 xE.1 (out xE.2) (own xE.2)).fast q.1 (by rw[bh.f9 _ _ ne];exact ad.1) (out ad.2) (own ad.2)
 have e0:dT eF _:=(bh.yV (o:=kX C (ρ' (2*99+1))) (.inl xE.1)).trans (bh.yV (o:=eB es n) (.inl (by rw[bh.f9 _ _ ne];exact ad.1)))
 refine back _ ax hp s' (.f (.inst C ns l)) _ ⟨B.bE.trans e0,λ_ h=>h,λ_ _=>rfl,TJ,B.gens,B.os⟩ ?_ cg.2
 rw[a.2]
 exact bq.inst (by rw[bh.f9 _ _ ne.symm];exact bh.gb _ _ _) (bh.gb _ _ _) q.2.2.1 (XE e0 q.2.2.2)
end
end
theorem MD {n m:Nat} (h:n<m):xh (n:Int) m=ab n:=by
 unfold xh
 simp only[if_neg (HA.mpr (kU n)),decide_eq_true (kU n),decide_eq_true (AU.mpr h),Q9,if_true]
 rfl
theorem EZ {n m:Nat} (h:n+1<=m):tL n+(m:Int)=((m- (n+1):Nat):Int):=by omega
theorem Y4 {n m:Nat} (h:n+1<=m):xh (tL n) m=ab (m- (n+1)):=by
 unfold xh
 simp only[if_pos (Hz n),EZ h,decide_eq_true (kU (m- (n+1))),decide_eq_true (AU.mpr (Nat.sub_lt (p7 (w3 n) h) (w3 n))),Q9,if_true]
 rfl
theorem M1 {G:Prop} {α:Type} {l:List α} {i:Int} {v:α} (h:gd l i=ab v) (k: ∀n:Nat,i=(n:Int)->n<l.length->l[n]? =ab v->G) (kb: ∀n:Nat,i=tL n->n+1<=l.length->l[l.length- (n+1)]? =ab v->G):G:=by
 cases i with
 |ofNat n=>exact k n rfl (A0.mp h).1 h
 |negSucc n=>
  have h:(match gF (n+1) l.length with
   |true=>l[l.length- (n+1)]?
   |false=>af)=ab v:=h
  revert h
  cases q:gF (n+1) l.length with
  |true=>exact kb n rfl (cS q)
  |false=>exact λh=>by cases h
theorem M2 {α:Type} {l:List α} {i:Int} {v:α} (h:gd l i=ab v) (eA:l.length<=16777216): ∃k,xh i l.length=ab k/\l[k]? =ab v/\ -(2 ^ 63)<=i/\i<2 ^ 63:=
 M1 h (λn e l cM=> ⟨n,by rw[e];exact MD l,cM,by omega,by omega⟩) λn e l cM=> ⟨_,by rw[e];exact Y4 l,cM,by omega,by omega⟩
theorem UX {α:Type} (l:List α) (a b:Nat):(l.drop (min a l.length)).take (min b l.length-min a l.length)=(l.drop a).take (b-a):=by
 by_cases aE:a<=l.length
 ·rw[w0 aE]
  by_cases ag:b<=l.length
  ·rw[w0 ag]
  ·have ag:=HV ag
   rw[HX ag,HS (fh A2),HS (by rw[A2];exact R8 ag a)]
 ·have aE:=HV aE
  rw[HX aE,HF aE,HF (fi _),tP,tP]
theorem ac9 {α:Type} (l:List α) (a n:Nat) (h:a+n<=l.length):(A6 n).filterMap (λk=>l[a+k]?)=(l.drop a).take n:=by
 induction n with
 |zero=>rfl
 |succ n ai=>
  rw[List.range_succ,List.filterMap_append,ai (Nat.le_of_succ_le h),List.take_succ,RK,HH,List.filterMap_nil]
  cases l[a+n]? <;>rfl
theorem Pj {α:Type} (l:List α) (a b:Nat) (ag:b<=l.length):((xi a b 1).filterMap (l[·]?))=(l.drop a).take (b-a):=by
 rw[S0,List.filterMap_map]
 by_cases h:a<=b
 ·exact ac9 l a (b-a) (by rw[Nat.add_sub_cancel' h];exact ag)
 ·rw[H0 (HV h)];rfl
noncomputable def part (v:aj):Option (Option Int):=match v with
 | .none=>ab af
 | .int i=>ab (ab i)
 |_=>af
noncomputable def nL (n:Nat) (v:Option Int) (d:Int):Int:=match v with
 |none=>d
 |some i=>max 0 (min (if i<0 then i+n else i) n)
theorem UY (n k:Nat):max 0 (min (if(k:Int)<0 then(k:Int)+n else k) n)=((min k n:Nat):Int):=by
 rw[if_neg (HA.mpr (kU k))]
 cases R2 k n with
 |inl h=>rw[w0 h,Rr (oG.mpr h),Hy (kU k)]
 |inr h=>rw[HX h,Int.min_eq_right (oG.mpr h),Hy (kU n)]
theorem UW (n k:Nat):max 0 (min (if tL k<0 then tL k+n else tL k) n)=((min (n- (k+1)) n:Nat):Int):=by
 rw[if_pos (Hz k),w0 (oJ n (k+1))]
 cases R2 (k+1) n with
 |inl h=>rw[EZ h,Rr (oG.mpr (oJ n (k+1))),Hy (kU _)]
 |inr h=>
  rw[H0 h]
  exact Int.max_eq_left (AR (Int.min_le_left _ _) (by omega))
theorem ME {n d p:Nat} {v:aj} (hd:d<=n) (h:(match v with
  | .none=>ab d
  | .int (.ofNat k)=>ab k
  | .int (.negSucc k)=>ab (n- (k+1))
  |_=>af)=ab p): ∃o,part v=ab o/\nL n o d=((min p n:Nat):Int):=by
 cases v with
 |none=>exact⟨af,rfl,by rw[<-bQ h,w0 hd];rfl⟩
 |int i=>cases i with
  |ofNat k=>exact⟨_,rfl,(UY n k).trans (by rw[<-bQ h])⟩
  |negSucc k=>exact⟨_,rfl,(UW n k).trans (by rw[<-bQ h])⟩
 |_=>exact a0 h
theorem P8 {α:Type} {l r:List α} {a b:aj} (h:iu l a b=ab r): ∃(lo bj:Option Int) (p q:Nat),part a=ab lo/\part b=ab bj/\nL l.length lo 0=p/\nL l.length bj l.length=q/\q<=l.length/\(l.drop p).take (q-p)=r:=by
 unfold iu at h
 revert h
 cases e1:NU l a with
 |none=>exact λh=>a0 h
 |some lo=>cases e2:Mr l b with
  |none=>exact λh=>a0 h
  |some bj=>exact λh=>ak (ME (n:=l.length) (d:=0) (fu _) e1) λp P=>ak (ME (n:=l.length) (d:=l.length) (fi _) e2) λq Q=>
    ⟨p,q,_,_,P.1,Q.1,P.2,Q.2,R7 _ _,(UX l lo bj).trans (bQ h)⟩
theorem agA (lo bj:Option Int) (n:Nat):Bh lo bj 1 n=xi (nL n lo 0) (nL n bj n) 1:=by
 unfold Bh nL
 cases lo<;>cases bj<;>rfl
theorem afH (items:List ah) (lo bj:Option Int):slicePick items.toArray lo bj af=((xi (nL items.length lo 0) (nL items.length bj items.length) 1).filterMap (items[·]?)).toArray:=by
 unfold slicePick sliceBounds nL
 cases lo<;>cases bj<;>simp
section
theorem agG {slice:Expr} {o i:ah}:zz slice=aa->subscripted slice ac o i=operate [o,i] (getItem o i):=by
 cases slice with
 |Slice=>exact ck
 |_=>exact λ_=>rfl
theorem qo {α β:Type} {R:α->β->Prop} {l:List α} {vs:List β} (h:bC R l vs): ∀{n:Nat} {v:α},l[n]? =ab v-> ∃x,vs[n]? =ab x/\R v x:=by
 induction h with
 |nil=>exact λe=>a0 e
 | @cons a b l m h t ai=>
  intro n v e
  cases n with
  |zero=>exact⟨b,rfl,bQ e▸h⟩
  |succ n=>exact ai e
theorem yY {G:Prop} {i r:ae} {F:Int->Option ae} (h:(match i with
  | .f (.int i)=>F i
  |_=>af)=ab r) (k: ∀j,i= .f (.int j)->F j=ab r->G):G:=by
 cases i with
 |f v=>cases v with
  |int j=>exact k j rfl h
  |_=>exact a0 h
 |_=>exact a0 h
theorem tj {α β:Type} {l:List α} {o:Option β} {r:β} (h:(match cm l with
  |true=>o
  |false=>af)=ab r):cm l=aa/\o=ab r:=by
 cases e:cm l with
 |true=>rw[e] at h;exact⟨rfl,h⟩
 |false=>rw[e] at h;exact a0 h
theorem pT {α:Type} {l:List α} (h:cm l=aa):l.length<=16777216:=bf (pS h) (cS rfl)
variable [WP]
theorem ew.to {F:bh} {l:List aj}: ∀{vs:List ah},ew F l vs->bC (bq F) l vs:=by
 induction l with
 |nil=>exact λh=>by rw[h.q4];exact .nil
 |cons v l ai=>exact λh=>bT h.cases λy zs h=>by rw[h.1];exact .cons h.2.1 (ai h.2.2)
theorem bC.lR {F:bh} {l:List aj} {vs:List ah} (h:bC (bq F) l vs):ew F l vs:=by
 induction h with
 |nil=>exact .nil
 |cons h _ ai=>exact .cons h ai
theorem nd {R:aj->ah->Prop} {Q:ae->ah->Prop} {l:List ae} {vs:List ah} (h:bC Q l vs) (k: ∀v x,Q (.f v) x->R v x): ∀{fs:List aj},eL l=ab fs->bC R fs vs:=by
 induction h with
 |nil=>exact λe=>bQ e▸ .nil
 | @cons a b l m h t ai=>
  intro fs e
  cases a with
  |f v=>
   have e:(match eL l with
    |some r=>ab (v::r)
    |none=>af)=ab fs:=e
   revert e
   cases q:eL l with
   |none=>exact λe=>a0 e
   |some r=>exact λe=>bQ e▸ .cons (k v b h) (ai q)
  |_=>exact a0 e
theorem Vr {x:List Nat} {v:aj} {F:bh} {ks:List (List Nat)} {es:List cT} (aS:gh ks es): ∀{l:List aj},ew F l (es.map (·.val))->si x ks l=ab v-> ∃y,rZ (kvs ks es) (aK x)=ab y/\bq F v y:=by
 induction aS with
 |nil=>exact λ{l} _ h=>by cases l<;>exact a0 h
 | @cons k e ks es aS cp ai=>
  intro l aA h
  cases l with
  |nil=>exact a0 h
  |cons u l=>
   refine bT aA.cases λy zs i=> ?_
   have q:=gv i.1
   have h:(match aM k x with
    |true=>ab u
    |false=>si x ks l)=ab v:=h
   unfold rZ
   show∃y,H2 _ (HI _ ((aK k,e.val)::kvs ks es))=_/\_
   rw[wR,x7]
   revert h
   cases aM k x with
   |true=>exact λh=> ⟨y,congrArg ab q.1,bQ h▸i.2.1⟩
   |false=>exact λh=>ai (by rw[show es.map (·.val)=zs from q.2];exact i.2.2) h
section
variable {prog:cP} {w:ba} {A:c2} {E:ah->az->Prop} {s:az} {Γ:bM} {T:bG} {env:dm} {sc:cN} {S:cL} {Kf:bY} {k:Nat}
theorem aie {value slice:Expr} {pos:er} {Q:ah->az->Prop} (hs:zz slice=aa) (h:bg (bp prog w) A (dz value env) (λo bk=>bg (bp prog w) A (dz slice env) (λi dh=>rS (bp prog w) A o i Q E dh) E bk) E s):
  bg (bp prog w) A (dz (.Subscript value slice pos) env) Q E s:=by
 rw[SS]
 refine bx (h3 h (λo bk fF=>bx (gj (h3 fF (λi dh kF=>bx (gH (bx ?_))) λ_ _ x=>x))) λ_ _ x=>x)
 refine bT kF λT id h=> ?_
 rw[SW h.2.1.not_modules]
 refine bx (IJ h.2.1 h.1 (dc (bx ?_)))
 rw[agG hs]
 exact BM (h3 h.2.2 (λr fU iG=>bx (IH (dc iG))) λ_ _ x=>x)
theorem ND {α:Type} {a:aR} {l:List α} {vs:List ah} {n:Nat} {i:Int} {u:Tok} {v:α} {R:α->ah->Prop} {Q:ah->az->Prop} (h:s.heap.get? a=ab (lobj vs n)) (eA:cm l=aa) (aA:bC R l vs) (e:gd l i=ab v)
  (q: ∀x,R v x->Q x s):rS (bp prog w) A (.ref a) (.int i u) Q E s:=by
 have I:s.heap.IsList a vs.toArray:=⟨_,h,rfl,_,rfl⟩
 have len:=aA.length
 have z:=pS eA
 refine⟨"list",_,So.lookup,I.typeIs,M1 e (λn gn l e=>ak (qo aA e) λx e=> ?_) λn gn l e=>ak (qo aA e) λx e=> ?_⟩
 ·rw[gn]
  exact wpAny_getItem_list I (kU n) (by omega) (lC.trans e.1) (q x e.2)
 ·rw[gn]
  refine wpAny_getItem_list_neg I (Hz n) (by rw[hq];omega) (by omega) ?_ (q x e.2)
  rw[hq,<-len,EZ l]
  exact lC.trans e.1
theorem Zu {v i:ae} {cZ kI:ah} {K:ae->St->aB} {Q:ah->az->Prop} (ay:WP.P=w.params) (N:aX Γ T s) (aW:T.A v cZ) (bj:T.A i kI) (h:(aB.opt (mU v i T.σ) λr=>K r T.σ).holds) (q:fv Γ T K Q):rS (bp prog w) A cZ kI Q E s:=by
 refine ak h λr c6=> ?_
 clear h
 have e:=c6.1
 have h:(K r T.σ).holds:=c6.2
 clear c6
 cases v with
 |dy _ _=>exact a0 e
 |ap y=>
  refine yY (F:=λi=>match T.σ.g y with
   |some (.list l)=>match cm l with
    |true=>gd l i
    |false=>af
   |_=>af) e λj gn e=> ?_
  rw[gn] at bj
  refine ak (gJ bj) λu gn=> ?_
  rw[gn,aW.2]
  have c:=N.aY.cell y
  revert e c
  cases T.σ.g y with
  |none=>exact λe=>a0 e
  |some ao=>cases ao with
   |list l=>exact λe c=>bT (c _ rfl) λvs n c=>ND c.1 (tj e).1 c.2 (tj e).2 λx aH=>q.of N aH.1 h
   |_=>exact λe=>a0 e
 |f v=>cases v with
  |str x=>
   refine yY e λj gn e=>ak (fQ aW) λt ev=> ?_
   rw[gn] at bj
   refine ak (gJ bj) λu gn=> ?_
   rw[gn,ev.1]
   revert e
   cases nT:gd x j with
   |none=>exact λe=>a0 e
   |some c=>
   intro e
   rw[<-bQ e] at h
   have z:x.length<=16777216:=by rw[<-gi];exact ev.2
   refine ak (M2 nT z) λh7 m=> ⟨"str",_,Sq.lookup,xl _ _ _,P.getItem_str (c:=c) (by rw[decide_eq_false (HA.mpr m.2.2.1),decide_eq_false (Rv.mpr m.2.2.2)];rfl) ?_ (q.fr (N.toks _) (.str [c] _ (by show 1<=dZ;decide)) h)⟩
   rw[show(aK x).length=x.length from hq ..,m.1]
   exact lC.trans m.2.1
  |tup l=>
   refine yY e λj gn e=> ?_
   have m:=tj e
   refine bT (bq.i aW) λa vs f=> ?_
   rw[gn] at bj
   refine ak (gJ bj) λu gn=> ?_
   rw[gn,f.1]
   have e:=m.2
   revert e
   cases nT:gd l j with
   |none=>exact λe=>a0 e
   |some y=>
   intro e
   rw[<-bQ e] at h
   refine ak (M2 nT (pT m.1)) λh7 m=>ak (qo f.2.2.to m.2.1) λz g=> ?_
   exact⟨"tuple",_,F.slot_tuple_getitem.lookup,⟨_,N.aY.bE _ _ f.2.1,rfl⟩,P.getItem_tuple (k:=h7) (y:=z) (N.aY.bE _ _ f.2.1) m.2.2.1 m.2.2.2 (by rw[hq,<-f.2.2.length];exact m.1) (lC.trans g.1) (q.fr N g.2 h)⟩
  |lst l=>
   refine yY e λj gn e=> ?_
   have m:=tj e
   refine c5 (bq.i aW) λa vs n f=> ?_
   rw[gn] at bj
   refine ak (gJ bj) λu gn=> ?_
   rw[gn,f.1]
   have e:=m.2
   revert e
   cases nT:gd l j with
   |none=>exact λe=>a0 e
   |some y=>
   intro e
   rw[<-bQ e] at h
   exact ND (N.aY.bE _ _ f.2.1) m.1 f.2.2.to nT λx aH=>q.fr N aH h
  |ei ks l=>
   cases i with
   |f i=>cases i with
    |str x=>
     have e:(match si x ks l with
      |some v=>ab (.f v)
      |none=>af)=ab r:=e
     refine ak (fQ bj) λt gn=>c5 (bq.i aW) λa es n f=> ?_
     rw[gn.1,f.1]
     revert e
     cases nT:si x ks l with
     |none=>exact λe=>a0 e
     |some y=>
     intro e
     rw[<-bQ e] at h
     refine ak (Vr f.2.2.2.1 f.2.2.2.2 nT) λz g=> ?_
     have D:=pa (prog:=prog) ay (N.aY.bE _ _ f.2.2.1) f.2.1.1.1 f.2.2.2.1
     exact⟨"dict",_,F.slot_dict_getitem.lookup,D.typeIs,wpAny_getItem_of (isStrOf_self (aK x) t) D.mapOf g.1 (q.fr (N.toks _) g.2 h)⟩
    |_=>exact a0 e
   |_=>exact a0 e
  |_=>exact a0 e
end
end
section
theorem agF {a b n:Nat} (z:b-a=n+1) (l:b<=n+1):a=0:=by omega
theorem bC.drop {α β:Type} {R:α->β->Prop} {l:List α} {m:List β} (h:bC R l m): ∀n,bC R (l.drop n) (m.drop n):=by
 induction h with
 |nil=>exact λn=>by rw[AX,AX];exact .nil
 |cons h t ai=>exact λn=>by cases n with
  |zero=>exact .cons h t
  |succ n=>exact ai n
theorem bC.take {α β:Type} {R:α->β->Prop} {l:List α} {m:List β} (h:bC R l m): ∀n,bC R (l.take n) (m.take n):=by
 induction h with
 |nil=>exact λn=>by rw[tP,tP];exact .nil
 |cons h t ai=>exact λn=>by cases n with
  |zero=>exact .nil
  |succ n=>exact .cons h (ai n)
variable [WP]
section
variable {prog:cP} {w:ba} {A:c2} {E:ah->az->Prop} {s:az} {Γ:bM} {T:bG} {env:dm} {sc:cN} {S:cL} {Kf:bY} {k:Nat}
variable (ay:WP.P=w.params) (Ev:dk sc env Γ S) (bb:Top Kf Γ.base S) (F:iy prog w Kf S Γ.base k)
include ay
theorem af5 {o i:X} (dM:bc prog w Γ k S sc env o) (fS:bc prog w Γ k S sc env i):bc prog w Γ k S sc env (.cn o i):=
 .val ay rfl (λp hp {_ _ _ _ _ _} aw N h q=>aie (cU hp).1 (dM.cX _ (cU hp).2.1 aw N h λbS v av bk bi aT bl h=>fS.cX _ (cU hp).2.2 aw aT h λfj v2 o4 dh cC bR dF h=>Zu ay bR (bl.ex cC) dF h (q.ex (bi.trans cC)))) (λ_ _=>rfl) rfl rfl
omit ay
theorem zI {v:aj} {p:Option Int} {x:ah} (aW:bq T.aP v x) (e:part v=ab p):IsPart x p/\ ∃q:Option (Int×Tok),x=partValue q/\q.map (·.1)=p:=by
 cases v with
 |none=>rw[k8 aW,<-bQ e];exact⟨.none,af,rfl,rfl⟩
 |int i=>exact ak (gJ aW) λt h=>by rw[h,<-bQ e];exact⟨.int _ _,ab (i,t),rfl,rfl⟩
 |_=>exact a0 e
theorem NE {a aK:aR} {l r:List aj} {vs:List ah} {n:Nat} {lo bj:aj} {vy va:ah} {K:ae->St->aB} {Q:ah->az->Prop} (N:aX Γ T s) (h:s.heap.get? a=ab (lobj vs n)) (aA:bC (bq T.aP) l vs) (eA:cm l=aa) (pv:s.heap.get? aK=ab {cls:= .type "slice",data:= .fields #[vy,va,.none]}) (aq:bq T.aP lo vy) (aC:bq T.aP bj va)
  (e:iu l lo bj=ab r) (h:(K (.f (.lst r)) T.σ).holds) (q:fv Γ T K Q):rS (bp prog w) A (.ref a) (.ref aK) Q E s:=by
 have I:s.heap.IsList a vs.toArray:=⟨_,by assumption,rfl,_,rfl⟩
 refine nh (P8 e) λe8 iO hE gN P=> ⟨"list",_,So.lookup,I.typeIs, ?_⟩
 have len:=aA.length
 refine wpAny_getItem_list_slice I ⟨_,pv,rfl,rfl⟩ (zI aq P.1).1 (zI aC P.2.1).1 .none nofun ?_ (by rw[hq,<-len,gi];exact pT eA)
 rw[afH,<-len,P.2.2.1,P.2.2.2.1,Pj _ _ _ (by rw[<-len];exact P.2.2.2.2.1)]
 have cR:=N.vO (lobj ((vs.drop hE).take (gN-hE)) 0) rfl
 refine q _ _ (.f (.lst r)) _ cR.2 cR.1 ?_ h
 rw[<-P.2.2.2.2.2]
 exact bq.lst (bh.gb _ _ _) (ew.mono cR.2.bE ((aA.drop _).take _).lR)
theorem aid {value:Expr} {lo bj:Option Expr} {p pos:er} {Q:ah->az->Prop}
  (h:bg (bp prog w) A (dz value env) (λo bk=>bg (bp prog w) A (BC lo env) (λl dh=>bg (bp prog w) A (BC bj env) (λu fU=>
   rS (bp prog w) A o (.ref fU.heap.objs.size) Q E {fU with heap:=fU.heap.push {cls:= .type "slice",data:= .fields #[l,u,.none]}}) E dh) E bk) E s):
  bg (bp prog w) A (dz (.Subscript value (.Slice lo bj af p) pos) env) Q E s:=by
 rw[SS]
 refine bx (h3 h (λo bk fF=>bx (gj (wpAny_Slice (h3 fF (λl dh kF=>h3 kF (λu fU iG=> ?_) λ_ _ x=>x) λ_ _ x=>x)))) λ_ _ x=>x)
 rw[evalPart_none]
 refine dc (bx (gH (bx ?_)))
 refine bT iG λT id h=> ?_
 rw[SW h.2.1.not_modules]
 exact bx (IJ h.2.1 h.1 (dc (bx (BM (h3 h.2.2 (λr fU iG=>bx (IH (dc iG))) λ_ _ x=>x)))))
theorem str_slice {x r:List Nat} {t:Tok} {lo bj:aj} {vy va:ah} {K:ae->St->aB} {Q:ah->az->Prop} {sa:aR} (N:aX Γ T s) (aA:x.length<=dZ) (aE:bq T.aP lo vy) (ag:bq T.aP bj va) (pv:s.heap.get? sa=ab {cls:= .type "slice",data:= .fields #[vy,va,.none]})
  (e:iu x lo bj=ab r) (h:(K (.f (.str r)) T.σ).holds) (q:fv Γ T K Q):rS (bp prog w) A (.str (aK x) t) (.ref sa) Q E s:=by
 refine nh (P8 e) λe8 iO hE gN P=>ak (zI aE P.1).2 λl1 fY=>ak (zI ag P.2.1).2 λe0 hD=> ?_
 rw[fY.1,hD.1] at pv
 refine⟨"str",_,Sq.lookup,xl _ _ _,wpAny_getItem_str_slice (l:=l1) (u:=e0) (st:=af) ⟨_,pv,rfl,rfl⟩ rfl ?_⟩
 have c6:r.length<=dZ:=by rw[<-P.2.2.2.2.2,HN,A2];exact bf (bf (R7 _ _) (oJ _ _)) aA
 unfold sliceMade slicePicked
 rw[fY.2,hD.2,show(aK x).length=x.length from hq ..]
 show Made.post (if((1:Int)==1&&(Bh e8 iO 1 x.length).length==x.length)=aa then Ic (.str (aK x) t) else Ib ⟨((Bh e8 iO 1 x.length).filterMap ((aK x).cps[·]?)).toArray⟩) _ _
 rw[agA,P.2.2.1,P.2.2.2.1]
 split
 ·rename_i z
  have z:gN-hE=x.length:=by
   have z:=beq_iff_eq.mp (b2 z).2
   rw[S0,ed,List.length_range] at z
   exact z
  have gI:r=x:=by
   rw[<-P.2.2.2.2.2,z]
   cases x with
   |nil=>rw[AX,tP]
   |cons c x=>
    have l:gN<=x.length+1:=P.2.2.2.2.1
    rw[agF z l,HG,List.take_length]
  rw[gI] at h
  exact q.fr N (.str x t aA) h
 ·rw[show(xi hE gN 1).filterMap ((aK x).cps[·]?)=r by
   rw[<-P.2.2.2.2.2,<-Pj x hE gN P.2.2.2.2.1]
   exact congrArg (λf=>List.filterMap f (xi hE gN 1)) (funext λi=>lC)]
  exact⟨c6,q.fr (N.toks _) (.str r _ c6) h⟩
theorem afG {v a b:ae} {cZ av bv:ah} {K:ae->St->aB} {Q:ah->az->Prop} {sa:aR} (N:aX Γ T s) (aW:T.A v cZ) (aE:T.A a av) (ag:T.A b bv) (pv:s.heap.get? sa=ab {cls:= .type "slice",data:= .fields #[av,bv,.none]})
  (h:(aB.opt (ti v a b T.σ) λr=>K r T.σ).holds) (q:fv Γ T K Q):rS (bp prog w) A cZ (.ref sa) Q E s:=by
 refine ak h λr c6=> ?_
 clear h
 have e:=c6.1
 have h:(K r T.σ).holds:=c6.2
 clear c6
 cases a with
 |f lo=>cases b with
  |f bj=>cases v with
   |dy _ _=>exact a0 e
   |ap y=>
    rw[aW.2]
    have c:=N.aY.cell y
    have e:(match T.σ.g y with
     |some (.list l)=>match cm l with
      |true=>match eL l with
       |some l=>match iu l lo bj with
        |some r=>ab (.f (.lst r))
        |none=>af
       |none=>af
      |false=>af
     |_=>af)=ab r:=e
    revert e c
    cases T.σ.g y with
    |none=>exact λ_ e=>a0 e
    |some ao=>cases ao with
     |list l=>
      intro c e
      have m:=tj e
      have e:=m.2
      revert e
      cases kC:eL l with
      |none=>exact λe=>a0 e
      |some fs=>
      show(match iu fs lo bj with
       |some r=>ab (ae.f (.lst r))
       |none=>af)=ab r->_
      cases gI:iu fs lo bj with
      |none=>exact λe=>a0 e
      |some ir=>
      intro e
      rw[<-bQ e] at h
      refine bT (c _ rfl) λvs n c=> ?_
      have aA:=nd c.2 (λv x q=>q.1) kC
      exact NE N c.1 aA (by unfold cm;rw[aA.length,<-c.2.length];exact m.1) pv aE ag gI h q
     |_=>exact λ_ e=>a0 e
   |f v=>cases v with
    |str x=>
     refine ak (fQ aW) λt ev=> ?_
     rw[ev.1]
     have e:(match iu x lo bj with
      |some r=>ab (.f (.str r))
      |none=>af)=ab r:=e
     revert e
     cases gI:iu x lo bj with
     |none=>exact λe=>a0 e
     |some ir=>
     intro e
     rw[<-bQ e] at h
     exact str_slice N ev.2 aE ag pv gI h q
    |lst l=>
     refine c5 (bq.i aW) λa vs n f=> ?_
     rw[f.1]
     have m:=tj (o:=match iu l lo bj with
      |some r=>ab (ae.f (.lst r))
      |none=>af) e
     have e:=m.2
     revert e
     cases gI:iu l lo bj with
     |none=>exact λe=>a0 e
     |some ir=>
     intro e
     rw[<-bQ e] at h
     exact NE N (N.aY.bE _ _ f.2.1) f.2.2.to m.1 pv aE ag gI h q
    |_=>exact a0 e
  |_=>exact a0 e
 |_=>exact a0 e
include ay
theorem agk:bc prog w Γ k S sc env .no:= .of (λ_=>ck) (λ_=>ck) rfl rfl
theorem Pe {a:X} {o:Option Expr} (br:bc prog w Γ k S sc env a) (h:zF a (au sc a).x o=aa):mm prog w Γ k (ev S a).x (BC (ye a (au sc a).e o) env):=by
 unfold zF at h
 unfold ye
 cases e:y3 a with
 |true=>exact Zj (P:=λa=>mm prog w Γ k (ev S a).x (BC af env)) e λ{_ _ _ _ _ _} aw N h q=>dc (q.fr N .none h)
 |false=>
  rw[e] at h
  exact br.cX _ h
theorem agq {o a b:X} (dM:bc prog w Γ k S sc env o) (br:bc prog w Γ k S sc env a) (cV:bc prog w Γ k S sc env b):bc prog w Γ k S sc env (.aK o a b):=
 .val ay rfl (λp hp {_ _ _ _ _ _} aw N h q=>aid (dM.cX _ (cU hp).1 aw N h λbS v av bk bi aT bl h=>Pe ay br (cU hp).2.1 aw aT h λfj v2 o4 dh cC bR dF h=>Pe ay cV (cU hp).2.2 aw bR h λi1 QK Jv fU eW dU mG h=>
  afG (dU.push {cls:= .type "slice",data:= .fields #[v2,QK,.none]}) (bl.ex (cC.trans eW)) (dF.ex eW) mG (ju _ rfl) h (q.ex ((bi.trans cC).trans eW)))) (λ_ _=>rfl) rfl rfl
end
end
section
noncomputable def one (K:ae->St->aB) (vs:List ae) (σ:St):aB:=match vs with
 | [v]=>K v σ
 |_=> .hP
noncomputable def two (K:ae->ae->St->aB) (vs:List ae) (σ:St):aB:=match vs with
 | [v,u]=>K v u σ
 |_=> .hP
theorem acU {G:Prop} {R:ae->ah->Prop} {K:ae->St->aB} {as:List ae} {vs:List ah} {σ:St} (a:bC R as vs) (h:(one K as σ).holds) (k: ∀v x,vs= [x]->R v x->(K v σ).holds->G):G:=by
 cases a with
 |nil=>exact h.elim
 |cons aq t=>cases t with
  |nil=>exact k _ _ rfl aq h
  |cons _ _=>exact h.elim
theorem ag9 {G:Prop} {R:ae->ah->Prop} {K:ae->ae->St->aB} {as:List ae} {vs:List ah} {σ:St} (a:bC R as vs) (h:(two K as σ).holds) (k: ∀v u x y,vs= [x,y]->R v x->R u y->(K v u σ).holds->G):G:=by
 cases a with
 |nil=>exact h.elim
 |cons aq t=>cases t with
  |nil=>exact h.elim
  |cons aC t=>cases t with
   |nil=>exact k _ _ _ _ rfl aq aC h
   |cons _ _=>exact h.elim
variable [WP]
section
variable {prog:cP} {w:ba} {A:c2} {E:ah->az->Prop} {s:az} {Γ:bM} {T:bG} {env:dm} {sc:cN} {S:cL} {Kf:bY} {k:Nat}
theorem wp_release {M:tZ} {vs keep:List ah} {Q:Unit->az->Prop} (h:Q () s):bg M A (release vs keep) Q E s:=λΓ p DN=>by rw[Sem.wp_release];exact h
variable (ay:WP.P=w.params) (Ev:dk sc env Γ S) (bb:Top Kf Γ.base S) (F:iy prog w Kf S Γ.base k)
include ay
theorem agj {a:X} (br:bc prog w Γ k S sc env a):bc prog w Γ k S sc env (.neg a):=
 .val ay rfl (λp hp {_ _ _ _ _ _} aw N h q=>wpAny_UnaryOp (br.cX _ hp aw N h λbS v av bk bi aT bl h=>ak (dp h) λi h=>by
  rw[o3 h.1] at bl
  exact ak (gJ bl) λt e=>by rw[e];exact P.neg_int ((q.ex bi).fr (aT.toks _) (.int _ _) h.2))) (λ_ _=>rfl) rfl rfl
theorem afS {hS iN:hr} {a b c:X} (br:bc prog w Γ k S sc env a) (cV:bc prog w Γ k S sc env b) (iH:bc prog w Γ k S sc env c):bc prog w Γ k S sc env (.fw hS iN a b c):=by
 have pD: ∀p:Expr,By iN ((au sc c).e (aq (xs p)))=ac->markedEach [hS,iN] [((au sc b).e (h0 (xs p))),((au sc c).e (aq (xs p)))] (xf [((au sc b).e (h0 (xs p))),((au sc c).e (aq (xs p)))] env)= [dz ((au sc b).e (h0 (xs p))) env,dz ((au sc c).e (aq (xs p))) env]:=λp h=>by
  show dz ((au sc b).e (h0 (xs p))) env:: [markedBehindIn iN ((au sc c).e (aq (xs p))) (dz ((au sc c).e (aq (xs p))) env)]=_
  rw[markedBehindIn_of_false h]
 refine .of (λp hp A E s T K Q aw N h q=> ?_) (λp hp A E s T K Q aw N h q=> ?_) rfl rfl
 ·show bg _ _ (dz (.Compare _ [hS,iN] [_,_] _) env) _ _ _
  rw[arm_eval_Compare,pD p (jg (d0 hp).1)]
  refine bx (br.cX _ (d0 hp).2.1 aw N h λbS u dE bk bi aT bl h=>bx (gj (cV.cX _ (d0 hp).2.2.1 aw aT h λfj v av dh cC bR dF h=>bx (gH (bx (gj
   (sg ay bR (bl.ex cC) dF h λr fU dU h=>bx (wp_release (bx (gj (t9 ?_)))))))))))
  cases r with
  |false=>exact dc ((q.ex (bi.trans cC)).fr dU (.bool ac) h)
  |true=>exact bx (gj (iH.cX _ (d0 hp).2.2.2 aw dU h λkY v4 Jw iR g6 fM k2 h=>bx (gH (BM (sg ay fM (dF.ex g6) k2 h λr rp gQ h=> (q.ex ((bi.trans cC).trans g6)).fr gQ (.bool r) h)))))
 ·show bg _ _ (isTrue (.Compare _ [hS,iN] [_,_] _) env _) _ _ _
  rw[arm_isTrue_Compare,pD p (jg (d0 hp).1)]
  refine bx (br.cX _ (d0 hp).2.1 aw N h λbS u dE bk bi aT bl h=>bx (gj (cV.cX _ (d0 hp).2.2.1 aw aT h λfj v av dh cC bR dF h=>bx (gH (bx (gj
   (sg ay bR (bl.ex cC) dF h λr fU dU h=>bx (wp_release (bx (gj (t9 ?_)))))))))))
  cases r with
  |false=>exact dc (q _ _ _ (bi.trans cC) dU h)
  |true=>exact bx (gj (iH.cX _ (d0 hp).2.2.2 aw dU h λkY v4 Jw iR g6 fM k2 h=>bx (gH (bx (BM (sg ay fM (dF.ex g6) k2 h λr rp gQ h=>gj (t9 (q kY r rp ((bi.trans cC).trans g6) gQ (nI h)))))))))
theorem agu {l:X} (gX:bc prog w Γ k S sc env l):bc prog w Γ k S sc env (.tup l):=
 .val ay rfl (λp hp {_ _ _ _ _ _} aw N h q=>wpAny_Tuple_spliced (gX.ov _ _ hp aw N h λbS vs as bk bi aT bl h=>ak (dp h) λfs h=>
  have aA:=nd (R:=bq bS.aP) bl (λ_ _ q=>q) h.1
  have cR:=aT.vO (mc vs 0) rfl
  ⟨by rw[gi,<-aA.length];exact pT (gq h.2).1,q _ _ (.f (.tup fs)) _ (bi.trans cR.2) cR.1 (bq.tup (bh.gb _ _ _) (ew.mono cR.2.bE aA.lR)) (gq h.2).2⟩)) (λ_ _=>rfl) rfl rfl
theorem agg {l:X} (gX:bc prog w Γ k S sc env l):bc prog w Γ k S sc env (.lst l):=
 .val ay rfl (λp hp {_ _ _ _ _ _} aw N h q=>S6 (gX.ov _ _ hp aw N h λbS vs as bk bi aT bl h=>ak (dp h) λfs h=>
  have aA:=nd (R:=bq bS.aP) bl (λ_ _ q=>q) h.1
  have cR:=aT.vO (lobj vs 0) rfl
  ⟨by rw[gi,<-aA.length];exact pT (gq h.2).1,q _ _ (.f (.lst fs)) _ (bi.trans cR.2) cR.1 (bq.lst (bh.gb _ _ _) (ew.mono cR.2.bE aA.lR)) (gq h.2).2⟩)) (λ_ _=>rfl) rfl rfl
omit ay
theorem Le {f:ah} {as:List Expr} {pos:er} {args:X} (br:bc prog w Γ k S sc env args) (aE:(au sc args).l as=aa) (aS:rX f=pure .machine) {K:List ae->St->aB} (aw:fq A k) (N:aX Γ T s) (h:((ev S args).l T.σ K).holds) {Q:ah->az->Prop}
  (q:IL Γ T K λvs s'=>bg (bp prog w) A (iA f vs) Q E s'):
  bg (bp prog w) A (t5 pos f [] (iZ pos (h2 ((au sc args).dw as) env)) (mz pos (mA [] env))) Q E s:=
 Bq (P:=λ_=>True) (by rw[br.st as pos aE];rfl) (λh _=> ⟨.machine,.inr (.inl rfl),.of_pure aS⟩)
  (De (br.st as pos aE) rfl (br.ov as pos aE aw N h λbS vs av bk bi aT bl h=>S7 ⟨trivial,q bS vs av bk bi aT bl h⟩))
include ay in
theorem UD {f:ah} {e:Expr} {pos:er} {a:X} (br:bc prog w Γ k S sc env a) (aC:notStar ((au sc a).e e)=aa) (bz:(au sc a).x e=aa) (aS:rX f=pure .machine) {K:ae->St->aB} (aw:fq A k) (N:aX Γ T s) (h:((ev S a).x T.σ K).holds) {Q:ah->az->Prop}
  (q:fv Γ T K λv s'=>bg (bp prog w) A (iA f [v]) Q E s'):bg (bp prog w) A (t5 pos f [] (iZ pos (h2 [(au sc a).e e] env)) (mz pos (mA [] env))) Q E s:=
 Le (args:= .cons a .nil) (as:= [e]) (z3 ay br (z4 ay)) (i3 (i3 aC bz) rfl) aS aw N (K:=one K) h λbS vs as bk bi aT bl h=>acU bl h λv x e a h=>by rw[e];exact q bS x v bk bi aT a h
include ay Ev bb
theorem qt {n:String} {f:ah} {e p:Expr} {a:X} (ar:(cE n,f)∈uA) (aS:rX f=pure .machine) (hp:(jI sc n&&notStar ((au sc a).e e)&&(au sc a).x e)=aa) (br:bc prog w Γ k S sc env a) {K:ae->St->aB} (aw:fq A k) (N:aX Γ T s) (h:((ev S a).x T.σ K).holds) {Q:ah->az->Prop}
  (q:fv Γ T K λv s'=>bg (bp prog w) A (iA f [v]) Q E s'):bg (bp prog w) A (dz (jZ n [(au sc a).e e] p) env) Q E s:=
 xm (vx bb Ev ar (cU hp).1 N (UD ay br (cU hp).2.1 (cU hp).2.2 aS aw N h q))
theorem KY {n:String} {f:ah} {e cM p:Expr} {a b:X} (ar:(cE n,f)∈uA) (aS:rX f=pure .machine) (hp:(jI sc n&&notStar ((au sc a).e e)&&notStar ((au sc b).e cM)&&(au sc a).x e&&(au sc b).x cM)=aa) (br:bc prog w Γ k S sc env a) (cV:bc prog w Γ k S sc env b) {K:ae->ae->St->aB} (aw:fq A k) (N:aX Γ T s)
  (h:((ev S a).x T.σ λv σ=> (ev S b).x σ λu σ=>K v u σ).holds) {Q:ah->az->Prop}
  (q: ∀a4 v u av bv s',T.dS a4->aX Γ a4 s'->a4.A av v->a4.A bv u->(K av bv a4.σ).holds->bg (bp prog w) A (iA f [v,u]) Q E s'):bg (bp prog w) A (dz (jZ n [(au sc a).e e,(au sc b).e cM] p) env) Q E s:=
 xm (vx bb Ev ar (fk hp).1 N (Le (args:= .cons a (.cons b .nil)) (as:= [e,cM]) (z3 ay br (z3 ay cV (z4 ay))) (i3 (i3 (fk hp).2.1 (fk hp).2.2.2.1) (i3 (i3 (fk hp).2.2.1 (fk hp).2.2.2.2) rfl)) aS aw N (K:=two K) h
  λbS vs as bk bi aT bl h=>ag9 bl h λv u x y e a b h=>by rw[e];exact q bS x y v u bk bi aT a b h))
omit ay Ev bb
theorem NZ {α:Type} {a:aR} {l:List α} {vs:List ah} {n:Nat} {Q:ah->az->Prop} (h:s.heap.get? a=ab (lobj vs n)) (e:l.length=vs.length) (eA:cm l=aa) (q: ∀t,Q (.int l.length t) {s with toks:=s.toks+1+1}):bg (bp prog w) A (iA (.builtin "len") [.ref a]) Q E s:=
 call_len_list ⟨_,h,rfl,_,rfl⟩ (by rw[hq,<-e];exact z2 eA) (by rw[hq,<-e];exact q _)
theorem aby {v:ae} {l:List ae} (h:ia T.σ v=ab l): ∃y,v= .ap y/\T.σ.g y=ab (.list l):=by
 cases v with
 |ap y=>
  have h:(match T.σ.g y with
   |some ao=>Jh ao
   |none=>af)=ab l:=h
  cases cI:T.σ.g y with
  |none=>rw[cI] at h;exact a0 h
  |some ao=>
   rw[cI] at h
   cases ao with
   |list l=>exact⟨y,rfl,by rw[cI];exact congrArg (λl=>ab (cb.list l)) (bQ h)⟩
   |_=>exact a0 h
 |_=>exact a0 h
theorem Es {v:ae} {x:ah} {l:List ae} (N:aX Γ T s) (aW:T.A v x) (h:ia T.σ v=ab l): ∃y,v= .ap y/\T.U y/\T.σ.g y=ab (.list l)/\x= .ref (T.ax (2*y))/\ ∃vs n,s.heap.get? (T.ax (2*y))=ab (lobj vs n)/\bC (λa e=>T.A a e/\glob a=aa) l vs:=
 ak (aby h) λy h=>have a:T.A (.ap y) x:=h.1▸aW;⟨y,h.1,a.1,h.2,a.2,N.aY.cell y _ h.2⟩
theorem aaK {v:ae} {x:ah} {K:ae->St->aB} {Q:ah->az->Prop} (N:aX Γ T s) (aW:T.A v x) (h:(ct (NA v T.σ) λn=>nW n.1 (K (.f (.int n.2)) T.σ)).holds) (q:fv Γ T K Q):bg (bp prog w) A (iA (.builtin "len") [x]) Q E s:=by
 have cell:(ct ((ia T.σ v).map λl=> (ab (cm l=aa),l.length)) λn=>nW n.1 (K (.f (.int n.2)) T.σ)).holds->bg (bp prog w) A (iA (.builtin "len") [x]) Q E s:=λh=>ak (dp h) λr h=>ak (p9.mp h.1) λl e=>
  ak (Es N aW e.1) λy c=>bT c.2.2.2.2 λvs n d=>by
   have h:=h.2
   rw[<-e.2] at h
   rw[c.2.2.2.1]
   exact NZ d.1 d.2.length h.1 λt=>q.fr (N.toks _) (.int _ t) h.2
 cases v with
 |ap y=>exact cell h
 |dy _ _=>exact cell h
 |f v=>cases v with
  |str x=>
   refine ak (fQ aW) λt e=> ?_
   have len:(aK x).length=x.length:=hq ..
   have z:=e.2
   rw[gi] at z
   rw[e.1]
   refine P.len_str (by rw[len];omega) ?_
   rw[len]
   exact q.fr (N.toks _) (.int _ _) h
  |lst l=>exact c5 (bq.i aW) λa vs n f=>by rw[f.1];exact NZ (N.aY.bE _ _ f.2.1) f.2.2.length h.1 λt=>q.fr (N.toks _) (.int _ t) h.2
  |_=>exact cell h
include ay Ev bb
theorem age {a:X} (br:bc prog w Γ k S sc env a):bc prog w Γ k S sc env (.len a):=
 .val ay rfl (λp hp {_ _ _ _ _ _} aw N h q=>qt ay Ev bb (f:= .builtin "len") (.head _) rfl hp br aw N h λbS v av bk bi aT bl h=>aaK aT bl h (q.ex bi)) (λ_ _=>rfl) rfl rfl
end
end
section
variable [WP]
section
variable {prog:cP} {w:ba} {A:c2} {E:ah->az->Prop} {s:az} {Γ:bM} {T:bG} {env:dm} {sc:cN} {S:cL} {Kf:bY} {k:Nat}
theorem Zn {P:az->Prop} (ay: ∀s cp,P s->P {s with toks:=cp}) {x D d2:aR} {vK:bW} {E7:Option bW} {cs:List ah} {vs:List Bool} {cp:Tok} {Q:Fin->az->Prop}
  (I:InstAt s.heap x vK D E7) (Mx:s.heap.get? d2=ab (mc cs 0)) (ps:D≠d2) (aE:AnswersAll P (.ref x) cs vs) (hs:P s)
  (dC: ∀jQ,Q (.done (.ret (.bool (vs.any id)))) {s with toks:=jQ}):bg (bp prog w) A (Builtin.«isinstance.nested» ⟨[.ref x,.ref d2,.int 0 cp],[]⟩) Q E s:=by
 obtain ⟨h,g,d,t,os⟩:=s
 have Ry:=I.type (M:=bp prog w)
 have aiJ:(⟨h,g,d,t,os⟩:az).TypeIs (.ref d2) "tuple" :=⟨_,Mx,rfl⟩
 have f1:=F.isi_sub_tuple
 unfold Builtin.«isinstance.nested»
 refine bx (Ry.at ?_)
 rw[if_neg (by simp;exact ps)]
 repeat (any_goals (first|assumption|wp_step))
 refine wpAny_arrayLoop ?_
 simp only[Option.getD_some,List.toList_toArray]
 refine isinstance_items (dep:=0) ay cs vs _ _ aE hs λjQ=> ?_
 cases aW:vs.any id with
 |true=>
  simp only[if_true]
  repeat (any_goals (first|assumption|wp_step))
  exact aW▸dC jQ
 |false=>
  simp only[Rb,if_false]
  repeat (any_goals (first|assumption|wp_step))
  exact aW▸dC jQ
abbrev p1 (Kf:bY) (x D:aR) (d:aR) (es:List cT) (n:Nat) (s:az):Prop:=Kf.In s.heap/\InstAt s.heap x (kX D d) D (ab (eB es n))
theorem Ln {D:aR} (h:(my Kf D).isSome=aa): ∃a b cd d,Kf.lookup D=ab ⟨a,b,.cls cd,d⟩:=by
 unfold my at h
 revert h
 cases Kf.lookup D with
 |none=>exact ck
 |some o=>cases o with|mk a b c d=>cases c with
  |cls cd=>exact λ_=> ⟨a,b,cd,d,rfl⟩
  |_=>exact ck
theorem Cd {x D C:aR} {d:aR} {es:List cT} {n:Nat} {m:List (Nat×Bool)} {b:Bool} (bb:Top Kf Γ.base S) (em:aL D S.sub=ab m) (e:aL C m=ab b):Answers (p1 Kf x D d es n) (.ref x) (.ref C) b:=by
 have O:=bb.sub D m em
 have h:=O.c C b e
 cases b with
 |true=>exact λdep cp _ _ _ _ s hs=>isi_nested hs.1.1 hs.1.2.type (h.1 rfl) (hs.2 s.toks)
 |false=>
  have e:=h.2 rfl
  unfold kin_not at e
  have e:=d0 e
  intro dep cp prog w A R s hs
  exact kin_nested O.g O.d O.a bb.yD.1 bb.yD.2 O.q2 hs.1.1 hs.1.2 (looks_typeIn hs.1.1 (beq_iff_eq.mp e.2.2.1)) (c5 (Ln e.2.1) λa b cd i=>ak i λd i rD oV nk s' k q=>by
   unfold isType loadHead
   exact bx (II (k _ _ (hs.1.1 _ _ i)) (dc q))) (Hi.mpr λq=>of_decide_eq_true e.1 (Bn (beq_iff_eq.mp q))) (looks_subIn hs.1.1 (beq_iff_eq.mp e.2.2.2)) (hs.2 (s.toks+1))
theorem Zm {x D C:aR} {d:aR} {es:List cT} {n:Nat} {m:List (Nat×Bool)} {b:Bool} {Q:ah->az->Prop} (bb:Top Kf Γ.base S) (em:aL D S.sub=ab m) (e:aL C m=ab b) (I:p1 Kf x D d es n s) (q: ∀cp,Q (.bool b) {s with toks:=cp}):
  bg (bp prog w) A (iA (.builtin "isinstance") [.ref x,.ref C]) Q E s:=
 SP (S:=λ_ R s=>p1 Kf x D d es n s/\ ∀jQ,R (.ok (.ret (.bool b))) {s with toks:=jQ})
  (λ_ _ _ _ _ hs=>SX (Cd bb em e 0 0 _ _ _ _ _ hs) nofun) ⟨I,q⟩
theorem Zo {x D iv iV d2:aR} {d:aR} {es:List cT} {n:Nat} {m:List (Nat×Bool)} {b1 ii:Bool} {Q:ah->az->Prop} (bb:Top Kf Γ.base S) (em:aL D S.sub=ab m) (e1:aL iv m=ab b1) (e2:aL iV m=ab ii) (I:p1 Kf x D d es n s)
  (ci:s.heap.get? d2=ab (mc [.ref iv,.ref iV] 0)) (q: ∀cp,Q (.bool (b1||ii)) {s with toks:=cp}):bg (bp prog w) A (iA (.builtin "isinstance") [.ref x,.ref d2]) Q E s:=by
 have abX:D≠d2:=λq=>nh (Ln (bb.Lp D m em)) λa b cd d i=>by
  have i:=I.1 _ _ i
  rw[q,ci] at i
  exact H7 (congrArg Obj.data (bQ i))
 have e:(b1||ii)= [b1,ii].any id:=by cases b1<;>cases ii<;>rfl
 rw[e] at q
 exact SP (S:=λ_ R s=> (p1 Kf x D d es n s/\s.heap.get? d2=ab (mc [.ref iv,.ref iV] 0))/\ ∀jQ,R (.ok (.ret (.bool ([b1,ii].any id)))) {s with toks:=jQ})
  (λ_ _ _ _ _ hs=>SX (Zn (cs:= [.ref iv,.ref iV]) (vs:= [b1,ii]) (P:=p1 Kf x D d es n) (λ_ _ h=>h) hs.1.1.2 hs.1.2 abX ⟨Cd bb em e1,Cd bb em e2,trivial⟩ hs.1.1 hs.2) nofun) ⟨⟨I,ci⟩,q⟩
theorem Zl {v c:ae} {x y:ah} {K:ae->St->aB} {Q:ah->az->Prop} (bb:Top Kf Γ.base S) (N:aX Γ T s) (aW:T.A v x) (aD:T.A c y) (h:(ct (DY S v c) λr=>K (.f (.bool r)) T.σ).holds) (q:fv Γ T K Q):
  bg (bp prog w) A (iA (.builtin "isinstance") [x,y]) Q E s:=by
 cases v with
 |f v=>cases v with
  |inst D ns l=>
   refine nh (bq.i aW) λa d es n i=> ?_
   rw[i.1]
   have I:p1 Kf a D d es n s:=⟨N.gY bb.toKnown,N.aY.bE _ _ i.2.1,rfl,rfl,N.aY.bE _ _ i.2.2.1⟩
   have h:(ct (match aL D S.sub with
    |some m=>match c with
     | .f (.st e)=>aL e m
     | .f (.tup [.st e,.st g])=>Fc (aL e m) (aL g m)
     |_=>af
    |none=>af) λr=>K (.f (.bool r)) T.σ).holds:=h
   revert h
   cases em:aL D S.sub with
   |none=>exact fK
   |some m=>cases c with
    |f c=>cases c with
     |st C=>exact λh=>ak (dp h) λr h=>by rw[bq.i aD];exact Zm bb em h.1 I λcp=>q.fr (N.toks cp) (.bool r) h.2
     |tup l=>cases l with
      |nil=>exact fK
      |cons hL l=>cases hL with
       |st iv=>cases l with
        |nil=>exact fK
        |cons qu l=>cases qu with
         |st iV=>cases l with
          |cons _ _=>exact fK
          |nil=>
           show(ct (Fc (aL iv m) (aL iV m)) λr=>K (.f (.bool r)) T.σ).holds->_
           cases e1:aL iv m with
           |none=>exact fK
           |some b1=>cases e2:aL iV m with
            |none=>exact fK
            |some ii=>
             refine λh=>bT (bq.i aD) λd2 vs f=> ?_
             have ci:=N.aY.bE _ _ f.2.1
             refine bT f.2.2.cases λb3 QY g=>bT g.2.2.cases λG5 mi g'=> ?_
             rw[g.1,g'.1,g'.2.2.q4,g.2.1.i,g'.2.1.i] at ci
             rw[f.1]
             exact Zo bb em e1 e2 I ci λcp=>q.fr (N.toks cp) (.bool _) h
         |_=>exact fK
       |_=>exact fK
     |_=>exact fK
    |_=>exact fK
  |_=>exact h.elim
 |_=>exact h.elim
variable (ay:WP.P=w.params) (Ev:dk sc env Γ S) (bb:Top Kf Γ.base S) (F:iy prog w Kf S Γ.base k)
include ay Ev bb
theorem af3 {a c:X} (br:bc prog w Γ k S sc env a) (iH:bc prog w Γ k S sc env c):bc prog w Γ k S sc env (.gy a c):=
 .val ay rfl (λp hp {_ _ _ _ K _} aw N h q=>KY (K:=λv u σ=>ct (DY S v u) λr=>K (.f (.bool r)) σ) ay Ev bb (f:= .builtin "isinstance") (.tail _ (.head _)) rfl hp br iH aw N h λbS v u av bv bk bi aT a b h=>Zl bb aT a b h (q.ex bi)) (λ_ _=>rfl) rfl rfl
end
end
section
theorem Uy {a b:Nat} (h:d4 a b=ac):b<=a:=mu.mp λq=>by rw[show d4 a b=aa from mq q] at h;exact ck h.symm
theorem B5 {σ:St} {y:Nat} {ao:cb} (x:Nat):(σ.add y ao).g x=if x=y then ab ao else σ.g x:=by
 unfold St.add St.g
 cases q:d4 y 100 with
 |true=>cases z:d4 x 100 with
  |true=>exact vu y ao σ.hp x
  |false=>exact(if_neg λe=>by rw[e,q] at z;exact ck z.symm).symm
 |false=>cases z:d4 x 100 with
  |true=>exact(if_neg λe=>by rw[e,q] at z;exact ck z).symm
  |false=>exact vu y ao σ.lh x
theorem abJ {n:Nat} {l:List Nat}:n∈l->iL n l=aa:=λh=>by
 induction h with
 |head=>exact(nj ..).mpr (.inl (Ba n))
 |tail _ _ ai=>exact(nj ..).mpr (.inr ai)
theorem XD {σ:St} {y:Nat} (h:σ.free y=aa):σ.g y=af/\y∉σ.lu:=by
 unfold St.free at h
 cases e:σ.g y with
 |some _=>rw[e] at h;exact ck h
 |none=>rw[e] at h;exact⟨rfl,λq=>by rw[abJ q] at h;exact ck h⟩
theorem zt {σ:St} {x y:Nat} (h:newId σ x=ab y):σ.free y=aa:=by
 unfold newId at h
 revert h
 cases q:σ.free x with
 |true=>exact λh=>bQ h▸q
 |false=>cases q:σ.free (x+1) with
  |true=>exact λh=>bQ h▸q
  |false=>cases q:σ.free (x+2) with
   |true=>exact λh=>bQ h▸q
   |false=>exact a0
theorem B6 {σ:St} {y:Nat} {ao:cb}:(∀x∈σ.lu,x∈(σ.add y ao).lu)/\(100<=y->y∈(σ.add y ao).lu)/\ ∀x∈(σ.add y ao).lu,x∈σ.lu\/100<=x:=by
 unfold St.add
 cases q:d4 y 100 with
 |true=>exact⟨λx h=>h,λh=>absurd h (Nat.not_le.mpr (cS q)),λx h=> .inl h⟩
 |false=>exact⟨λx h=> .tail _ h,λ_=> .head _,λx h=> (e5.mp h).elim (λe=> .inr (e▸Uy q)) .inl⟩
theorem TQ {σ:St} {y:Nat} {ao:cb}:(σ.add y ao).loc=σ.loc:=by unfold St.add;cases d4 y 100<;>rfl
theorem I8 {ax:Nat->aR} {y:Nat} {ao:cb} {a b:aR} (one:adr ax y ao= [ax (2*y)]) (h:b∈adr ax y ao) (e:ax (2*y)=a):b=a:=by rw[one] at h;exact(jU.mp h).trans e
noncomputable def rC (ax:Nat->aR) (y:Nat) (a:aR):Nat->aR:=λn=>if n=2*y then a else ax n
theorem wy {ax:Nat->aR} {y:Nat} {a:aR}:rC ax y a (2*y)=a:=if_pos rfl
theorem G9 {ax:Nat->aR} {y x:Nat} {a:aR} (h:x≠y):rC ax y a (2*x)=ax (2*x)/\rC ax y a (2*x+1)=ax (2*x+1):=⟨if_neg (by omega),if_neg (by omega)⟩
variable [WP]
theorem bC.ah6 {R:ae->ah->Prop} {l:List ae} {vs:List ah} (h:bC R l vs):lM l=aa->bC (λa v=>R a v/\Q7.glob a=aa) l vs:=by
 induction h with
 |nil=>exact λ_=> .nil
 |cons h t ai=>exact λg=> .cons ⟨h,(b2 g).1⟩ (ai (b2 g).2)
structure Apart (Γ:bM) (T:bG) (it:aR):Prop where
 bE:T.aP it=af
 fr:Γ.Fr it=af
 L:it≠Γ.L
 cell: ∀x ao,T.σ.g x=ab ao->it∉adr T.ax x ao
section
variable {prog:cP} {w:ba} {A:c2} {E:ah->az->Prop} {s:az} {Γ:bM} {T:bG} {env:dm} {sc:cN} {S:cL} {Kf:bY} {k:Nat}
theorem aX.apart (N:aX Γ T s) {b:aR} (h: ∀o,s.heap.get? b≠ab o):Apart Γ T b:=
 have f:=N.aY.fresh h
 ⟨f.1,f.2.1,λq=>ak N.lo.ns λm z=>c5 z.1 λo es ep z=>h o (q▸z.1),f.2.2⟩
theorem aX.fresh (N:aX Γ T s):Apart Γ T s.heap.objs.size:=N.apart (zw (fi _))
theorem aX.adopt {Q:Prop} (N:aX Γ T s) {y:Nat} {a:aR} (cO:T.σ.free y=aa) {ao:cb} (b0:Apart Γ T a) (one: ∀ax,adr ax y ao= [ax (2*y)])
  (C: ∀ax U,(∀x,T.U x->U x)->(∀x,T.U x->ax (2*x)=T.ax (2*x))->ax (2*y)=a->lz T.aP ax U s.heap y ao)
  (q: ∀a4,a4.σ=T.σ.add y ao->aX Γ a4 s->T.dS a4->a4.A (.ap y) (.ref a)->a4.ax (2*y)=a->Q):Q:=by
 have f:=XD cO
 have EW: ∀x,T.U x->x≠y:=λx h q=>by
  rw[q] at h
  exact h.elim (λh=>by rw[f.1] at h;exact ck h.1) f.2
 have dN: ∀x,T.U x->dO (T.σ.add y ao).g (T.σ.add y ao).lu x:=λx h=>h.elim (λh=> .inl ⟨by rw[B5,if_neg (EW x (.inl h))];exact h.1,h.2⟩) λh=> .inr (B6.1 x h)
 have og: ∀x,T.U x->rC T.ax y a (2*x)=T.ax (2*x):=λx h=> (G9 (EW x h)).1
 have ex:T.dS ⟨T.aP,rC T.ax y a,T.σ.add y ao⟩:=⟨dT.refl _,dN,og⟩
 have old: ∀x cB,(T.σ.add y ao).g x=ab cB->(x=y/\cB=ao)\/(x≠y/\T.σ.g x=ab cB):=λx cB e=>by
  rw[B5] at e
  by_cases h:x=y
  ·rw[if_pos h] at e;exact .inl ⟨h,(bQ e).symm⟩
  ·rw[if_neg h] at e;exact .inr ⟨h,e⟩
 have aY:=N.aY.add (y:=y) (ao:=ao) (g':=(T.σ.add y ao).g) (λx h=>G9 h) old (λx h=> ⟨EW x h,dN x h⟩) (C (rC T.ax y a) _ dN og wy) λb ag=>by
  rw[I8 (one _) ag wy]
  exact⟨b0.bE,b0.fr,b0.cell⟩
 refine q ⟨T.aP,rC T.ax y a,T.σ.add y ao⟩ rfl ⟨aY,⟨?_,N.lo.free,λx cB e=> (old x cB e).elim (λh ag=> ?_) λh ag=> ?_,λx h=> (B6.2.2 x h).elim (N.lo.lu x) λh=>h⟩,N.base,N.gens,N.os,λx b e=> ⟨dN x (N.pin x b e).1,(og x (N.pin x b e).1).trans (N.pin x b e).2⟩⟩ ex ⟨?_,congrArg w6 wy.symm⟩ wy
 ·refine ak N.lo.ns λm h=> ⟨m,h.1,λn av e=>ak (h.2 n av ?_) λv p=> ⟨v,p.1,p.2.ex ex⟩⟩
  have e:gs n (T.σ.add y ao).loc=ab av:=e
  rw[TQ] at e
  exact e
 ·rw[h.1,h.2] at ag
  exact b0.L (I8 (one _) ag wy).symm
 ·exact N.lo.b0 x cB h.2 (o1 (G9 h.1) cB▸ag)
 ·show dO (T.σ.add y ao).g (T.σ.add y ao).lu y
  by_cases zj:y<100
  ·exact .inl ⟨by rw[B5,if_pos rfl];rfl,zj⟩
  ·exact .inr (B6.2.1 (mu.mp zj))
theorem aX.ag5 {y n:Nat} {l cz:List ae} {vs vs':List ah} {f:Array ah->Array ah} {t:Nat} (N:aX Γ T s) (cO:T.σ.g y=ab (.list l)) (cI:s.heap.get? (T.ax (2*y))=ab (lobj vs n)) (hf:f vs.toArray=vs'.toArray)
  (aA:bC (λa v=>T.A a v/\glob a=aa) cz vs'):
  aX Γ ⟨T.aP,T.ax,T.σ.put y (.list cz)⟩ {s with heap:=s.heap.update (T.ax (2*y)) (Bl f),toks:=t}/\T.dS ⟨T.aP,T.ax,T.σ.put y (.list cz)⟩:=
 N.turn cO (a:=T.ax (2*y)) (.head _) (bo:= .list cz) rfl ⟨vs',_,by have u:=Sx (h:=s.heap) (l:=T.ax (2*y)) (items:=vs.toArray) (n:=n) cI f;rw[hf] at u;exact u,aA⟩
theorem aX.Cx (N:aX Γ T s) (bb:Top Kf Γ.base S):2<s.heap.objs.size:=
 ak bb.lim λm h=>c5 h.1 λo es ep h=>oO (N.keeps _ _ h.1)
variable (ay:WP.P=w.params) (Ev:dk sc env Γ S) (bb:Top Kf Γ.base S) (F:iy prog w Kf S Γ.base k)
include ay bb
theorem afP {x:Nat} {l:X} (gX:bc prog w Γ k S sc env l):bc prog w Γ k S sc env (.cell x l):=
 .val ay rfl (λp hp {_ _ _ _ _ _} aw N h q=>S6 (gX.ov _ _ hp aw N h λbS vs as bk bi aT bl h=>ak h λy h=>
  have g:=gq h.2
  ⟨by rw[gi,<-bl.length];exact pT (b2 g.1).1,(aT.push (lobj vs 0)).adopt (a:=bk.heap.objs.size) (ao:= .list as) (zt h.1) aT.fresh (λ_=>rfl)
   (λax U dN og e=> ⟨vs,0,by rw[e];exact ju _ rfl,(bl.mono λa v q=>q.mono (dT.refl _) dN og).ah6 (b2 g.1).2⟩) λa4 e cR be i2 _=>q a4 _ (.ap y) _ (bi.trans be) cR i2 (by rw[e];exact g.2)⟩)) (λ_ _=>rfl) rfl rfl
theorem afO {x:Nat}:bc prog w Γ k S sc env (.o7 x):=
 .val ay rfl (λp hp {_ _ s _ _ _} aw N h q=>ak h λy h=>wpAny_Dict_empty ((N.push w8).adopt (a:=s.heap.objs.size) (ao:= .dict [] []) (zt h.1) N.fresh (λ_=>rfl)
   (λax U dN og e=> ⟨[],0,⟨⟨.nil,λk h=>absurd h eG⟩,by rw[e];exact beq_eq_false_iff_ne.mpr λq=>absurd (N.Cx bb) (by rw[q];exact Nat.not_lt_zero _∘Nat.lt_of_succ_lt_succ∘Nat.lt_of_succ_lt)⟩,by rw[e];exact ju _ rfl,.nil,.nil⟩) λa4 e cR be i2 _=>q a4 _ (.ap y) _ be cR i2 (by rw[e];exact h.2))) (λ_ _=>rfl) rfl rfl
end
end
section
theorem bC.snoc {α β:Type} {R:α->β->Prop} {l:List α} {m:List β} {a:α} {b:β} (x:bC R l m) (h:R a b):bC R (l++ [a]) (m++ [b]):=x.cF (.cons h .nil)
theorem bC.EL {α QZ β:Type} {R:α->β->Prop} {R':QZ->β->Prop} {f:α->QZ} (k: ∀a b,R a b->R' (f a) b) {l:List α} {m:List β} (x:bC R l m):bC R' (l.map f) m:=by
 induction x with
 |nil=>exact .nil
 |cons h _ ai=>exact .cons (k _ _ h) ai
theorem Zc {α:Type} (l:List α):DT l=l.dropLast:=by
 induction l with
 |nil=>rfl
 |cons a l ai=>cases l with
  |nil=>rfl
  |cons b r=>exact congrArg (a:: ·) ai
theorem aav {α:Type} (l:List α):D5 l=l[l.length-1]? :=by
 induction l with
 |nil=>rfl
 |cons a l ai=>cases l with
  |nil=>rfl
  |cons b r=>exact ai
theorem bC.dropLast {α β:Type} {R:α->β->Prop} {l:List α} {m:List β} (h:bC R l m):bC R l.dropLast m.dropLast:=by
 rw[RG,RG,h.length];exact h.take _
theorem W0 (vs:List ah):(vs.toArray.eraseIdxIfInBounds 0)=(vs.drop 1).toArray:=by
 cases vs with
 |nil=>rfl
 |cons a vs=>simp[Q5]
theorem W1 (vs:List ah):(vs.toArray.eraseIdxIfInBounds (vs.toArray.size-1))=vs.dropLast.toArray:=by
 refine wB.mp ?_
 cases vs with
 |nil=>rfl
 |cons a vs=>
  rw[Q5]
  have:(a::vs).toArray.size-1< (a::vs).toArray.size:=by simp
  rw[dif_pos this]
  have e: ∀(l:List ah) (b:ah),(b::l).eraseIdx l.length=(b::l).dropLast:=by
   intro l
   induction l with
   |nil=>intro b;rfl
   |cons c l ai=>
    intro b
    show b::(c::l).eraseIdx l.length=b::(c::l).dropLast
    rw[ai c]
  simpa using e vs a
variable [WP]
section
variable {prog:cP} {w:ba} {A:c2} {E:ah->az->Prop} {s:az} {Γ:bM} {T:bG} {env:dm} {sc:cN} {S:cL} {Kf:bY} {k:Nat}
theorem zm {n:String} {v:Expr} {b0 pos:er} (hm:zl v b0 pos=aa) {Q:ah->az->Prop} (h:bg (bp prog w) A (dz v env) (λe3 bk=>Ie prog w A (cE n) pos e3 [] Q E bk) E s):
  bg (bp prog w) A (dz (.Call (.Attribute v (cE n) b0) [] [] pos) env) Q E s:=S3 (uy (b2 hm).1) rfl (b2 hm).2 rfl h
theorem EN {n:String} {v e:Expr} {b0 pos:er} (hm:zl v b0 pos=aa) (hs:notStar e=aa) {Q:ah->az->Prop} (h:bg (bp prog w) A (dz v env) (λe3 bk=>Ie prog w A (cE n) pos e3 [(ac,dz e env)] Q E bk) E s):
  bg (bp prog w) A (dz (.Call (.Attribute v (cE n) b0) [e] [] pos) env) Q E s:=
 have e1:iZ pos (h2 [e] env)= [(ac,dz e env)]:=by rw[v3 hs];rfl
 S3 (uy (b2 hm).1) (by rw[e1];rfl) (b2 hm).2 e1 h
theorem noDict {a:aR} {o:bW} (h:s.heap.get? a=ab o) (hd:o.dict=af): ∀b,w6 a= .ref b-> ∃ap,s.heap.get? b=ab ap/\ap.dict=af:=λb e=> ⟨o,Bn e▸h,hd⟩
structure tQ (Γ:bM) (T:bG) (s:az) (v:ae) (l:List ae) (a:aR) (vs:List ah) (n:Nat):Prop where
 at_:s.heap.get? a=ab (lobj vs n)
 all:bC (λa e=>T.A a e/\glob a=aa) l vs
 turn: ∀{f:Array ah->Array ah} {vs':List ah} {cz:List ae} {t:Nat} {K:St->aB} {Q:az->Prop},f vs.toArray=vs'.toArray->bC (λa e=>T.A a e/\glob a=aa) cz vs'->(putK T.σ (idOf v) (.list cz) K).holds->nD Γ T K Q->Q {s with heap:=s.heap.update a (Bl f),toks:=t}
theorem mX {v:ae} {x:ah} {l:List ae} (N:aX Γ T s) (aW:T.A v x) (h:ia T.σ v=ab l): ∃a vs n,x= .ref a/\tQ Γ T s v l a vs n:=
 ak (Es N aW h) λy c=>bT c.2.2.2.2 λvs n d=> ⟨_,vs,n,c.2.2.2.1,d.1,d.2,λhf aA h q=>
  have t:=N.ag5 c.2.2.1 d.1 hf aA
  q _ _ t.2 t.1 (by rw[Fn,c.1] at h;exact h)⟩
theorem tQ.kN {v:ae} {l:List ae} {a:aR} {vs:List ah} {n:Nat} (L:tQ Γ T s v l a vs n) (h:cm l=aa):vs.length<=1000000:=by rw[<-L.all.length];exact pS h
theorem tQ.no {v:ae} {l:List ae} {a:aR} {vs:List ah} {n:Nat} (L:tQ Γ T s v l a vs n):s.TypeIs (.ref a) "list" /\ ∀b,w6 a= .ref b-> ∃ap,s.heap.get? b=ab ap/\ap.dict=af:=⟨⟨_,L.at_,rfl⟩,noDict L.at_ rfl⟩
theorem pE {n:Nat} (h:n<=1000000):n+1000000<=dZ/\n<=dZ:=by rw[gi];omega
variable (ay:WP.P=w.params)
include ay
theorem afK {o a:X} (dM:bc prog w Γ k S sc env o) (br:bc prog w Γ k S sc env a):bc prog w Γ k S sc env (.cF o a):=by
 refine .val ay rfl (λp hp A E s T K Q aw N h q=>EN (d0 hp).1 (d0 hp).2.1 (dM.cX _ (d0 hp).2.2.1 aw N h λbS v av bk bi aT bl h=>ak (dp h) λl h=>c5 (mX aT bl h.1) λb vs n L=> ?_)) (λ_ _=>rfl) rfl rfl
 rw[L.1] at bl⊢
 refine⟨"list","list.append",Bj,Sm,F.type_list_append,L.2.no.1,L.2.no.2,P.append_list (br.cX _ (d0 hp).2.2.2 aw aT h.2 λfj u dE dh cC bR dF h=>ak (dp h) λcz h=>c5 (mX bR (bl.ex cC) h.1) λfN vs' fy L=> ?_)⟩
 rw[Bn L.1]
 exact⟨vs'.toArray,fy,(pE (L.2.kN h.2.1)).2,L.2.at_,L.2.turn (vs':=vs'++ [u]) (f:=λxs=>xs.push u) (RS _ _) (L.2.all.snoc ⟨dF,(gq h.2.2).1⟩) (gq h.2.2).2 λi1 fU eW dU h=> (q.ex ((bi.trans cC).trans eW)).fr dU .none h⟩
theorem afW {o a:X} (dM:bc prog w Γ k S sc env o) (br:bc prog w Γ k S sc env a):bc prog w Γ k S sc env (.ext o a):=by
 refine .val ay rfl (λp hp A E s T K Q aw N h q=>EN (d0 hp).1 (d0 hp).2.1 (dM.cX _ (d0 hp).2.2.1 aw N h λbS v av bk bi aT bl h=>ak (dp h) λl h=>c5 (mX aT bl h.1) λb vs n L=> ?_)) (λ_ _=>rfl) rfl rfl
 rw[L.1] at bl⊢
 refine⟨"list","list.extend",Bj,F.slot_list_extend,F.type_list_extend,L.2.no.1,L.2.no.2,P.extend_list (br.cX _ (d0 hp).2.2.2 aw aT h.2 λfj u dE dh cC bR dF h=>ak (dp h) λcz h=>c5 (mX bR (bl.ex cC) h.1) λfN vs' fy L=>ak (dp h.2) λm h=> ?_)⟩
 rw[xC h.1] at dF
 refine c5 (bq.i dF) λc ws gM f=> ?_
 have z:=L.2.kN h.2.1.1
 have mi:ws.length<=1000000:=by rw[<-f.2.2.length];exact pS h.2.1.2
 have ww:vs'.length+ws.length<=dZ:=bf (iW mi _) (pE z).1
 rw[Bn L.1]
 refine⟨c,vs'.toArray,ws.toArray,fy,gM,(pE z).2,tR ww, ?_,f.1,L.2.at_,bR.aY.bE _ _ f.2.1,L.2.turn (vs':=vs'++ws) (f:=λxs=>xs++ws.toArray) (HB _ _) (L.2.all.cF (f.2.2.to.EL λ_ _ h=> ⟨h,rfl⟩)) h.2.2 λi1 fU eW dU h=> (q.ex ((bi.trans cC).trans eW)).fr dU .none h⟩
 rw[show Sh (vs'.toArray.size+ws.toArray.size)=ac from decide_eq_false (mu.mpr ww),ho]
 exact oB
theorem ago {o:X} (dM:bc prog w Γ k S sc env o):bc prog w Γ k S sc env (.rd o):=by
 refine .val ay rfl (λp hp A E s T K Q aw N h q=>EN (b2 hp).1 rfl (dM.cX _ (b2 hp).2 aw N h λbS v av bk bi aT bl h=>ak (dp h) λl h=>c5 (mX aT bl h.1) λb vs n L=>ak (dp h.2) λu h=> ?_)) (λ_ _=>rfl) rfl rfl
 rw[L.1]
 have h:=h
 rw[List.head?_eq_getElem?,<-List.drop_one] at h
 refine ak (qo L.2.all h.1) λc g=> ⟨"list","list.pop",Bj,Sp,Su,L.2.no.1,L.2.no.2,P.pop_at_list (S5 ?_)⟩
 have l:=(A0.mp g.1).1
 exact⟨vs.toArray,n,0,bk.toks,0,c,(pE (L.2.kN h.2.1)).2,rfl,L.2.at_,by decide,MD (n:=0) l,lC.trans g.1,
   L.2.turn (vs':=vs.drop 1) (f:=λxs=>xs.eraseIdxIfInBounds 0) (W0 vs) (L.2.all.drop 1) h.2.2 λi1 fU eW dU h=>q _ _ _ _ (bi.trans eW) dU (g.2.1.ex eW) h⟩
theorem agp {o:X} (dM:bc prog w Γ k S sc env o):bc prog w Γ k S sc env (.rf o):=by
 refine .val ay rfl (λp hp A E s T K Q aw N h q=>zm (b2 hp).1 (dM.cX _ (b2 hp).2 aw N h λbS v av bk bi aT bl h=>ak (dp h) λl h=>c5 (mX aT bl h.1) λb vs n L=>ak h.2 λu h=> ?_)) (λ_ _=>rfl) rfl rfl
 rw[L.1]
 have h:=h
 rw[aav,Zc] at h
 refine ak (qo L.2.all h.1) λc g=> ⟨"list","list.pop",Bj,Sp,Su,L.2.no.1,L.2.no.2,P.pop_list L.2.at_ (y:=c) ?_ (L.2.turn (vs':=vs.dropLast) (f:=λxs=>xs.eraseIdxIfInBounds (vs.toArray.size-1)) (W1 vs) L.2.all.dropLast h.2.2 λi1 fU eW dU h=>q _ _ _ _ (bi.trans eW) dU (g.2.1.ex eW) h) (pE (L.2.kN h.2.1)).2⟩
 rw[hq,<-L.2.all.length]
 exact lC.trans g.1
end
end
section
theorem Xw (xs:List (List Nat)): ∀a:List Nat,((xs.map aK).foldl (λacc p=>acc++(aK []).cps++p.cps) a.toArray)=(a++aZ xs).toArray:=by
 induction xs with
 |nil=>exact λa=>by rw[show aZ []= [] from rfl,dj];rfl
 |cons x xs ai=>
  intro a
  have e:a.toArray++(aK []).cps++(aK x).cps=(a++x).toArray:=by simp
  exact(congrArg (λb=> (xs.map aK).foldl (λacc p=>acc++(aK []).cps++p.cps) b) e).trans ((ai (a++x)).trans (by rw[bt];rfl))
theorem X0 (xs:List (List Nat)):Txt.join (aK []) (xs.map aK)=aK (aZ xs):=by
 cases xs with
 |nil=>rfl
 |cons x xs=>exact congrArg rR (Xw xs x)
theorem Xx (xs:List (List Nat)): ∀n:Nat,((xs.map aK).foldl (λa x=>a+x.length+(aK []).length) n)=n+(aZ xs).length:=by
 induction xs with
 |nil=>exact λn=>rfl
 |cons x xs ai=>exact λn=> (ai (n+x.length)).trans (by rw[p6,<-bL];rfl)
theorem Zy (xs:List (List Nat)) (h:SZ (aZ xs).length):JoinOk (aK []) (xs.map aK)=aa:=by
 unfold JoinOk
 rw[List.foldl_toArray,Xx xs 0,jt]
 unfold Si
 rw[gi]
 have h:(aZ xs).length<=16777216:=h
 simp;omega
theorem adg (x y:List Nat):SF (aK x) (aK y)=pre y x:=by
 unfold SF
 rw[show(aK x).length=x.length from hq ..,show(aK y).length=y.length from hq ..,AI,zM]
 simp only[jt,gE,decide_eq_true_eq]
 constructor
 ·exact λh=>bT ((z6 (by rw[jt];exact h.1)).mp h.2) λa z q=> ⟨z,by rw[q.2,wQ q.1];rfl⟩
 ·intro h
  refine ak h λz e=> ?_
  have l:y.length<=x.length:=by rw[e,bL];exact gG _ _
  exact⟨l,(z6 (by rw[jt];exact l)).mpr ⟨[],z,rfl,e⟩⟩
variable [WP]
theorem Qh {F:bh} {fs:List aj} {vs:List ah} (h:bC (bq F) fs vs): ∀{xs:List (List Nat)},kM fs=ab xs-> ∃gf:List Tok,vs=BH ((xs.map aK).zip gf)/\gf.length=xs.length:=by
 induction h with
 |nil=>exact λh=>by rw[<-bQ h];exact⟨[],rfl,rfl⟩
 | @cons v x fs vs aW t ai=>
  intro xs h
  cases v with
  |str y=>
   have h:(match kM fs with
    |some l=>ab (y::l)
    |none=>af)=ab xs:=h
   revert h
   cases e:kM fs with
   |none=>exact λh=>a0 h
   |some l=>
    refine λh=>ak (ai e) λgf i=>ak (fQ aW) λu q=> ?_
    rw[<-bQ h,q.1,i.1]
    exact⟨u::gf,rfl,congrArg tU i.2⟩
  |_=>exact a0 h
section
variable {prog:cP} {w:ba} {A:c2} {E:ah->az->Prop} {s:az} {Γ:bM} {T:bG} {env:dm} {sc:cN} {S:cL} {Kf:bY} {k:Nat}
theorem OD {n:String} {v e:Expr} {b0 pos:er} (hm:zl v b0 pos=aa) (hs:notStar e=aa) {Q:ah->az->Prop} (h:bg (bp prog w) A (dz v env) (λe3 bk=>MethodOnS prog w A E (cE n) e3 pos [(ac,dz e env)] Q bk) E s):
  bg (bp prog w) A (dz (.Call (.Attribute v (cE n) b0) [e] [] pos) env) Q E s:=
 have e1:iZ pos (h2 [e] env)= [(ac,dz e env)]:=by rw[v3 hs];rfl
 wpAny_Call_method_lateS (uy (b2 hm).1) (by rw[e1];rfl) (b2 hm).2 (by rw[e1];exact h)
theorem Zx {v:ae} {x:ah} {xs:List (List Nat)} (N:aX Γ T s) (aW:T.A v x) (e:DZ v T.σ=ab xs): ∃a vs,x= .ref a/\s.heap.IsList a vs.toArray/\ ∃gf:List Tok,vs=BH ((xs.map aK).zip gf)/\gf.length=xs.length:=by
 have cell:(match ia T.σ v with
  |some l=>match eL l with
   |some fs=>kM fs
   |none=>af
  |none=>af)=ab xs-> ∃a vs,x= .ref a/\s.heap.IsList a vs.toArray/\ ∃gf:List Tok,vs=BH ((xs.map aK).zip gf)/\gf.length=xs.length:=λe=>by
  revert e
  cases dw:ia T.σ v with
  |none=>exact λe=>a0 e
  |some l=>
   refine c5 (mX N aW dw) λa vs n L=> ?_
   show(match eL l with
    |some fs=>kM fs
    |none=>af)=ab xs-> ∃a vs,x= .ref a/\s.heap.IsList a vs.toArray/\ ∃gf:List Tok,vs=BH ((xs.map aK).zip gf)/\gf.length=xs.length
   cases kC:eL l with
   |none=>exact λe=>a0 e
   |some fs=>exact λe=> ⟨a,vs,L.1,⟨_,L.2.at_,rfl,_,rfl⟩,Qh (nd L.2.all (λ_ _ h=>h.1) kC) e⟩
 cases v with
 |f v=>cases v with
  |lst l=>exact c5 (bq.i aW) λa vs n f=> ⟨a,vs,f.1,⟨_,N.aY.bE _ _ f.2.1,rfl,_,rfl⟩,Qh f.2.2.to e⟩
  |_=>exact cell e
 |_=>exact cell e
variable (ay:WP.P=w.params)
include ay
theorem af6 {a b:X} (br:bc prog w Γ k S sc env a) (cV:bc prog w Γ k S sc env b):bc prog w Γ k S sc env (.join a b):=by
 refine .val ay rfl (λp hp A E s T K Q aw N h q=>OD (d0 hp).1 (d0 hp).2.1 (br.cX _ (d0 hp).2.2.1 aw N h λbS v av bk bi aT bl h=>ak (dp h) λz h=> ?_)) (λ_ _=>rfl) rfl rfl
 rw[mE h.1] at bl
 have h:=gq h.2
 rw[HM.mp h.1] at bl
 refine ak (fQ bl) λt e=> ?_
 rw[e.1]
 refine SB.join (cV.cX _ (d0 hp).2.2.2 aw aT h.2 λfj u dE dh cC bR dF h=>ak h λxs h=>bT (Zx bR dF h.1) λD vs i=>ak i.2.2 λgf j=> ⟨D,(xs.map aK).zip gf,i.1,by rw[<-j.1];exact i.2.1,xs.map aK,List.map_fst_zip (by rw[ed];exact fh j.2.symm),Zy xs h.2.1,λdR k=> ?_⟩)
 rw[X0]
 exact(q.ex (bi.trans cC)).fr (bR.toks k) (.str _ _ (by rw[gi];exact h.2.1)) h.2.2
theorem agt {a b:X} (br:bc prog w Γ k S sc env a) (cV:bc prog w Γ k S sc env b):bc prog w Γ k S sc env (.tm a b):=by
 refine .val ay rfl (λp hp A E s T K Q aw N h q=>OD (d0 hp).1 (d0 hp).2.1 (br.cX _ (d0 hp).2.2.1 aw N h λbS v av bk bi aT bl h=>ak (dp h) λx h=> ?_)) (λ_ _=>rfl) rfl rfl
 rw[mE h.1] at bl
 refine ak (fQ bl) λt e=> ?_
 rw[e.1]
 refine SB.startswith (cV.cX _ (d0 hp).2.2.2 aw aT h.2 λfj u dE dh cC bR dF h=>ak (dp h) λy h=> ?_)
 rw[mE h.1] at dF
 refine ak (fQ dF) λg4 e=> ⟨_,g4,e.1, ?_⟩
 rw[adg]
 exact(q.ex (bi.trans cC)).fr bR (.bool _) h.2
end
end
section
variable [WP]
abbrev bM.hold (Γ:bM) (it:aR) (o:bW):bM:={Γ with Fr:=Γ.Fr.ins it o}
theorem aX.hold {Γ:bM} {T:bG} {s:az} {it:aR} {o:bW} (N:aX Γ T s) (a:Apart Γ T it) (h:s.heap.get? it=ab o):aX (Γ.hold it o) T s:=by
 refine⟨⟨N.aY.bE,λb x e=> ?_,N.aY.cell,λx ao e b ag=> ⟨(N.aY.ca x ao e b ag).1,(bh.f9 _ _ λq=>a.cell x ao e (by rw[<-q];exact ag)).trans (N.aY.ca x ao e b ag).2⟩,N.aY.gm⟩,⟨N.lo.ns,⟨N.lo.free.1,(bh.f9 _ _ (iY a.L)).trans N.lo.free.2⟩,N.lo.b0,N.lo.lu⟩,N.base,N.gens,N.os,N.pin⟩
 by_cases q:b=it
 ·rw[q] at e⊢
  exact⟨bQ ((bh.gb _ _ _).symm.trans e)▸h,a.bE⟩
 ·exact N.aY.fr b x ((bh.f9 _ _ q).symm.trans e)
theorem yW {F:bh} {it b:aR} {o x:bW} (hf:F it=af) (e:F b=ab x):F.ins it o b=ab x:=(bh.f9 _ _ λq=>by rw[q,hf] at e;exact a0 e).trans e
theorem dk.hold {sc:cN} {env:dm} {Γ:bM} {S:cL} {it:aR} {o:bW} (E:dk sc env Γ S) (hf:Γ.Fr it=af):dk sc env (Γ.hold it o) S:=
 ⟨E.scope,E.kind,E.loc,E.i7,E.blt,λn v e=>c5 (E.clo n v e) λc ap x h=> ⟨c,ap,x,h.1,yW hf h.2.1,h.2.2⟩⟩
theorem sO {F:bh} {it b:aR} {o:bW} (e:F.ins it o b=af):b≠it/\F b=af:=
 have q:b≠it:=λq=>by rw[q,bh.gb] at e;cases e
 ⟨q,(bh.f9 _ _ q).symm.trans e⟩
theorem aX.loose {Γ:bM} {T:bG} {s:az} {it:aR} {o:bW} (N:aX (Γ.hold it o) T s) (hf:Γ.Fr it=af):aX Γ T s/\Apart Γ T it/\s.heap.get? it=ab o:=
 have pD:=N.aY.fr it o (bh.gb _ _ _)
 ⟨⟨⟨N.aY.bE,λb x e=>N.aY.fr b x (yW hf e),N.aY.cell,λx ao e b ag=> ⟨(N.aY.ca x ao e b ag).1,(sO (N.aY.ca x ao e b ag).2).2⟩,N.aY.gm⟩,⟨N.lo.ns,⟨N.lo.free.1,(sO N.lo.free.2).2⟩,N.lo.b0,N.lo.lu⟩,N.base,N.gens,N.os,N.pin⟩,
  ⟨pD.2,hf,λq=> (sO N.lo.free.2).1 q.symm,λx ao e ag=> (sO (N.aY.ca x ao e it ag).2).1 rfl⟩,pD.1⟩
theorem aX.step {Γ:bM} {T:bG} {s:az} {it:aR} {h':cu} {t:Nat} (N:aX Γ T s) (a:Apart Γ T it) (k: ∀b o,b≠it->s.heap.get? b=ab o->h'.get? b=ab o):aX Γ T {s with heap:=h',toks:=t}:=
 ⟨⟨λb o e=>k b o (λq=>by rw[q,a.bE] at e;exact a0 e) (N.aY.bE b o e),λb o e=> ⟨k b o (λq=>by rw[q,a.fr] at e;exact a0 e) (N.aY.fr b o e).1,(N.aY.fr b o e).2⟩,
  λx ao e=>iw (dT.refl _) (λ_ h=>h) (λ_ _=>rfl) (λb ag=>ak (lL (N.aY.cell x ao e) b ag) λo aq=>aq.trans (k b o (λq=>a.cell x ao e (by rw[<-q];exact ag)) aq).symm) rfl rfl (N.aY.cell x ao e),N.aY.ca,N.aY.gm⟩,
  ⟨ak N.lo.ns λm h=> ⟨m,c5 h.1 λo es ep h=> ⟨o,es,ep,k _ _ (iY a.L) h.1,h.2⟩,h.2⟩,N.lo.free,N.lo.b0,N.lo.lu⟩,N.base,N.gens,N.os,N.pin⟩
section
variable {prog:cP} {w:ba} {A:c2} {E:ah->az->Prop} {s:az} {Γ:bM} {T:bG} {env:dm} {sc:cN} {S:cL} {Kf:bY} {k:Nat}
structure Iter (prog:cP) (w:ba) (it:aR) (J:List ae->bW->bh->Prop):Prop where
 up: ∀l o F g8,dT F g8->J l o F->J l o g8
 next: ∀(A:c2) (E:ah->az->Prop) (v:ae) (l:List ae) (o:bW) (F:bh) (s:az) (Q:Option ah->az->Prop),A.handled=af->(∀b x,F b=ab x->s.heap.get? b=ab x)->s.heap.get? it=ab o->J (v::l) o F->
  (∀h' dR x ef,(∀ax U,d9 F ax U v x)->(∀b y,b≠it->s.heap.get? b=ab y->h'.get? b=ab y)->h'.get? it=ab ef->J l ef F->Q (ab x) {s with heap:=h',toks:=dR})->bg (bp prog w) A (pyNext (.ref it)) Q E s
 stop: ∀(A:c2) (E:ah->az->Prop) (o:bW) (F:bh) (s:az) (Q:Option ah->az->Prop),A.handled=af->(∀b x,F b=ab x->s.heap.get? b=ab x)->s.heap.get? it=ab o->J [] o F->
  (∀h' dR,(∀b y,b≠it->s.heap.get? b=ab y->h'.get? b=ab y)->Q af {s with heap:=h',toks:=dR})->bg (bp prog w) A (pyNext (.ref it)) Q E s
structure Hx (Γ:bM) (T:bG) (s:az) (it:aR) (J:List ae->bW->bh->Prop) (L:List ae->St->Prop) (m:Nat) (l:List ae) (a4:bG) (o:bW):Prop where
 len:l.length=m
 x:T.dS a4
 N:aX Γ a4 s
 a:Apart Γ a4 it
 bV:s.heap.get? it=ab o
 J:J l o a4.aP
 h:L l a4.σ
theorem uZ {it:aR} {J:List ae->bW->bh->Prop} {n:Nat} {b:Q7.S} {body:List cy} {l5:er} (I:Iter prog w it J) (Ev:dk sc env Γ S) (aA:fG sc (nm n)=aa)
  (cV: ∀o,Γ.Fr it=af->qg prog w (Γ.hold it o) k (bN S b) (nA body env)) {l:List ae} {o:bW} {K:cD->St->aB} (aw:fq A k) (N:aX Γ T s) (a:Apart Γ T it) (bV:s.heap.get? it=ab o) (h6:J l o T.aP) (h:gW n (bN S b) l T.σ λf σ=> (K f σ).holds)
  {R:nx->az->Prop} (q:nC Γ T K λf=>R (.ok f)):nz (bp prog w) A (.forLoop (.Name (nm n) l5) (.ref it) body [] env) R s:=by
 refine SR (λm s=> ∃l a4 o,Hx Γ T s it J (λl σ=>gW n (bN S b) l σ λf σ=> (K f σ).holds) m l a4 o) (λm bk c8=>c5 c8 λl bS o c8=> ?_) l.length ⟨l,T,o,rfl,.refl T,N,a,bV,h6,h⟩
 cases l with
 |nil=>exact I.stop A _ o bS.aP bk _ aw.2.2 c8.N.aY.bE c8.bV c8.J λh' dR aS=>t8 (q.aQ _ _ c8.x (c8.N.step c8.a aS) c8.h)
 |cons v l=>
  refine I.next A _ v l o bS.aP bk _ aw.2.2 c8.N.aY.bE c8.bV c8.J λh' dR x ef aH aS yP u3=> ?_
  refine qb (pU (K:=λσ=>bN S b σ (cp (qX (λσ=>gW n (bN S b) l σ λf σ=> (K f σ).holds) λf σ=> (K f σ).holds))) (Γ:=Γ.hold it ef) (Ev.hold c8.a.fr) aA ((c8.N.step (t:=dR) c8.a aS).hold c8.a yP) (aH _ _) (by rw[v0];exact c8.h) λi1 fU eW dU h=>
   cV ef c8.a.fr aw dU h λkY g f iR g6 fM hf h=> ?_)
  have gQ:=fM.loose c8.a.fr
  have be:=(c8.x.trans eW).trans g6
  have on:(qX (λσ=>gW n (bN S b) l σ λf σ=> (K f σ).holds) (λf σ=> (K f σ).holds) af kY.σ)-> ∃j,j<m/\ ∃l a4 o,Hx Γ T iR it J (λl σ=>gW n (bN S b) l σ λf σ=> (K f σ).holds) j l a4 o:=λh=>
   ⟨l.length,c8.len▸nt _,l,kY,ef,rfl,be,gQ.1,gQ.2.1,gQ.2.2,I.up l ef _ _ (eW.bE.trans g6.bE) u3,h⟩
  cases g with
  |aQ=>rw[hf];exact on h
  |df=>rw[hf];exact on h
  |c0=>rw[hf];exact q.aQ _ _ be gQ.1 h
  |hF v=>exact ak hf λy e=>by rw[e.1];exact q _ (.hF v) _ _ be gQ.1 ⟨y,rfl,e.2⟩ h
end
end
section
theorem C1 {α β:Type} {g:α->β} {x:List α} {v:β} {l:List β}: ∀{i:Nat},v::l=(x.drop i).map g-> ∃c,x[i]? =ab c/\v=g c/\l=(x.drop (i+1)).map g:=by
 induction x with
 |nil=>exact λ{i} h=>by rw[AX] at h;cases h
 |cons a x ai=>exact λ{i} h=>by cases i with
  |zero=>exact⟨a,rfl,(gv h).1,(gv h).2⟩
  |succ i=>exact ai h
theorem C2 {α β:Type} {g:α->β} {x:List α} {i:Nat} (h: []=(x.drop i).map g):x[i]? =af:=by
 rw[<-Nat.add_zero i,<-RK,RO.mp h.symm];rfl
theorem UU (x:List Nat):qy x=x.map λc=> .f (.str [c]):=by
 induction x with
 |nil=>rfl
 |cons c x ai=>exact congrArg (ae.f (.str [c]):: ·) ai
theorem ZS (x:List (List Nat)):y6 x=x.map λc=> .f (.str c):=by
 induction x with
 |nil=>rfl
 |cons c x ai=>exact congrArg (ae.f (.str c):: ·) ai
variable [WP]
section
variable {prog:cP} {w:ba}
theorem Zs (it:aR) (x:List Nat) (t:Tok):Iter prog w it λl o _=> ∃i:Nat,o.cls= .type (rY (aK x))/\o.data= .fields #[.str (aK x) t,.int i 0]/\l=(x.drop i).map λc=> .f (.str [c]) where
 up:=λl o F g8 _ h=>h
 next:=λA E v l o F s Q aw _ bV h6 q=>ak h6 λi J=>ak (C1 J.2.2) λc d=>by
  have hit:s.heap.IsStrIter it (rY (aK x)) (aK x) t i:=⟨o,bV,J.1,J.2.1⟩
  have fin: ∀h',h'.IsStrIter it (rY (aK x)) (aK x) t (i+1)->Bk it s.heap h'->Q (ab (.str ⟨#[c]⟩ s.toks)) {s with heap:=h',toks:=s.toks+1}:=λh' k hs=>ak k λef k=>
   q h' _ _ ef (λax U=> (by rw[d.2.1];exact bq.str [c] _ (by show 1<=dZ;decide))) (λb y ag e=> (hs.2 b ag).trans e) k.1 ⟨i+1,k.2.1,k.2.2,d.2.2⟩
  have aH:(aK x).cps[i]? =ab c:=lC.trans d.1
  unfold rY at hit fin
  by_cases z:(aK x).cps.all (· <128)=aa
  ·rw[if_pos z] at hit fin
   exact wpAny_pyNext_ascii_item hit aH fin
  ·rw[if_neg z] at hit fin
   exact wpAny_pyNext_wide_item hit aH fin
 stop:=λA E o F s Q aw _ bV h6 q=>ak h6 λi J=>by
  have aH:(aK x).cps[i]? =af:=lC.trans (C2 J.2.2)
  have hit:s.heap.IsStrIter it (rY (aK x)) (aK x) t i:=⟨o,bV,J.1,J.2.1⟩
  unfold rY at hit
  by_cases z:(aK x).cps.all (· <128)=aa
  ·rw[if_pos z] at hit
   exact wpAny_pyNext_ascii_end aw hit aH λh' hs=>q h' s.toks hs
  ·rw[if_neg z] at hit
   exact wpAny_pyNext_wide_end aw hit aH λh' hs=>q h' s.toks hs
theorem y5 (it a:aR) (n:Nat) (vs:List ah) (fs:List aj):Iter prog w it λl o F=> ∃i:Nat,o.cls= .type "list_iterator" /\o.data= .fields #[.ref a,.int i 0]/\l=(fs.drop i).map .f/\F a=ab (lobj vs n)/\bC (bq F) fs vs where
 up:=λl o F g8 k h=>ak h λi h=> ⟨i,h.1,h.2.1,h.2.2.1,k _ _ h.2.2.2.1,h.2.2.2.2.mono λ_ _=>bq.mono k⟩
 next:=λA E v l o F s Q aw hv bV h6 q=>ak h6 λi J=>ak (C1 J.2.2.1) λc d=>ak (qo J.2.2.2.2 d.1) λx g=>
  wpAny_pyNext_list_item (l:=a) (i:=i) (items:=vs.toArray) (x:=x) ⟨o,bV,J.1,J.2.1⟩ ⟨_,hv _ _ J.2.2.2.1,rfl,_,rfl⟩ (lC.trans g.1) λh' k hs=>ak k λef k=>
   q h' s.toks x ef (λax U=> (by rw[d.2.1];exact g.2)) (λb y ag e=> (hs.2 b ag).trans e) k.1 ⟨i+1,k.2.1,k.2.2,d.2.2,J.2.2.2.1,J.2.2.2.2⟩
 stop:=λA E o F s Q aw hv bV h6 q=>ak h6 λi J=>
  wpAny_pyNext_list_end aw (l:=a) (i:=i) (items:=vs.toArray) ⟨o,bV,J.1,J.2.1⟩ ⟨_,hv _ _ J.2.2.2.1,rfl,_,rfl⟩ (lC.trans (wV.mpr (J.2.2.2.2.length▸wV.mp (C2 J.2.2.1)))) λh' hs=>q h' s.toks hs
theorem MY (it:aR):Iter prog w it λl o _=> ∃(a:Int) (m:Nat),(∀h:cu,h.get? it=ab o->IsRangeIter h it a m 1)/\l=n9 a m where
 up:=λl o F g8 _ h=>h
 next:=λA E v l o F s Q aw hv bV h6 q=>bT h6 λa m J=>by
  cases m with
  |zero=>exact absurd J.2 (HD _ _)
  |succ m=>
   have e:=gv J.2
   refine wpAny_pyNext_range_item (J.1 _ bV) (Rt.mpr (w3 m)) λh' bj hs=> ?_
   rw[show((m+1:Nat):Int) -1=m by omega] at bj
   exact q h' (s.toks+1) _ _ (λax U=> (by rw[e.1];exact bq.int a _)) (λb y ag e=> (hs.2 b ag).trans e) bj ⟨a+1,m,λh e=>e,e.2⟩
 stop:=λA E o F s Q aw hv bV h6 q=>bT h6 λa m J=>by
  cases m with
  |zero=>exact wpAny_pyNext_range_end aw (J.1 _ bV) (Int.le_refl 0) λh' hs=>q h' s.toks hs
  |succ m=>exact absurd J.2.symm (HD _ _)
theorem ZV {ks:List (List Nat)} {es:List cT} (h:gh ks es): ∀{i:Nat} {c:List Nat},ks[i]? =ab c-> ∃v,(kvs ks es)[i]? =ab (aK c,v):=by
 induction h with
 |nil=>exact λh=>a0 h
 | @cons k e ks es _ _ ai=>exact λ{i c} h=>by cases i with
  |zero=>exact⟨e.val,by rw[<-bQ h];rfl⟩
  |succ i=>exact ai h
theorem sj {h:cu} {a:aR} {ks:List (List Nat)} {es:List cT} {n:Nat} (ay:WP.P=w.params) (aE:h.get? a=ab (eB es n)) (bX:ks.Nodup) (aS:gh ks es):
  h.DictAt (strKind prog w) a (kvs ks es) n:=
 ⟨_,es.toArray,aE,⟨rfl,rfl,rfl⟩,rfl,λe he=>aS.keys ay e (wA.mpr he),Nf aS,by
  rw[sR aS]
  exact AV aK (λa b sE e=>sE (vZ e)) bX⟩
theorem Zr (ay:WP.P=w.params) (it d:aR) (ep:Nat) {es:List cT} {ks:List (List Nat)} (bX:ks.Nodup/\ ∀k∈ks,k.length<=dZ) (aS:gh ks es):Iter prog w it λl o F=> ∃i:Nat,o.cls= .type "dict_keyiterator" /\o.data= .fields #[.ref d,.int i 0,.int (kvs ks es).length 0,.int ep 0]/\l=(ks.drop i).map (λc=> .f (.str c))/\F d=ab (eB es ep) where
 up:=λl o F g8 k h=>ak h λi h=> ⟨i,h.1,h.2.1,h.2.2.1,k _ _ h.2.2.2⟩
 next:=λA E v l o F s Q aw hv bV h6 q=>ak h6 λi J=>ak (C1 J.2.2.1) λc d=>ak (ZV aS d.1) λv aW=>
  wpAny_pyNext_dict_item (kvs:=kvs ks es) (i:=i) (ep:=ep) ⟨o,bV,J.1,J.2.1⟩ (sj (prog:=prog) ay (hv _ _ J.2.2.2) bX.1 aS) aW λkey h' Yz k hs=>ak k λef k=>ak (Il Yz) λt e=>
   q h' s.toks _ ef (λax U=> (by rw[d.2.1,e];exact bq.str c t (bX.2 c (HP d.1)))) (λb y ag e=> (hs.2 b ag).trans e) k.1 ⟨i+1,k.2.1,k.2.2,d.2.2,J.2.2.2⟩
 stop:=λA E o F s Q aw hv bV h6 q=>ak h6 λi J=>
  Tc aw (kvs:=kvs ks es) (i:=i) (ep:=ep) ⟨o,bV,J.1,J.2.1⟩ (sj (prog:=prog) ay (hv _ _ J.2.2.2) bX.1 aS)
   (wV.mpr (by rw[n2 aS,<-aS.length];exact wV.mp (C2 J.2.2.1))) λh' hs=>q h' s.toks hs
end
end
section
theorem E4 {it:Expr} {env:dm} {x:ah}:zy it=aa->SV it env x=pure x:=by
 cases it with
 |Set=>exact ck
 |_=>exact λ_=>rfl
variable [WP]
section
variable {prog:cP} {w:ba} {A:c2} {E:ah->az->Prop} {s:az} {Γ:bM} {T:bG} {env:dm} {sc:cN} {S:cL} {Kf:bY} {k:Nat}
theorem Xy {n:a7} {l5:er} {body:List cy} {y:Nat} {l:List ae} {K:cD->St->aB} (ay:WP.P=w.params) (aw:fq A k) (N:aX Γ T s) (cO:T.σ.g y=ab (.dict [] l)) (h:(K .aQ T.σ).holds)
  {R:nx->az->Prop} (q:nC Γ T K λf=>R (.ok f)):bg (bp prog w) A (pyIter (.ref (T.ax (2*y)))) (λit dh=>nz (bp prog w) A (.forLoop (.Name n l5) it body [] env) R dh) E s:=by
 refine c5 (N.aY.cell y _ cO) λes m bX c=> ?_
 have D:=sj (prog:=prog) ay c.1 bX.1.1 c.2.1
 have z:(kvs [] es).length=0:=n2 c.2.1▸c.2.1.length.symm
 refine S9 bX.2 D (SR (λk s'=>s'={s with heap:=s.heap.push {cls:= .type "dict_keyiterator",data:= .fields #[.ref (T.ax (2*y)),.int 0 0,.int (kvs [] es).length 0,.int m 0]}}) (λk s' e=> ?_) 0 rfl)
 rw[e]
 exact Tc aw.2.2 (d:=T.ax (2*y)) (kvs:=kvs [] es) (i:=0) (ep:=m) ⟨_,ju _ rfl,rfl,rfl⟩ (D.push _) (wV.mpr (fh z)) λh' hs=>
  t8 (q.aQ _ _ (.refl T) ((N.push _).step (t:=s.toks) N.fresh hs) h)
variable (ay:WP.P=w.params) (Ev:dk sc env Γ S) (bb:Top Kf Γ.base S)
include ay Ev
theorem aes {n:Nat} {x:X} {b:Q7.S} (cn:bc prog w Γ k S sc env x) (cV: ∀dX:bM,dk sc env dX S->dX.base=Γ.base->et prog w dX k S sc env b):et prog w Γ k S sc env (.fr n x b):=by
 refine .of (λp hp A E s T K Q aw N h q=>BJ (cn.cX _ (d0 hp).2.2.1 aw N h λbS v av bk bi aT bl h=> ?_) (λ_=>E4 (d0 hp).2.1)) rfl
 have body: ∀it o,Γ.Fr it=af->qg prog w (Γ.hold it o) k (bN S b) (nA ((dH sc b).bZ (jr p)) env):=λit o hf=> (cV (Γ.hold it o) (Ev.hold hf) rfl).b _ (d0 hp).2.2.2
 have fin:=q.ex bi
 cases av with
 |dy _ _=>exact h.elim
 |ap y=>
  rw[bl.2]
  have h:(ct (match bS.σ.g y with
   |some (.dict [] _)=>ab []
   |_=>af) λl=> .sub (gW n (bN S b) l bS.σ) K).holds:=h
  revert h
  cases cO:bS.σ.g y with
  |none=>exact fK
  |some ao=>cases ao with
   |dict ks l=>cases ks with
    |nil=>exact λh=>Xy (k:=k) ay aw aT cO h fin
    |cons _ _=>exact fK
   |_=>exact fK
 |f v=>cases v with
  |str y=>
   refine ak (fQ bl) λt e=> ?_
   rw[e.1]
   exact wpAny_pyIter_strU (uZ (Zs _ y t) Ev (d0 hp).1 (body _) aw (aT.push _) aT.fresh (ju _ rfl) ⟨0,rfl,rfl,rfl⟩ (by rw[<-UU];exact h) fin)
  |lst fs=>
   refine c5 (bq.i bl) λa vs m f=> ?_
   rw[f.1]
   exact BN ⟨_,aT.aY.bE _ _ f.2.1,rfl,_,rfl⟩ (uZ (y5 _ a m vs fs) Ev (d0 hp).1 (body _) aw (aT.push _) aT.fresh (ju _ rfl) ⟨0,rfl,rfl,rfl,f.2.1,f.2.2.to⟩ h fin)
  |ei ks l=>
   refine c5 (bq.i bl) λa es m f=> ?_
   rw[f.1]
   exact S9 f.2.1.2 (sj (prog:=prog) ay (aT.aY.bE _ _ f.2.2.1) f.2.1.1.1 f.2.2.2.1) (uZ (Zr ay _ a m f.2.1.1 f.2.2.2.1) Ev (d0 hp).1 (body _) aw (aT.push _) aT.fresh (ju _ rfl) ⟨0,rfl,rfl,rfl,f.2.2.1⟩ (by rw[HG,<-ZS];exact h) fin)
  |_=>exact h.elim
end
end
section
theorem OT {sc:cN} {ns:List Nat}: ∀{l:List Expr},vG sc ns (iq ns l)=aa-> ∀n∈ns,fG sc (nm n)=aa:=by
 induction ns with
 |nil=>exact λ_ n h=>absurd h eG
 |cons m ns ai=>
  intro l h n ar
  have h:=cU (a:=E1 m (nm m)) h
  cases ar with
  |head=>exact h.2.1
  |tail _ ar=>exact ai h.2.2 n ar
theorem OU {env:dm} {ns:List Nat}: ∀{l:List Expr},(oT (iq ns l) env).findIdx? (·.1)=af/\(oT (iq ns l) env).length=ns.length:=by
 induction ns with
 |nil=>exact λ{l}=> ⟨rfl,rfl⟩
 |cons n ns ai=>exact λ{l}=> ⟨by
   show((ac,assign (.Name (nm n) (h0 l).pos) env)::oT (iq ns l.tail) env).findIdx? (·.1)=af
   rw[List.findIdx?_cons,ai.1];rfl,congrArg tU ai.2⟩
theorem afJ {env:dm} {e:Expr} {gf:List Expr} {h7:Nat} {d2:er}:OW e=aa->BI [.Tuple gf h7 d2] e env=pure af:=by
 unfold BI
 cases e with
 |Tuple=>exact ck
 |_=>exact λ_=>rfl
theorem afI {env:dm} {e:Expr} {i:a7} {q:er} {b:Expr} {c:List Expr}:BI (.Name i q::b::c) e env=pure af:=by
 unfold BI
 cases e<;>rfl
theorem ahK {K:St->aB} {ns:List Nat}: ∀{fs:List aj} {σ:St},(tC ns fs σ K).holds->ns.length=fs.length:=by
 induction ns with
 |nil=>exact λ{fs σ} h=>by cases fs with
  |nil=>rfl
  |cons _ _=>exact h.elim
 |cons n ns ai=>exact λ{fs σ} h=>by cases fs with
  |nil=>exact h.elim
  |cons f fs=>
   have h:(stK σ n (.f f) λσ=>tC ns fs σ K).holds:=h
   rw[v0] at h
   exact congrArg tU (ai h)
variable [WP]
section
variable {prog:cP} {w:ba} {A:c2} {E:ah->az->Prop} {s:az} {Γ:bM} {T:bG} {env:dm} {sc:cN} {S:cL} {Kf:bY} {k:Nat}
variable (Ev:dk sc env Γ S)
theorem aek {x:X} (cn:bc prog w Γ k S sc env x):et prog w Γ k S sc env (.sb x):=
 .of (λp hp {_ _ _ _ _ _} aw N h q=>by
  show bg _ _ (qe (.Assert _ _ _) env) _ _ _
  rw[arm_exec_Assert]
  refine bx (gH (bx (cn.kQ _ hp aw N h λbS r bk bi aT h=> ?_)))
  rw[(gq h).1]
  exact dc (q.aQ _ _ bi aT (gq h).2)) rfl
theorem aeC {b:Q7.S} (cV:et prog w Γ k S sc env b):et prog w Γ k S sc env (.try b):=
 .of (λp hp {_ _ _ _ _ _} aw N h q=>by
  show bg _ _ (qe (.Try _ _ _ _ _) env) _ _ _
  rw[arm_exec_Try]
  refine bx (gH ?_)
  unfold tryStmt
  show bg _ _ ((nA _ env).attempt>>=_) _ _ _
  refine bx (wpAny_attempt (cV.b _ hp aw N h λbS g f bk bi aT hf h=> ?_))
  have q:=q bS g f bk bi aT hf h
  cases f with
  |next=>exact t8 q
  |_=>exact dc q) rfl
include Ev
theorem Ub {v:ae} {x:ah} {K:St->aB} {Q:Unit->az->Prop} {ns:List Nat}: ∀{l:List Expr} {T:bG} {s:az},(∀n∈ns,fG sc (nm n)=aa)->aX Γ T s->T.A v x->(Aw ns v T.σ K).holds->nD Γ T K (Q ())->
  bg (bp prog w) A (assignAll x ((oT (iq ns l) env).map (·.2))) Q E s:=by
 induction ns with
 |nil=>exact λ{l T s} _ N _ h q=>dc (q _ _ (.refl T) N h)
 |cons n ns ai=>
  intro l T s loc N aH h q
  cases ns with
  |nil=>exact qb (pU (K:=K) Ev (loc n eo) N aH h q)
  |cons gM ns=>exact bx (gj (qb (pU (K:=λσ=>Aw (gM::ns) v σ K) Ev (loc n eo) N aH h λa4 s' be cR h=>ai (l:=l.tail) (λm hm=>loc m (eY _ hm)) cR (aH.ex be) h (q.ex be))))
theorem Jp {K:St->aB} {Q:Unit->az->Prop} {ns:List Nat}: ∀{l:List Expr} {fs:List aj} {vs:List ah} {T:bG} {s:az},(∀n∈ns,fG sc (nm n)=aa)->aX Γ T s->bC (bq T.aP) fs vs->(tC ns fs T.σ K).holds->nD Γ T K (Q ())->
  bg (bp prog w) A (assignInOrder ((oT (iq ns l) env).map (·.2)) vs) Q E s:=by
 induction ns with
 |nil=>
  intro l fs vs T s _ N aA h q
  cases aA with
  |nil=>exact dc (q _ _ (.refl T) N h)
  |cons _ _=>exact h.elim
 |cons n ns ai=>
  intro l fs vs T s loc N aA h q
  cases aA with
  |nil=>exact h.elim
  | @cons f x fs ws aH aA=>
   exact bx (gj (qb (pU (v:= .f f) (K:=λσ=>tC ns fs σ K) Ev (loc n eo) N aH h λa4 s' be cR h=>
    ai (l:=l.tail) (λm hm=>loc m (eY _ hm)) cR (aA.mono λ_ _=>bq.mono be.bE) h (q.ex be))))
theorem aeh {ns:List Nat} {x:X} (cn:bc prog w Γ k S sc env x):et prog w Γ k S sc env (.jB ns x):=by
 have H: ∀p,(dH sc (.jB ns x)).s p=aa->d4 1 ns.length=aa/\vG sc ns (iq ns (wu p))=aa/\(au sc x).x (b3 p)=aa:=λp hp=>cU hp
 revert H
 cases ns with
 |nil=>exact λH=> .of (λp hp=>ck (H p hp).1) rfl
 |cons n ns=>cases ns with
  |nil=>exact λH=> .of (λp hp=>ck (H p hp).1) rfl
  |cons gM ns=>
   refine λH=> .of (λp hp A E s T K Q aw N h q=> ?_) rfl
   have hp:=H p hp
   show bg _ _ (qe (.Assign (.Name (nm n) _:: .Name (nm gM) _::iq ns _) _ _) env) _ _ _
   rw[SN]
   refine bx (gH (bx (dc (tE oB (bx (cn.cX _ hp.2.2 aw N h λbS v av bk bi aT bl h=> ?_))))))
   rw[afI]
   exact bx (dc (bx (Ub (l:=wu p) Ev (OT (l:=wu p) hp.2.1) aT bl h λa4 s' be cR h=>dc (q.aQ _ _ (bi.trans be) cR h))))
theorem ael {ns:List Nat} {x:X} (cn:bc prog w Γ k S sc env x):et prog w Γ k S sc env (.ast ns x):=by
 refine .of (λp hp A E s T K Q aw N h q=> ?_) rfl
 show bg _ _ (qe (.Assign [.Tuple (iq ns (xs (ec p))) _ _] _ _) env) _ _ _
 rw[SN]
 refine bx (gH ?_)
 rw[show∀gf h7 d2,swapsWithSole [.Tuple gf h7 d2] ((au sc x).e (b3 p)) p.pos.line env=pure ac from λgf h7 d2=>show xk ((au sc x).e (b3 p)) (ab (.Tuple gf h7 d2)) p.pos.line env=pure ac from tn (d0 hp).2.1]
 refine bx (dc (tE oB (bx (cn.cX _ (d0 hp).2.2.2 aw N h λbS v av bk bi aT bl h=> ?_))))
 rw[afJ (d0 hp).2.2.1]
 refine bx (dc (ak (dp h) λfs h=> ?_))
 rw[T8 h.1] at bl
 refine bT (bq.i bl) λa vs f=> ?_
 rw[f.1]
 show bg _ _ (do assign (.Tuple (iq ns (xs (ec p))) (jq (ec p)) (ec p).pos) env (.ref a);pure Flow.next) _ _ _
 refine bx ?_
 show bg _ _ (do xj (ec p).pos;unpack (.ref a) (oT (iq ns (xs (ec p))) env)) _ _ _
 exact bx (gH (IK aw.2.2 ⟨_,aT.aY.bE _ _ f.2.1,rfl,_,rfl⟩ (by rw[OU.2,hq,ahK h.2,f.2.2.length]) OU.1 λh' hs=>
  Jp Ev (OT (d0 hp).1) (aT.step (it:=bk.heap.objs.size) (t:=bk.toks) aT.fresh hs) f.2.2.to h.2 λa4 s' be cR h=>dc (q.aQ _ _ (bi.trans be) cR h)))
end
end
section
theorem ZU {k:a7} {v:ah} {l:List (a7×ah)} (h: ∀eD∈l,eD.1≠k):l.map (λeD=>if eD.1=k then(eD.1,v) else eD)=l:=by
 induction l with
 |nil=>rfl
 |cons a l ai=>rw[p2,if_neg (h a eo),ai λeD aS=>h eD (eY _ aS)]
theorem Y8 {x:List Nat} {ks:List (List Nat)} (h:x∈ks):ik x ks=aa:=by
 induction h with
 |head=>exact(nj ..).mpr (.inl (gL.mpr rfl))
 |tail _ _ ai=>exact(nj ..).mpr (.inr ai)
theorem VN {α:Type} {x:List Nat} {v:α} {ks:List (List Nat)}: ∀{l:List α},ks.length=l.length->ik x ks=ac->fX x v ks l=(ks++ [x],l++ [v]):=by
 induction ks with
 |nil=>exact λ{l} h _=>by rw[wQ h.symm];rfl
 |cons k ks ai=>exact λ{l} h e=>by cases l with
  |nil=>cases h
  |cons a l=>
   have e:(aM k x||ik x ks)=ac:=e
   have e:=AJ.mp e
   show(match aM k x with
    |true=> (k::ks,v::l)
    |false=>match fX x v ks l with
     |r=> (k::r.1,a::r.2))=_
   rw[e.1,ai (Bc h) e.2]
   rfl
variable [WP]
theorem bC.vals {R:ae->ah->Prop} {l:List ae} {es:List cT} (h:bC (λa e=>R a (e:cT).val) l es):bC R l (es.map (·.val)):=by
 induction h with
 |nil=>exact .nil
 |cons h _ ai=>exact .cons h ai
theorem bC.QJ {R:ae->ah->Prop} {es:List cT}: ∀{l:List ae},bC R l (es.map (·.val))->bC (λa e=>R a (e:cT).val) l es:=by
 induction es with
 |nil=>exact λ{l} h=>by cases h;exact .nil
 |cons e es ai=>exact λ{l} h=>by cases h with
  |cons h t=>exact .cons h (ai t)
section
variable {prog:cP} {w:ba}
theorem ZT (ay:WP.P=w.params) {l:List cT} {eD:List (a7×ah)} (h:Pairs (strKind prog w) l eD): ∀{ks:List (List Nat)},(∀x∈l,∃k,(strKind prog w).is k x.key=aa/\x.hash=(strKind prog w).hash k)->eD.map (·.1)=ks.map aK->gh ks l/\l.map (·.val)=eD.map (·.2):=by
 induction h with
 |nil=>exact λ{ks} _ e=>by cases ks with
  |nil=>exact⟨.nil,rfl⟩
  |cons _ _=>cases e
 | @cons x p l eD pw vf t ai=>exact λ{ks} aS e=>by cases ks with
  |nil=>cases e
  |cons k ks=>
   have e:p.1=aK k/\eD.map (·.1)=ks.map aK:=gv e
   have i:=ai (ks:=ks) (λy cO=>aS y (eY _ cO)) e.2
   refine⟨.cons (ak (Il (show Bm p.1 x.key=aa from pw)) λdR ci=> ⟨⟨dR,by rw[ci,e.1]⟩,ak (aS x eo) λn1 q=> ?_⟩) i.1, ?_⟩
   ·rw[q.2,(strKind prog w).inj _ _ _ q.1 pw,ay,<-e.1];rfl
   ·rw[p2,p2,vf,i.2]
theorem acP {o:bW} {es:Array cT} {ep:Nat} (h:o.ExactDict) (d:o.data= .dict es ep):o=eB es.toList ep:=by
 cases o with|mk a b c e=>
 cases h.1
 cases h.2.1
 cases h.2.2
 cases d
 rfl
theorem O9 {h:cu} {a:aR} {eD:List (a7×ah)} {ks:List (List Nat)} (ay:WP.P=w.params) (D:h.DictOf (strKind prog w) a eD) (e:eD.map (·.1)=ks.map aK):
  ∃es n,h.get? a=ab (eB es n)/\gh ks es/\es.map (·.val)=eD.map (·.2):=by
 refine c5 D λo es ep D=> ⟨es.toList,ep, ?_,ZT ay D.2.2.2.2.1 (λx aH=>D.2.2.2.1 x (wA.mp aH)) e⟩
 rw[D.1,acP D.2.1 D.2.2.1]
theorem D2 {ks:List (List Nat)} {es:List cT} (h:gh ks es):(kvs ks es).map (·.2)=es.map (·.val):=by
 induction h with
 |nil=>rfl
 | @cons _ e _ _ _ _ ai=>exact congrArg (e.val:: ·) ai
theorem abM {x:List Nat} {ks:List (List Nat)} {es:List cT} (h:gh ks es):(kvs ks es).any (λeD=>decide (eD.1=aK x))=ik x ks:=by
 induction h with
 |nil=>rfl
 | @cons k e ks es _ _ ai=>
  show(decide (aK k=aK x) || (kvs ks es).any _)=(aM k x||ik x ks)
  rw[ai,x7]
structure Rj (R:ae->ah->Prop) (ks:List (List Nat)) (x:List Nat) (d:List (List Nat)×List ae) (eD:List (a7×ah)):Prop where
 fst:eD.map (·.1)=d.1.map aK
 snd:bC R d.2 (eD.map (·.2))
 or:d.1=ks\/(d.1=ks++ [x]/\x∉ks)
theorem VO {R:ae->ah->Prop} {x:List Nat} {av:ae} {v:ah} (aW:R av v) {ks:List (List Nat)} {es:List cT} (aS:gh ks es): ∀{l:List ae},ks.Nodup->bC (λa e=>R a (e:cT).val) l es->ik x ks=aa->
  ((kvs ks es).map (λeD=>if eD.1=aK x then(eD.1,v) else eD)).map (·.1)=(fX x av ks l).1.map aK/\bC R (fX x av ks l).2 (((kvs ks es).map (λeD=>if eD.1=aK x then(eD.1,v) else eD)).map (·.2))/\(fX x av ks l).1=ks:=by
 induction aS with
 |nil=>exact λ{l} _ _ h=>ck h
 | @cons k e ks es aS cp ai=>
  intro l bX aA h
  cases aA with
  | @cons a _ l _ aE Qm=>
   have bX:=p3.mp bX
   have i:=ai bX.2 Qm
   have h:(aM k x||ik x ks)=aa:=h
   show(((if aK k=aK x then(aK k,v) else(aK k,e.val))::(kvs ks es).map (λeD=>if eD.1=aK x then(eD.1,v) else eD)).map (·.1)=(match aM k x with
    |true=> (k::ks,av::l)
    |false=>match fX x av ks l with
     |r=> (k::r.1,a::r.2)).1.map aK)/\bC R (match aM k x with
    |true=> (k::ks,av::l)
    |false=>match fX x av ks l with
     |r=> (k::r.1,a::r.2)).2 (((if aK k=aK x then(aK k,v) else(aK k,e.val))::(kvs ks es).map (λeD=>if eD.1=aK x then(eD.1,v) else eD)).map (·.2))/\(match aM k x with
    |true=> (k::ks,av::l)
    |false=>match fX x av ks l with
     |r=> (k::r.1,a::r.2)).1=k::ks
   cases q:aM k x with
   |true=>
    have q:=gL.mp q
    rw[if_pos (congrArg aK q),ZU λeD YA z=> ?_]
    ·exact⟨congrArg (aK k:: ·) (sR cp),.cons aW (by rw[D2 cp];exact Qm.vals),rfl⟩
    ·have m:=tO (f:=(·.1)) YA
     rw[sR cp] at m
     exact ak (wX.mp m) λkb m=>bX.1 (by rw[q,<-vZ (m.2.trans z)];exact m.1)
   |false=>
    rw[q] at h
    have i:=i h
    rw[if_neg λz=>by rw[gL.mpr (vZ z)] at q;exact ck q.symm]
    exact⟨congrArg (aK k:: ·) i.1,.cons aE i.2.1,congrArg (k:: ·) i.2.2⟩
theorem VM {R:ae->ah->Prop} {x:List Nat} {av:ae} {v:ah} {ks:List (List Nat)} {es:List cT} {l:List ae} (aW:R av v) (bX:ks.Nodup) (aS:gh ks es) (aA:bC (λa e=>R a (e:cT).val) l es):
  Rj R ks x (fX x av ks l) (stored (kvs ks es) (aK x) v):=by
 unfold stored
 rw[abM aS]
 cases q:ik x ks with
 |true=>exact have d:=VO aW aS bX aA q;⟨d.1,d.2.1,.inl d.2.2⟩
 |false=>
  rw[VN (aS.length.trans aA.length.symm) q]
  refine⟨?_, ?_,.inr ⟨rfl,λm=>by rw[Y8 m] at q;exact ck q.symm⟩⟩
  ·show((kvs ks es)++ [(aK x,v)]).map (·.1)=(ks++ [x]).map aK
   rw[lD,sR aS,lD];rfl
  ·show bC R (l++ [av]) (((kvs ks es)++ [(aK x,v)]).map (·.2))
   rw[lD,D2 aS]
   exact aA.vals.cF (.cons aW .nil)
end
end
section
variable [WP]
section
variable {prog:cP} {w:ba} {A:c2} {E:ah->az->Prop} {s:az} {Γ:bM} {T:bG} {env:dm} {sc:cN} {S:cL} {Kf:bY} {k:Nat}
theorem aeg {o i x:X} (ay:WP.P=w.params) (dM:bc prog w Γ k S sc env o) (fS:bc prog w Γ k S sc env i) (cn:bc prog w Γ k S sc env x):et prog w Γ k S sc env (.qp o i x):=by
 refine .of (λp hp A E s T K Q aw N h q=>wpAny_Assign_Subscript (cn.cX _ (fk hp).2.2.2.2 aw N h λbS v av bk bi aT bl h=>dM.cX _ (fk hp).2.2.1 aw aT h λfj d ad dh cC bR dF h=>fS.cX _ (fk hp).2.2.2.1 aw bR h λi1 h7 eh fU eW dU mG h=> ?_) (tn (fk hp).2.1)) rfl
 refine ak (dp h) λe h=>ak (dp h.2) λc h'=> ?_
 have g:=gq h'.2
 have cg:=g.2.2
 rw[mE h'.1] at mG
 refine ak (fQ mG) λt ij=>ak (uN dU (dF.ex eW) h.1) λy cl=>c5 cl.2.2.2 λes n bX hb=> ?_
 rw[ij.1,cl.2.2.1]
 rw[cl.1,Fn] at cg
 have aW:=bl.ex (cC.trans eW)
 have D:=pa (prog:=prog) ay hb.1 bX.1.1 hb.2.1
 have ZY:(kvs e.1 es).length<=dZ:=by rw[n2 hb.2.1,<-hb.2.2.length,gi];exact pT g.2.1
 refine wpAny_setItem_pairs (isStrOf_self (aK c) t) D (λh' fe hs=> ?_) ZY
 have d:=VM (R:=λa v=>i1.A a v/\glob a=aa) (x:=c) (av:=av) (v:=v) ⟨aW,g.1⟩ bX.1.1 hb.2.1 hb.2.2
 refine bT (O9 ay fe d.fst) λlP fy hE=> ?_
 have sn:=d.snd
 rw[<-hE.2.2] at sn
 have fM:=dU.Qs (t:=fU.toks+1) cl.2.1 (a:=i1.ax (2*y)) (.head _) hs (bo:= .dict (fX c av e.1 e.2).1 (fX c av e.1 e.2).2) rfl ⟨lP,fy,⟨d.or.elim (λz=>by rw[z];exact bX.1) λz=>by
  rw[z.1]
  exact⟨A5.mpr ⟨bX.1.1,aiv (λ_ h=>absurd h eG) .nil,λa aE b ag q=>z.2 (by rw[<-jU.mp ag,<-q];exact aE)⟩,λa aE=> (A4.mp aE).elim (bX.1.2 a) λaE=>by rw[jU.mp aE];exact ij.2⟩,bX.2⟩,hE.1,hE.2.1,sn.QJ⟩
 exact q.aQ _ _ (((bi.trans cC).trans eW).trans fM.2) fM.1 cg
end
end
section
theorem Pr (i:Int):aix 0 i 1=(i.toNat:Int):=by rw[rangeSize_one];split<;>omega
variable [WP]
section
variable {prog:cP} {w:ba} {A:c2} {E:ah->az->Prop} {s:az} {Γ:bM} {T:bG} {env:dm} {sc:cN} {S:cL} {Kf:bY} {k:Nat}
theorem aev {n:Nat} {x:X} {b:Q7.S} (ay:WP.P=w.params) (Ev:dk sc env Γ S) (bb:Top Kf Γ.base S) (cn:bc prog w Γ k S sc env x) (cV: ∀dX:bM,dk sc env dX S->dX.base=Γ.base->et prog w dX k S sc env b):et prog w Γ k S sc env (.qI n x b):=by
 refine .of (λp hp A E s T K Q aw N h q=>BJ (qt ay Ev bb (f:= .type "range") (.tail _ (.tail _ (.tail _ (.tail _ (.tail _ (.tail _ (.tail _ (.head _)))))))) rfl (i3 (i3 (fk hp).2.1 (fk hp).2.2.1) (fk hp).2.2.2.1) cn aw N h λbS v av bk bi aT bl h=> ?_) (λx=>rfl)) rfl
 refine ak (dp h) λi h=> ?_
 rw[o3 h.1] at bl
 refine ak (gJ bl) λt e=> ?_
 rw[e]
 refine call_range_1 (Tb (Sy ..) (small_one (by decide) (by decide) (by have:=h.2.1;omega) (by have:=h.2.1;omega)) ?_)
 rw[Pr]
 have bR:=(aT.push {cls:= .type "range",data:= .fields #[.int 0 bk.toks,.int i t,.int 1 (bk.toks+1)]}).toks (bk.toks+1+1)
 exact uZ (MY _) Ev (fk hp).1 (λo hf=> (cV (Γ.hold _ o) (Ev.hold hf) rfl).b _ (fk hp).2.2.2.2) aw (bR.push _) bR.fresh (ju _ rfl) ⟨0,i.toNat,λh e=>e,rfl⟩ h.2.2 (q.ex bi)
end
end
section
theorem CX: ∀n:Nat,n<100->cE (qk (n:Int))=aK (dv n):=by decide+kernel
theorem CW (n:Nat):(dv n).length<=2:=by unfold dv;cases d4 n 10 with
 |true=>exact kx 1
 |false=>exact fi 2
theorem agV: ∀a<10,IA (aK [48+a])=ab (c1 a):=by decide+kernel
theorem text2: ∀a<10,∀b<10,IA (aK [48+a,48+b])=ab (c1 (10*a+b)):=by decide+kernel
theorem uO {c y:Nat} (e:mN c=ab y):y<10/\c=48+y:=by
 unfold mN at e
 revert e
 cases q:gF 48 c&&gF c 57 with
 |false=>exact λe=>a0 e
 |true=>
  intro e
  have l:=cS (fV.mp q).1
  have u:=cS (fV.mp q).2
  rw[<-bQ e]
  exact⟨tS (R8 u 48),(Nat.add_sub_of_le l).symm⟩
theorem QH {x:List Nat} {n:Nat} (h:wl x=ab n):IA (aK x)=ab (c1 n)/\(aK x).length<=640:=by
 cases x with
 |nil=>exact a0 h
 |cons a x=>cases x with
  |nil=>
   have d:=uO (show mN a=ab n from h)
   rw[d.2]
   exact⟨agV _ d.1,cS rfl⟩
  |cons b x=>cases x with
   |cons _ _=>exact a0 h
   |nil=>
    have h:(match mN a,mN b with
     |some x,ab y=>ab (10*x+y)
     |_,_=>af)=ab n:=h
    revert h
    cases j3:mN a with
    |none=>exact λh=>a0 h
    |some p=>cases bZ:mN b with
     |none=>exact λh=>a0 h
     |some r=>
      intro h
      rw[(uO j3).2,(uO bZ).2,<-bQ h]
      exact⟨text2 _ (uO j3).1 _ (uO bZ).1,cS rfl⟩
theorem T6 {v:ae} {n:Nat} (h:Jl v=ab n):v= .f (.int (.ofNat n)):=by
 cases v with
 |f v=>cases v with
  |int i=>cases i with
   |ofNat m=>rw[<-bQ h]
   |negSucc _=>exact a0 h
  |_=>exact a0 h
 |_=>exact a0 h
variable [WP]
section
variable {prog:cP} {w:ba} {A:c2} {E:ah->az->Prop} {s:az} {Γ:bM} {T:bG} {env:dm} {sc:cN} {S:cL} {Kf:bY} {k:Nat}
theorem Lf {f:ah} {as:List Expr} {pos:er} {Q:ah->az->Prop} (aS:rX f=pure .machine) (st:(iZ pos (h2 as env)).any (·.1)=ac)
  (h:bg (bp prog w) A (spliced (iZ pos (h2 as env))) (λvs s'=>bg (bp prog w) A (iA f vs) Q E s') E s):
  bg (bp prog w) A (t5 pos f [] (iZ pos (h2 as env)) (mz pos (mA [] env))) Q E s:=
 Bq (P:=λ_=>True) (by rw[st];rfl) (λh _=> ⟨.machine,.inr (.inl rfl),.of_pure aS⟩) (De st rfl (h3 h (λvs s' q=>S7 ⟨trivial,q⟩) λ_ _ e=>e))
theorem UI {n:Nat} {v:ae} (N:aX Γ T s) (h:wH env Γ n v): ∃c o x,env.cells.lookup (nm n)=ab c/\Γ.Fr c=ab o/\o.data= .cell (ab x)/\T.A v x:=
 c5 h λc o x h=> ⟨c,o,x,h.1,h.2.1,h.2.2.1,by
  have d:=h.2.2.2
  clear h
  cases v with
  |ap i=>exact ak d λa d=> ⟨(N.pin i a d.1).1,d.2.trans (congrArg w6 (N.pin i a d.1).2.symm)⟩
  |f v=>cases v with
   |bool b=>exact(show bq T.aP (.bool b) x from d▸ .bool b)
   |_=>exact d.elim
  |dy _ _=>exact d.elim⟩
variable (ay:WP.P=w.params) (Ev:dk sc env Γ S) (bb:Top Kf Γ.base S)
include ay Ev
theorem afQ (n:Nat):bc prog w Γ k S sc env (.clo n):=
 .val ay rfl (λp hp {_ _ _ T _ _} aw N h q=>t7 (ak (dp h) λv h=>c5 (UI N (Ev.clo n v h.1)) λc o x e=>
  wpAny_loadName_cell (c:=c) (v:=x) Ev.fn (Ev.is (b2 hp).2) e.1 ⟨o,(N.aY.fr c o e.2.1).1,e.2.2.1⟩ (q.of N e.2.2.2 h.2)) (jg (b2 hp).1)) (λ_ _=>rfl) rfl rfl
include bb
theorem af4 {a:X} (br:bc prog w Γ k S sc env a):bc prog w Γ k S sc env (.vk a):=by
 refine .val ay rfl (λp hp A E s T K Q aw N h q=>xm (vx (v:= .builtin "isinstance") bb Ev (.tail _ (.head _)) (d0 hp).1 N ?_)) (λ_ _=>rfl) rfl rfl
 have hs:h2 [(au sc a).e (h0 (xs p)),E0 "str" (aq (xs p))] env= [(ac,dz ((au sc a).e (h0 (xs p))) env),(ac,dz (.Name (cE "str") (aq (xs p)).pos) env)]:=by
  rw[v3 (d0 hp).2.2.1];rfl
 refine Lf rfl (by rw[hs];rfl) ?_
 rw[hs]
 refine Bi (br.cX _ (d0 hp).2.2.2 aw N h λbS v av bk bi aT bl h=>Bi (vx (v:= .type "str") bb Ev (.tail _ (.tail _ (.head _))) (d0 hp).2.1 aT (H5 (ak (dp h) λy h=> ?_))))
 rw[mE h.1] at bl
 refine ak (fQ bl) λt e=> ?_
 rw[e.1]
 exact aiw (Tx:= "str") (xl _ _ _) (by kernel_rfl) F.sub_str_str ((q.ex bi).fr aT (.bool aa) h.2)
theorem agi {a b:X} (br:bc prog w Γ k S sc env a) (cV:bc prog w Γ k S sc env b):bc prog w Γ k S sc env (.mY a b):=
 .val ay rfl (λp hp {_ _ _ _ K _} aw N h q=>KY (K:=λv u σ=>ct (ha v) λi=>ct (ha u) λj=>K (.f (.int (ET i j))) σ) ay Ev bb (f:= .builtin "max") (.tail _ (.tail _ (.tail _ (.tail _ (.head _))))) rfl hp br cV aw N h λbS v u av bv bk bi aT a b h=>
  ak (dp h) λi h=>ak (dp h.2) λj h'=>by
   rw[o3 h.1] at a
   rw[o3 h'.1] at b
   refine ak (gJ a) λt e=>ak (gJ b) λdR cM=> ?_
   rw[e,cM]
   refine max_two_ints aw.2.2 λaC cp aS=> ?_
   have bR:aX Γ bS {bk with heap:=aC,toks:=cp}:=aT.grow aS rfl rfl
   have z:=h'.2
   unfold ET at z
   by_cases g:j>i
   ·rw[decide_eq_true g] at z
    rw[if_pos g]
    exact(q.ex bi).fr bR (.int _ _) z
   ·rw[decide_eq_false g] at z
    rw[if_neg g]
    exact(q.ex bi).fr bR (.int _ _) z) (λ_ _=>rfl) rfl rfl
theorem ags {a:X} (br:bc prog w Γ k S sc env a):bc prog w Γ k S sc env (.rm a):=
 .val ay rfl (λp hp {_ _ _ _ _ _} aw N h q=>qt ay Ev bb (f:= .type "str") (.tail _ (.tail _ (.head _))) rfl hp br aw N h λbS v av bk bi aT bl h=>ak (dp h) λn h=>by
  rw[T6 h.1] at bl
  refine ak (gJ bl) λt e=> ?_
  rw[e]
  have ar:n<100:=h.2.1
  refine P.str_of_int (show Nat.log2 n<1920 from wZ (R3 n) (Bb ar (cS rfl))) ?_
  rw[show cE (qk (c1 n))=aK (dv n) from CX n ar]
  exact(q.ex bi).fr (aT.toks _) (.str _ _ (bf (CW n) (by rw[gi];exact cS rfl))) h.2.2) (λ_ _=>rfl) rfl rfl
theorem af2 {a:X} (br:bc prog w Γ k S sc env a):bc prog w Γ k S sc env (.sP a):=
 .val ay rfl (λp hp {_ _ _ _ _ _} aw N h q=>qt ay Ev bb (f:= .type "int") (.tail _ (.tail _ (.tail _ (.head _)))) rfl hp br aw N h λbS v av bk bi aT bl h=>ak (dp h) λx h=>ak h.2 λn z=>by
  rw[mE h.1] at bl
  refine ak (fQ bl) λt e=> ?_
  rw[e.1]
  exact KIN.call_text (QH z.1).1 (QH z.1).2 ((q.ex bi).fr (aT.toks _) (.int _ _) z.2)) (λ_ _=>rfl) rfl rfl
end
end
section
theorem abe {α:Type} (n:Nat) (l:List (Nat×α)) (x:Nat):aL x (dl n l)=if x=n then af else aL x l:=by
 induction l with
 |nil=>
  by_cases h:x=n
  ·rw[if_pos h];rfl
  ·rw[if_neg h];rfl
 |cons p r ai=>
  show aL x (match bA p.1 n with
   |true=>dl n r
   |false=>p::dl n r)=if x=n then af else(match bA p.1 x with
   |true=>ab p.2
   |false=>aL x r)
  cases q:bA p.1 n with
  |true=>
   refine ai.trans ?_
   by_cases h:x=n
   ·rw[if_pos h,if_pos h]
   ·rw[if_neg h,if_neg h]
    cases e9:bA p.1 x with
    |true=>exact absurd ((fg e9).symm.trans (fg q)) h
    |false=>rfl
  |false=>
   show(match bA p.1 x with
    |true=>ab p.2
    |false=>aL x (dl n r))=_
   cases e9:bA p.1 x with
   |true=>exact(if_neg λe=>w1 q ((fg e9).trans e)).symm
   |false=>exact ai
theorem Ly {σ:St} {y:Nat} (cO:100<=y) (x:Nat):(σ.del y).g x=if x=y then af else σ.g x:=by
 unfold St.del St.g
 cases q:d4 x 100 with
 |true=>exact(if_neg λe:x=y=>mu.mpr cO (by rw[<-e];exact cS q)).symm
 |false=>exact abe y σ.lh x
variable [WP]
section
variable {prog:cP} {w:ba} {A:c2} {E:ah->az->Prop} {s:az} {Γ:bM} {T:bG} {env:dm} {sc:cN} {S:cL} {Kf:bY} {k:Nat}
theorem aX.freeze (N:aX Γ T s) {y:Nat} {l:List ae} (cO:100<=y) (cI:T.σ.g y=ab (.list l)) {vs:List ah} {n:Nat} (bV:s.heap.get? (T.ax (2*y))=ab (lobj vs n)):
  aX Γ ⟨T.aP.ins (T.ax (2*y)) (lobj vs n),T.ax,T.σ.del y⟩ s/\T.dS ⟨T.aP.ins (T.ax (2*y)) (lobj vs n),T.ax,T.σ.del y⟩:=by
 have ca:=N.aY.ca y _ cI (T.ax (2*y)) (.head _)
 have old: ∀x cB,(T.σ.del y).g x=ab cB->T.σ.g x=ab cB/\x≠y:=λx cB e=>by
  rw[Ly cO] at e
  by_cases q:x=y
  ·rw[if_pos q] at e;exact a0 e
  ·rw[if_neg q] at e;exact⟨e,q⟩
 have dN: ∀x,T.U x->dO (T.σ.del y).g (T.σ.del y).lu x:=λx h=>h.elim (λh=> .inl ⟨by rw[Ly cO,if_neg λe:x=y=>mu.mpr cO (by rw[<-e];exact h.2)];exact h.1,h.2⟩) .inr
 have LP:T.dS ⟨T.aP,T.ax,T.σ.del y⟩:=⟨dT.refl _,dN,λ_ _=>rfl⟩
 have aT:aX Γ ⟨T.aP,T.ax,T.σ.del y⟩ s:=
  ⟨⟨N.aY.bE,N.aY.fr,λx cB e=>iw (dT.refl _) dN (λ_ _=>rfl) (λ_ _=>rfl) rfl rfl (N.aY.cell x cB (old x cB e).1),λx cB e=>N.aY.ca x cB (old x cB e).1,λx z cB qC e1 e2=>N.aY.gm x z cB qC (old x cB e1).1 (old z qC e2).1⟩,
   ⟨ak N.lo.ns λm h=> ⟨m,h.1,λn av e=>ak (h.2 n av e) λv a=> ⟨v,a.1,a.2.ex LP⟩⟩,N.lo.free,λx cB e=>N.lo.b0 x cB (old x cB e).1,N.lo.lu⟩,N.base,N.gens,N.os,λx a e=> ⟨dN x (N.pin x a e).1,(N.pin x a e).2⟩⟩
 have bR:=aT.fast (a:=T.ax (2*y)) bV ca.1 ca.2 (λq=>N.lo.b0 y _ cI (by rw[<-q];exact .head _)) λx cB e ag=>N.aY.gm x y cB _ (old x cB e).1 cI (old x cB e).2 _ ag (.head _)
 exact⟨bR.1,LP.trans bR.2⟩
variable (ay:WP.P=w.params) (Ev:dk sc env Γ S) (bb:Top Kf Γ.base S)
include ay
theorem afZ {a:X} (br:bc prog w Γ k S sc env a):bc prog w Γ k S sc env (.pf a):=
 .val ay rfl (λp hp {_ _ _ _ _ _} aw N h q=>br.cX _ (b2 hp).2 aw N h λbS v av bk bi aT bl h=>ak (dp h) λl h=>ak h.2 λfs h'=>ak (Es aT bl h.1) λy c=>bT c.2.2.2.2 λvs n d=>by
  have g:=gq h'.2
  rw[c.1] at g
  rw[c.2.2.2.1]
  have bR:=aT.freeze (cS g.1) c.2.2.1 d.1
  exact(q.ex (bi.trans bR.2)).fr bR.1 (.lst (bh.gb _ _ _) (nd (R:=bq _) d.2 (λv x h=>bq.mono bR.2.bE h.1) h'.1).lR) g.2) (λp hp=> (b2 hp).1) rfl rfl
end
end
section
theorem Ua {ks:List (List Nat)}:r9 ks=aa->ks.Pairwise (· < ·):=by
 induction ks with
 |nil=>exact λ_=> .nil
 |cons a r ai=>cases r with
  |nil=>exact λ_=> .cons (λx h=>absurd h eG) .nil
  |cons b r=>
   intro h
   have h:ek a b=aa/\r9 (b::r)=aa:=fV.mp h
   have i:=ai h.2
   have qn:a<b:=by rw[Em] at h;exact of_decide_eq_true h.1
   refine .cons (λx aH=> ?_) i
   cases aH with
   |head=>exact qn
   |tail _ aH=>exact List.lt_trans qn ((RR.mp i).1 x aH)
theorem adX {l:List a7}: ∀{p:a7},risingS p l=aa->(p::l).Pairwise λa b=>a.cps.toList<=b.cps.toList:=by
 induction l with
 |nil=>exact λ_=> .cons (λx h=>absurd h eG) .nil
 |cons x r ai=>
  intro p h
  have h:(!Spec.ltCps x.cps.toList p.cps.toList)=aa/\risingS x r=aa:=fV.mp h
  have i:=ai h.2
  have l5:p.cps.toList<=x.cps.toList:=by
   have aq:=jg h.1
   rw[ltCps_eq] at aq
   exact Std.not_lt.mp (of_decide_eq_false aq)
  refine .cons (λy cO=> ?_) i
  cases cO with
  |head=>exact l5
  |tail _ cO=>exact List.le_trans l5 ((RR.mp i).1 y cO)
theorem agw {l:List a7} (h:sortedS l=aa):l.Pairwise λa b=>a.cps.toList<=b.cps.toList:=by
 cases l with
 |nil=>exact .nil
 |cons p l=>exact adX h
theorem agx {ks:List (List Nat)} {ss:List a7} (aE:r9 ks=aa) (hp:ss.Perm (ks.map aK)) (hs:sortedS ss=aa):ss=ks.map aK:=
 hp.eq_of_pairwise (λa b _ _ x y=>by
  have e:a.cps.toList=b.cps.toList:=Std.le_antisymm x y
  cases a;cases b
  exact congrArg rR (wB.mp e)) (agw hs) (AV aK (λa b h=>Std.le_of_lt h) (Ua aE))
theorem ON {n:aR} (h:2<n):(n==lI)=ac:=beq_eq_false_iff_ne.mpr λq=>absurd h (by rw[q];decide)
variable [WP]
theorem agC {F:bh} {ks:List (List Nat)}: ∀{vs:List ah},Bf vs (ks.map aK)->(∀k∈ks,k.length<=dZ)->ew F (ks.map .str) vs:=by
 induction ks with
 |nil=>exact λ{vs} h _=>by cases h;exact .nil
 |cons k ks ai=>exact λ{vs} h cG=>by cases h with
  |cons x t h=>exact .cons (.str k t (cG k eo)) (ai h λk aS=>cG k (eY _ aS))
section
variable {prog:cP} {w:ba} {A:c2} {E:ah->az->Prop} {s:az} {Γ:bM} {T:bG} {env:dm} {sc:cN} {S:cL} {Kf:bY} {k:Nat}
theorem Lg {id:String} {self:ah} {pos:er} {Q:ah->az->Prop} (aS:rX (.builtin id)=pure .machine) (h:bg (bp prog w) A (iA (.builtin id) [self]) Q E s):
  bg (bp prog w) A (t5 pos (.builtin id) [self] [] []) Q E s:=
 Bq (P:=λ_=>True) rfl (λh _=> ⟨.machine,.inr (.inl rfl),.of_pure aS⟩) (_root_.PySem.evalArgs_none ⟨trivial,h⟩)
variable (ay:WP.P=w.params) (Ev:dk sc env Γ S) (bb:Top Kf Γ.base S)
include ay
theorem Ls {a:aR} {ks:List (List Nat)} {es:List cT} {n:Nat} {pos:er} {Q:ah->az->Prop} (bX:(ks.Nodup/\ ∀k∈ks,k.length<=dZ)/\(a==lI)=ac) (aE:s.heap.get? a=ab (eB es n)) (aS:gh ks es) (aA:es.length<=dZ)
  (h: ∀h' lP fy,(∀b o,s.heap.get? b=ab o->h'.get? b=ab o)->h'.get? s.heap.objs.size=ab (eB lP fy)->gh ks lP->lP.map (·.val)=es.map (·.val)->Q (.ref s.heap.objs.size) {s with heap:=h'}):
  Ie prog w A (cE "copy") pos (.ref a) [] Q E s:=
 ⟨"dict","dict.copy",Sj,Sk,F.type_dict_copy,⟨_,aE,rfl⟩,noDict aE rfl,Lg rfl
  (BA Sk ⟨_,aE,rfl⟩ F.entry_dict_copy (F.args_dict_copy_1 _) (meets_dict_copy (strKind prog w) a bX.2) ⟨_,pa (prog:=prog) ay aE bX.1.1 aS,by rw[n2 aS];exact aA,λh' fe _ keep=>
   bT (O9 ay fe (sR aS)) λlP fy q=>h h' lP fy keep q.1 q.2.1 (q.2.2.trans (D2 aS))⟩)⟩
include bb
theorem afU {x:Nat} {o:X} (dM:bc prog w Γ k S sc env o):bc prog w Γ k S sc env (.uK x o):=
 .val ay rfl (λp hp {_ _ _ _ _ _} aw N h q=>zm (b2 hp).1 (dM.cX _ (b2 hp).2 aw N h λbS v av bk bi aT bl h=>ak (dp h) λd h=>ak h.2 λy h'=>by
  rw[Jk h.1] at bl
  refine c5 (bq.i bl) λa es n f=> ?_
  rw[f.1]
  have len:=f.2.2.2.2.length
  rw[ed] at len
  refine Ls ay f.2.1 (aT.aY.bE _ _ f.2.2.1) f.2.2.2.1 (by rw[<-len,gi];exact pT h'.2.1) λaC lP fy keep g1 i9 v1=> ?_
  have bR:aX Γ bS {bk with heap:=aC}:=aT.grow keep rfl rfl
  exact bR.adopt (zt h'.1) (a:=bk.heap.objs.size) (ao:= .dict d.1 (d.2.map .f)) aT.fresh (λ_=>rfl) (λax U dN og ey=> ⟨lP,fy,⟨f.2.1.1,by rw[ey];exact ON (aT.Cx bb)⟩,by rw[ey];exact g1,i9,bC.QJ (R:=λa v=>d9 bS.aP ax U a v/\glob a=aa) (by
    rw[v1]
    exact f.2.2.2.2.to.EL λa v h=> ⟨h,rfl⟩)⟩) λa4 e cR be i2 _=>q a4 _ (.ap y) _ (bi.trans be) cR i2 (by rw[e];exact h'.2.2))) (λ_ _=>rfl) rfl rfl
theorem afT {o:X} (dM:bc prog w Γ k S sc env o):bc prog w Γ k S sc env (.uJ o):=
 .val ay rfl (λp hp {_ _ _ _ _ _} aw N h q=>zm (b2 hp).1 (dM.cX _ (b2 hp).2 aw N h λbS v av bk bi aT bl h=>ak (dp h) λd h=>ak h.2 λfs h'=>ak (uN aT bl h.1) λy c=>c5 c.2.2.2 λes n bX f6=>by
  rw[c.2.2.1]
  refine Ls ay bX f6.1 f6.2.1 (by rw[<-f6.2.2.length,gi];exact pT h'.2.1) λaC lP fy keep g2 i9 v1=> ?_
  have bR:aX Γ bS {bk with heap:=aC}:=aT.grow keep rfl rfl
  have b0:=aT.fresh
  have dU:=bR.fast g2 b0.bE b0.fr b0.L b0.cell
  refine(q.ex (bi.trans dU.2)).fr dU.1 (.ei (n:=fy) (es:=lP) ⟨bX.1,ON (aT.Cx bb)⟩ (bh.gb _ _ _) i9 ?_) h'.2.2
  rw[v1]
  exact(nd (R:=bq _) (bC.vals (R:=λa v=>d9 bS.aP bS.ax bS.U a v/\glob a=aa) f6.2.2) (λv x h=>bq.mono dU.2.bE h.1) h'.1).lR)) (λ_ _=>rfl) rfl rfl
end
end
section
variable [WP]
theorem agB {prog:cP} {w:ba} {ks:List (List Nat)} {es:List cT} (aS:gh ks es): ∀{vs:List ah},vs.length=(kvs ks es).length->
  (∀(j:Nat) (v:ah),vs[j]? =ab v-> ∃k x,(kvs ks es)[j]? =ab (k,x)/\(BG prog w).is k v=aa)->Bf vs (ks.map aK):=by
 induction aS with
 |nil=>exact λ{vs} h _=>by cases vs with
  |nil=>exact .nil
  |cons _ _=>cases h
 | @cons k e ks es _ _ ai=>exact λ{vs} aA h=>by cases vs with
  |nil=>cases aA
  |cons v vs=>
   refine bT (h 0 v rfl) λkb x i=> ?_
   have e1:(aK k,e.val)=(kb,x):=bQ i.1
   have e2:Bm (aK k) v=aa:=by rw[(tX e1).1];exact i.2
   refine ak (Il e2) λu q=> ?_
   rw[q]
   exact .cons _ _ (ai (Bc aA) λj v aW=>h (j+1) v aW)
section
variable {prog:cP} {w:ba} {A:c2} {E:ah->az->Prop} {s:az} {Γ:bM} {T:bG} {env:dm} {sc:cN} {S:cL} {Kf:bY} {k:Nat}
variable (ay:WP.P=w.params) (Ev:dk sc env Γ S) (bb:Top Kf Γ.base S)
include ay
theorem agy {a v:aR} {ks:List (List Nat)} {es:List cT} {n:Nat} {Q:ah->az->Prop} (aw:A.handled=af) (aW:KdlKeysView s.heap v a) (bX:(ks.Nodup/\ ∀k∈ks,k.length<=dZ)/\(a==lI)=ac)
  (aE:s.heap.get? a=ab (eB es n)) (aS:gh ks es) (us:r9 ks=aa) (X4:ks.length<=60)
  (h: ∀b h' cp vs m,(∀b o,s.heap.get? b=ab o->h'.get? b=ab o)->h'.get? b=ab (lobj vs m)->(∀o,s.heap.get? b≠ab o)->Bf vs (ks.map aK)->Q (.ref b) {s with heap:=h',toks:=cp}):
  bg (bp prog w) A (iA (.builtin "sorted") [.ref v]) Q E s:=by
 have D:=sj (prog:=prog) ay aE bX.1.1 aS
 have dx:(kvs ks es).length=ks.length:=(n2 aS).trans aS.length.symm
 have nl:(kvs ks es).length<=dZ:=by rw[gi,dx];exact bf X4 (cS rfl)
 refine call_function_entry kind_sorted plain_sorted entry_sorted (args_sorted1 _) ?_
 unfold Builtin.«sorted»
 refine bx (m:=checkCount "sorted" 1 1 _) (dc ?_)
 refine bx (kdu_collect (A:=A.in1) (kdl_keys (knd:=BG prog w) (kvs:=kvs ks es) (ep:=n)) aw ⟨aW,D⟩ nl λfF cp acc i9 yH=> ?_)
 have al:acc.toList.length=(kvs ks es).length:=yH.1
 have BU:Bf acc.toList (ks.map aK):=agB (prog:=prog) (w:=w) aS al λj v e=>yH.2 j v (by rw[<-Array.getElem?_toList];exact e)
 refine bx (wpAny_newList ?_ (by rw[al];exact nl))
 have DI:(fF.push (seqObj "list" acc.toList.toArray 0)).get? fF.objs.size=ab (seqObj "list" acc.toList.toArray 0):=ju _ rfl
 refine bx (gj (wpAny_call_entry slot_list_sort ⟨_,DI,rfl⟩ entry_list_sort (list_sort_treeK strKind_oneLt DI BU.keysOf (λai7 ahT rest e=>keyKind_strs (by rw[<-e];exact BU)) (by rw[al,dx];omega) λQa a1 a2=> ⟨_,rfl, ?_⟩) (args_list_sort _)))
 refine ak (sorted_out_str BU a1 a2) λai1 b=> ?_
 have b1:=b.1
 rw[agx us b.2.1 b.2.2] at b1
 refine ak (sortedHeap_at (out:=(arrOf Qa).map (·.2)) DI) λe he=>dc ⟨_,rfl,h fF.objs.size _ _ ((arrOf Qa).map (·.2)).toList e (λb o q=> ?_) ?_ ?_ b1⟩
 ·have lt:=oO (i9 b o q)
  rw[sortedHeap_old (ms lt) (by rw[Sw];exact R5 lt)]
  exact tY _ (i9 b o q)
 ·exact he.trans (congrArg (λx=>ab (seqObj "list" x e)) (Array.toArray_toList).symm)
 ·exact λo q=>HW _ (oO (i9 _ _ q))
include Ev bb
theorem agr {a:X} (br:bc prog w Γ k S sc env a):bc prog w Γ k S sc env (.tk a):=by
 refine .val ay rfl (λp hp A E s T K Q aw N h q=>xm (vx (v:= .builtin "sorted") bb Ev (.tail _ (.tail _ (.tail _ (.tail _ (.tail _ (.head _)))))) (cU hp).1 N (Lf rfl rfl (Bi (zm (cU hp).2.1 (br.cX _ (cU hp).2.2 aw N h λbS v av bk bi aT bl h=>ak (dp h) λd h=> ?_)))))) (λ_ _=>rfl) rfl rfl
 rw[Jk h.1] at bl
 refine c5 (bq.i bl) λa es n f=> ?_
 have g:=b2 h.2.1
 have g1:=aT.aY.bE _ _ f.2.2.1
 rw[f.1]
 refine⟨"dict","dict.keys",Sj,Sl,F.type_dict_keys,⟨_,g1,rfl⟩,noDict g1 rfl,Lg rfl (BA Sl ⟨_,g1,rfl⟩ F.entry_dict_keys (F.args_dict_keys_1 _) (kdl_meets_keys (BG prog w) a f.2.1.2) ⟨⟨_,pa (prog:=prog) ay g1 f.2.1.1.1 f.2.2.2.1⟩,H5 ?_⟩)⟩
 have bR:=aT.push {cls:= .type "dict_keys",data:= .fields #[.ref a]}
 refine agy ay aw.2.2 (s:={bk with heap:=bk.heap.push {cls:= .type "dict_keys",data:= .fields #[.ref a]}}) ⟨_,ju _ rfl,rfl,rfl⟩ f.2.1 (bR.aY.bE _ _ f.2.2.1) f.2.2.2.1 g.1 (cS g.2) λb h' cp vs m keep lS Xa sa=> ?_
 have b0:=bR.apart Xa
 have fM:=(bR.grow (s':={bk with heap:=h',toks:=cp}) keep rfl rfl).fast lS b0.bE b0.fr b0.L b0.cell
 exact(q.ex (bi.trans fM.2)).fr fM.1 (.lst (bh.gb _ _ _) (agC sa f.2.1.1.2)) h.2.2
end
end
section
noncomputable abbrev Hv:a7:=⟨#[37,37,89,65,77,76,32,37,115]⟩
noncomputable abbrev Hw:a7:=⟨#[37,100,46,37,100]⟩
set_option maxHeartbeats 1000000 in
theorem Xh (t u:Tok): ∀z:a7,z.length<=1000000->Meets (Builtin.«str.__mod__» ⟨[.str Hv t,.str z u],[]⟩) (λ_ R s=> ∀dR k,R (.ok (.ret (.str (cE "%" ++cE "YAML " ++z) dR))) {s with toks:=k}):=by
 kpc_run_s
set_option maxHeartbeats 1000000 in
theorem Xj (t t1 jP:Tok) (b:aR) (i j:Int) (bj:0<=i) (j6:0<=j) (yN:i<10 ^ 10) (aiL:j<10 ^ 10) (aq:i.natAbs.log2<1920) (aC:j.natAbs.log2<1920):Meets (Builtin.«str.__mod__» ⟨[.str Hw t,.ref b],[]⟩)
  (λ_ R s=>IsTup s.heap b #[.int i t1,.int j jP]/\ ∀dR k,R (.ok (.ret (.str (cE (qk i)++cE "." ++cE (qk j)) dR))) {s with toks:=k}):=by
 kpt_run
theorem tl (x y:List Nat):aK x++aK y=aK (x++y):=congrArg rR (HB x y)
theorem NV {n:Nat} (h:n<100):(c1 n).natAbs.log2<1920:=wZ (R3 n) (by omega)
theorem NB (a b:List Nat):a.length<=(a++b).length:=by rw[bL];exact gG _ _
theorem ahS (i j:Nat) (bj:i<100) (j6:j<100):cE (qk (c1 i))++cE "." ++cE (qk (c1 j))=aK (dv i++(46::dv j)):=by
 rw[show cE (qk (c1 i))=aK (dv i) from CX i bj,show cE (qk (c1 j))=aK (dv j) from CX j j6,show cE "." =aK [46] by decide+kernel,tl,tl,bt]
 rfl
theorem ahP (i j:Nat):(dv i++(46::dv j)).length<=16777216:=by
 rw[bL,du]
 exact bf (fW (CW i) (iX (CW j))) (cS rfl)
variable [WP]
section
variable {prog:cP} {w:ba} {A:c2} {E:ah->az->Prop} {s:az} {Γ:bM} {T:bG} {env:dm} {sc:cN} {S:cL} {Kf:bY} {k:Nat}
theorem abR {t:Tok} {b:aR} {vs:List ah} {n:Nat} {X R:a7} {Q:ah->az->Prop} (ci:s.heap.get? b=ab (mc vs n))
  (hm:Meets (Builtin.«str.__mod__» ⟨[.str X t,.ref b],[]⟩) (λ_ Tj s=>IsTup s.heap b vs.toArray/\ ∀dR k,Tj (.ok (.ret (.str R dR))) {s with toks:=k}))
  (h: ∀dR k,Q (.str R dR) {s with toks:=k}):bg (bp prog w) A (qc .Mod (.str X t) (.ref b)) Q E s:=
 KPt.bin_left (T:= "str") (U:= "tuple") (op:= .Mod) (by decide) (xl s X t) ⟨_,ci,rfl⟩ F.fills_str_mod KPt.fills_tuple Sr
  (Iy Sr (xl s X t) F.entry_str_mod (F.args_str_mod_2 _ _) hm ⟨⟨_,ci,rfl,n,rfl⟩,λdR k=> ⟨nofun,h dR k⟩⟩)
theorem Xk {j:Nat} {cp:Tok} {v:aj} {x:ah} {K:ae->St->aB} {Q:ah->az->Prop} (N:aX Γ T s) (aH:bq T.aP v x) (h:(ct (LX j v) λr=> .dP r.1 (K (.f (.str r.2)) T.σ)).holds) (q:fv Γ T K Q):
  bg (bp prog w) A (qc .Mod (.str (Df j) cp) x) Q E s:=by
 cases j with
 |zero=>
  cases v with
  |str y=>
   refine ak (fQ aH) λu e=> ?_
   have cO:y.length<=1000:=h.1
   rw[e.1]
   refine KPc.mod_str (X':=Hv) (by decide+kernel) (show(aK y).length<=1000000 by rw[show(aK y).length=y.length from hq ..];omega) (Xh cp u) λdR k=> ?_
   rw[show cE "%" ++cE "YAML " =aK [37,89,65,77,76,32] by decide+kernel,tl]
   exact q.fr (N.toks k) (.str _ _ (by rw[gi,bL];exact bf (iW cO 6) (cS rfl))) h.2
  |_=>exact h.elim
 |succ j=>cases j with
  |zero=>exact h.elim
  |succ j=>cases j with
   |succ j=>exact h.elim
   |zero=>
    cases v with
    |tup l=>cases l with
     |nil=>exact h.elim
     |cons a l=>cases a with
      |int i=>cases i with
       |negSucc _=>exact h.elim
       |ofNat i=>cases l with
        |nil=>exact h.elim
        |cons b l=>cases b with
         |int j=>cases j with
          |negSucc _=>exact h.elim
          |ofNat j=>cases l with
           |cons _ _=>exact h.elim
           |nil=>
            refine bT (bq.i aH) λa vs f=> ?_
            have ci:=N.aY.bE _ _ f.2.1
            refine bT f.2.2.cases λb3 QY g=>bT g.2.2.cases λG5 mi g'=>ak (gJ g.2.1) λu e=>ak (gJ g'.2.1) λg4 cM=> ?_
            rw[g.1,g'.1,g'.2.2.q4,e,cM] at ci
            rw[f.1,show Df 2=Hw by decide+kernel]
            have cw:i<100/\j<100:=h.1
            refine abR ci (Xj cp u g4 a (.ofNat i) (.ofNat j) (kU i) (kU j) (by show(i:Int)<_;omega) (by show(j:Int)<_;omega) (NV cw.1) (NV cw.2)) λdR k=> ?_
            rw[ahS i j cw.1 cw.2]
            exact q.fr (N.toks k) (.str _ _ (by rw[gi];exact ahP i j)) h.2
         |_=>exact h.elim
      |_=>exact h.elim
    |_=>exact h.elim
theorem XJ {e:Expr} {pos:er} {Q:ah->az->Prop} (h:bg (bp prog w) A (dz e env) (λv bk=> ∃x t,v= .str x t/\x.length<=dZ/\ ∀dR cp,Q (.str x dR) {bk with toks:=cp}) E s):
  bg (bp prog w) A (dz (.FormattedValue e 115 af pos) env) Q E s:=by
 show bg _ A (do let v <-dz e env;xj pos;formatted pos (<-holding [v] (converted 115 v)) af) Q E s
 refine bx (h3 h (λv bk fF=>bT fF λx t fF=> ?_) λ_ _ x=>x)
 rw[fF.1]
 refine bx (gH ?_)
 show bg _ _ (do let lq <-holding [.str x t] (habitSame "fstring-hands-on-the-str" (.str x t));formatField lq Str.empty) Q E bk
 exact bx (gj (habitSame_str (λdR cp=>formatField_str (λagK jQ=>fF.2.2 agK jQ) fF.2.1) fF.2.1))
theorem Pd {n:Nat} {x:List Nat} {p pos:er} {Q:ah->az->Prop} (Ev:dk sc env Γ S) (aD:s9 sc n=aa) (N:aX Γ T s) (aW:gs n T.σ.loc=ab (.f (.str x))) (cG:x.length<=1000)
  (h: ∀dR cp,Q (.str (aK x) dR) {s with toks:=cp}):bg (bp prog w) A (dz (.FormattedValue (.Name (nm n) p) 115 af pos) env) Q E s:=
 XJ (t7 (ak N.lo.ns λm hm=>ak (hm.2 n _ aW) λv e=>BL Ev.fn (Ev.is (b2 aD).2) (by rw[Ev.loc];exact hm.1) e.1 (ak (fQ e.2) λu g=>
  ⟨aK x,u,g.1,by rw[gi,show(aK x).length=x.length from hq ..];exact bf cG (cS rfl),h⟩)) (jg (b2 aD).1))
theorem Xi {n m:Nat} {x y:List Nat} {K:ae->St->aB} {Q:ah->az->Prop} {e8 iO q9 Ff Fg acX acY:er} {i9 n1:Nat} (Ev:dk sc env Γ S) (N:aX Γ T s) (bz:s9 sc n=aa) (ee:s9 sc m=aa) (aW:gs n T.σ.loc=ab (.f (.str x))) (DL:gs m T.σ.loc=ab (.f (.str y)))
  (aH:x.length<=1000) (cO:y.length<=1000) (h:(K (.f (.str ([37,84,65,71,32]++(x++32::y)))) T.σ).holds) (q:fv Γ T K Q):
  bg (bp prog w) A (dz (.JoinedStr [.Constant (.str (cE "%TAG ")) i9 e8,.FormattedValue (.Name (nm n) iO) 115 af q9,.Constant (.str (cE " ")) n1 Ff,.FormattedValue (.Name (nm m) Fg) 115 af acX] acY) env) Q E s:=by
 have zk:([37,84,65,71,32]++x++ [32]++y).length<=dZ:=by
  rw[gi,bL,bL,bL]
  exact bf (fW (h1 (iW aH 5) 1) cO) (cS rfl)
 have pB:([37,84,65,71,32]++x++ [32]).length<=dZ:=bf (NB _ y) zk
 have e0:([37,84,65,71,32]++x).length<=dZ:=bf (NB _ [32]) pB
 have L: ∀z:List Nat,z.length<=dZ->(aK z).length<=dZ:=λz h=>by rw[show(aK z).length=z.length from hq ..];exact h
 refine JoinedStr_many (Bg (xn (show _/\_ from ?_)))
 rw[show Str.empty++cE "%TAG " =aK [37,84,65,71,32] by decide+kernel]
 refine⟨L _ (by rw[gi];exact cS rfl),Bg (Pd Ev bz (N.toks _) aW aH λt1 i9=>show _/\_ from ?_)⟩
 rw[tl]
 refine⟨L _ e0,Sf (Bg (xn (show _/\_ from ?_)))⟩
 rw[show cE " " =aK [32] by decide+kernel,tl]
 refine⟨L _ pB,Sf (Bg (Pd Ev ee ((N.toks _).toks _) DL cO λjP n1=>show _/\_ from ?_))⟩
 rw[tl]
 refine⟨L _ zk,joinParts_nil ?_ (L _ zk)⟩
 have e: [37,84,65,71,32]++x++ [32]++y= [37,84,65,71,32]++(x++32::y):=by rw[bt,bt];rfl
 exact q.fr ((((N.toks _).toks _).toks _).toks _|>.toks _) (.str _ _ zk) (by rw[e];exact h)
theorem afX {n m:Nat} (ay:WP.P=w.params) (Ev:dk sc env Γ S):bc prog w Γ k S sc env (.uY n m):=
 have K: ∀{n x} {σ:St},(gs n σ.loc).bind ig=ab x->gs n σ.loc=ab (.f (.str x)):=λh=>ak (p8.mp h) λv h=>by rw[h.1,mE h.2]
 .val ay rfl (λp hp {_ _ _ _ _ _} aw N h q=>ak (dp h) λx h=>ak (dp h.2) λy h'=>Xi Ev N (b2 hp).1 (b2 hp).2 (K h.1) (K h'.1) h'.2.1.1 h'.2.1.2 h'.2.2 q) (λ_ _=>rfl) rfl rfl
theorem afY {j:Nat} {a:X} (ay:WP.P=w.params) (br:bc prog w Γ k S sc env a):bc prog w Γ k S sc env (.fmt j a):=
 .val ay rfl (λp hp {_ _ _ _ _ _} aw N h q=>wpAny_BinOp (xn (br.cX _ hp aw (N.toks _) h λfj v2 o4 dh cC bR dF h=>ak (dp h) λv h=>by
  rw[T5 h.1] at dF
  exact Xk bR dF h.2 (q.ex cC)))) (λ_ _=>rfl) rfl rfl
end
end
section
open AutoSeq1 (wpAny_loadPart')
open MeetsSeq MeetsSeq2 MeetsSeq3 SeqRoads2 SeqAt
variable [WP]
def oE (prog:cP) (w:ba) (A:c2) (s:az) (y x:ah):Prop:= ∀(E:ah->az->Prop) (Q:Bool->az->Prop),Q aa s->bg (bp prog w) A (eqBool y x) Q E s
section
variable {prog:cP} {w:ba}
theorem LL {A:c2} {s:az} {l b:aR} (h: ∀(E:ah->az->Prop) (Q:ah->az->Prop),Q (.bool aa) s->bg (bp prog w) A (richCompare .Eq (.ref l) (.ref b)) Q E s):oE prog w A s (.ref l) (.ref b):=λE Q dC=>by
 unfold eqBool
 refine gj ?_
 refine wpAny_ite_split (λsE=> ?_) (λ_=> ?_)
 ·exact bx (wpAny_rule (dc dC))
 ·exact bx (h E _ (t9 dC))
theorem WX (l b:aR) (items gc:Array ah) (n gM:Nat) (j7:items.size=gc.size) (k:Nat):
  ∀i:Nat,items.size-i=k->MeetsIn prog w (Builtin.«list.__eq__.loop» ⟨[.ref l,.ref b,rawInt i,rawInt 2],[]⟩)
   (λA R s=>s.heap.get? l=ab {cls:= .type "list",dict:=af,data:= .seq items n,slots:= #[]}/\s.heap.get? b=ab {cls:= .type "list",dict:=af,data:= .seq gc gM,slots:= #[]}/\
    (∀j (aq:j<items.size) (aC:j<gc.size),oE prog w A.in1 s items[j] gc[j])/\
    R (.ok (.ret (.bool aa))) s):=by
 induction k with
 |zero=>
  intro i aS A R s h
  obtain ⟨hp,g,d,cp,os⟩:=s;obtain ⟨aA,ag,he,h⟩:=h
  wp_walk using nB aA,nB ag
  have DB:items[((i:Nat):Int).toNat]? =af:=Q8 (R1 aS)
  have yN:gc[((i:Nat):Int).toNat]? =af:=Q8 (j7▸R1 aS)
  rw[DB,yN]
  wp_walk using nB aA,nB ag
  show R (.ok (.ret (.bool (items.size==gc.size)))) _
  rw[j7]
  simpa using h
 |succ k ai=>
  intro i aS A R s h
  obtain ⟨hp,g,d,cp,os⟩:=s;obtain ⟨aA,ag,he,h⟩:=h
  wp_walk using nB aA,nB ag
  have kE:i<items.size:=Nat.lt_of_sub_pos (aS▸w3 k)
  have Mu:i<gc.size:=j7▸kE
  have DB:items[((i:Nat):Int).toNat]? =ab items[i]:=Q6 kE
  have yN:gc[((i:Nat):Int).toNat]? =ab gc[i]:=Q6 Mu
  have aD:((i:Int)+1)=((i+1:Nat):Int):=rfl
  rw[DB,yN]
  refine bx (he i kE Mu _ _ ?_)
  wp_walk
  rw[aD]
  exact⟨plainId_quiet plain_eq_loop _,SQ entry_eq_loop (by
   rw[Sg plain_eq_loop _]
   exact ai (i+1) (by rw[Nat.sub_add_eq,aS];rfl) A R _ ⟨aA,ag,he,h⟩)⟩
theorem WW (l b:aR) (items gc:Array ah) (n gM:Nat) (j7:items.size=gc.size):
  MeetsIn prog w (Builtin.«list.__eq__» ⟨[.ref l,.ref b],[]⟩)
   (λA R s=>s.heap.get? l=ab {cls:= .type "list",dict:=af,data:= .seq items n,slots:= #[]}/\s.heap.get? b=ab {cls:= .type "list",dict:=af,data:= .seq gc gM,slots:= #[]}/\
    (∀j (aq:j<items.size) (aC:j<gc.size),oE prog w A.in1 s items[j] gc[j])/\
    R (.ok (.ret (.bool aa))) s):=by
 intro A R s h
 obtain ⟨hp,g,d,cp,os⟩:=s;obtain ⟨aA,ag,he,h⟩:=h
 have qE:=AutoSeq1.sub_list_list
 have ps: ¬(items.size !=gc.size)=aa:=by simp[j7]
 wp_walk using nB aA,nB ag
 exact⟨plainId_quiet plain_eq_loop _,SQ entry_eq_loop (by
  rw[Sg plain_eq_loop _]
  exact WX l b items gc n gM j7 _ 0 rfl A R _ ⟨aA,ag,he,h⟩)⟩
theorem WY (l b:aR) (items gc:Array ah) (n gM:Nat) (j7:items.size=gc.size):
  MeetsIn prog w (Builtin.«tuple.__eq__» ⟨[.ref l,.ref b],[]⟩)
   (λA R s=>s.heap.get? l=ab {cls:= .type "tuple",dict:=af,data:= .seq items n,slots:= #[]}/\s.heap.get? b=ab {cls:= .type "tuple",dict:=af,data:= .seq gc gM,slots:= #[]}/\
    (∀j (aq:j<items.size) (aC:j<gc.size),oE prog w A.in1 s items[j] gc[j])/\
    R (.ok (.ret (.bool aa))) s):=
 .of_wp λA R s h=>by
  obtain ⟨hp,g,d,cp,os⟩:=s;obtain ⟨aA,ag,he,h⟩:=h
  have f2:=AutoSeq1.sub_tuple_tuple
  have Yb:(items.toList.zip gc.toList).length=items.size:=by simp[j7]
  wp_walk using nB aA,nB ag,IG _ (λrest b s'=>b.1=af/\s'=⟨hp,g,d,cp,os⟩/\ ∃i,rest=(items.toList.zip gc.toList).drop i/\
   R (.ok (.ret (.bool aa))) ⟨hp,g,d,cp,os⟩) _
  case turn=>
   rintro ⟨y,x⟩ rest b s' ⟨Dv,rfl,i,cG,eI⟩
   have kE:i< (items.toList.zip gc.toList).length:=by
    rcases R4 i (items.toList.zip gc.toList).length with h'|h'
    ·exact h'
    ·rw[HF h'] at cG;cases cG
   have aq:i<items.size:=Yb▸kE
   have aC:i<gc.size:=j7▸aq
   rw[RH kE] at cG
   injection cG with My YN
   have cO:y=items[i]:=by have:=congrArg H3 My;simpa using this
   have aH:x=gc[i]:=by have:=congrArg Prod.snd My;simpa using this
   subst cO aH
   refine bx (he i aq aC _ _ ?_)
   wp_walk
   exact⟨rfl,rfl,i+1,YN,eI⟩
  case fin=>
   rintro ⟨b1,ii⟩ s' ⟨Dv,rfl,i,cG,eI⟩
   simp only at Dv
   subst Dv
   wp_walk
   exact⟨_,rfl,by simpa [aiy,j7] using eI⟩
  case h=>
   exact⟨rfl,rfl,0,rfl,h⟩
theorem ym {A:c2} {s:az} {x y:ah} (h:Ih A s x y aa):oE prog w A s x y:=λE Q dC=>h prog w E Q dC
theorem yy {F:bh} {l:List aj} {vs:List ah} (h:bC (bq F) l vs) {j:Nat} (j6:j<vs.length): ∃v,v∈l/\l[j]? =ab v/\bq F v vs[j]:=by
 have lt:j<l.length:=h.length▸j6
 refine ak (qo h (nr lt)) λx e=> ⟨l[j],HL lt,nr lt, ?_⟩
 rw[nr j6] at e
 exact bQ e.1▸e.2
theorem LM {n:Nat} {l:List aj}:kD n l=aa-> ∀v∈l,sm n v=aa:=by
 induction l with
 |nil=>exact λ_ v h=>absurd h eG
 |cons a l ai=>
  intro g v h
  have g:sm n a=aa/\kD n l=aa:=fV.mp g
  cases h with
  |head=>exact g.1
  |tail _ h=>exact ai g.2 v h
theorem ahO {ks:List (List Nat)}: ∀{vs:List ah} {i:Nat} {k:List Nat} {v:ah},ks.Nodup->ks[i]? =ab k->vs[i]? =ab v->rZ ((ks.map aK).zip vs) (aK k)=ab v:=by
 induction ks with
 |nil=>exact λ_ h=>a0 h
 |cons a ks ai=>
  intro vs i k v bX aq aC
  have bX:=p3.mp bX
  cases vs with
  |nil=>exact a0 aC
  |cons b vs=>
   unfold rZ
   show H2 _ (HI _ ((aK a,b)::(ks.map aK).zip vs))=ab v
   rw[wR,x7]
   cases i with
   |zero=>
    rw[gL.mpr (bQ aq)]
    exact aC
   |succ i=>
    cases q:aM a k with
    |true=>exact absurd (show a∈ks by rw[gL.mp q];exact HP (i:=i) aq) bX.1
    |false=>exact ai bX.2 aq aC
theorem Yx {A:c2} {s:az} {F:bh} {bF:List (a7×ah)} {l:List aj}: ∀{ks:List (List Nat)} {as bs:List ah},Ca l=aa->bC (bq F) l as->bC (bq F) l bs->ks.length=l.length->
  (∀(i:Nat) (k:List Nat) (v:ah),ks[i]? =ab k->bs[i]? =ab v->rZ bF (aK k)=ab v)->KeqHits A s bF ((ks.map aK).zip as) aa:=by
 induction l with
 |nil=>exact λ{ks as bs} _ _ _ e _=>by rw[wQ e];exact .nil
 |cons v l ai=>
  intro ks as bs h aq aC e aW
  cases ks with
  |nil=>cases e
  |cons k ks=>cases aq with
   |cons a1 t1=>cases aC with
    |cons a2 jP=>cases v with
     |str c=>
      refine ak (fQ a1) λt e1=>ak (fQ a2) λu e2=> ?_
      have f:=Ij (A:=A) (s:=s) (aK c) t (aK c) u
      rw[beq_self_eq_true,<-e1.1,<-e2.1] at f
      exact KeqHits.hit (e:=aa) (b:=aa) (aW 0 k _ rfl rfl) f (ai (ks:=ks) h t1 jP (Bc e) λi k v a b=>aW (i+1) k v a b)
     |_=>exact ck h
theorem LO (ay:WP.P=w.params) {Z:bh} {s:az} (hv: ∀b o,Z b=ab o->s.heap.get? b=ab o) {n:Nat} {v:aj} {x y:ah} {A:c2} (h:sm n v=aa) (aq:bq Z v x) (aC:bq Z v y) (eT:A.units<9900)
  (tup: ∀l,v= .tup l->oE prog w A s x y):oE prog w A s x y:=by
 cases v with
 |none=>rw[k8 aq,k8 aC];exact ym (Ii _)
 |bool b=>rw[yo aq,yo aC];exact ym (Ii _)
 |int i=>
  refine ak (gJ aq) λt e1=>ak (gJ aC) λu e2=> ?_
  have f:=SD (A:=A) (s:=s) i t i u
  rw[beq_self_eq_true,<-e1,<-e2] at f
  exact ym f
 |str c=>
  refine ak (fQ aq) λt e1=>ak (fQ aC) λu e2=> ?_
  have f:=Ij (A:=A) (s:=s) (aK c) t (aK c) u
  rw[beq_self_eq_true,<-e1.1,<-e2.1] at f
  exact ym f
 |ei ks l=>
  refine c5 (bq.i aq) λa es m f=>c5 (bq.i aC) λb fs aU g=> ?_
  rw[f.1,g.1]
  have len:=f.2.2.2.2.length
  have Nz:=g.2.2.2.2.length
  have dx:=f.2.2.2.1.length
  rw[ed] at len Nz
  refine LL λE Q dC=>keq_eq (r:=aa) f.2.1.2 g.2.1.2 (pa (prog:=prog) ay (hv _ _ f.2.2.1) f.2.1.1.1 f.2.2.2.1) (pa (prog:=prog) ay (hv _ _ g.2.2.1) g.2.1.1.1 g.2.2.2.1) eT
   (λ_=>Yx (l:=l) (b2 h).2 f.2.2.2.2.to g.2.2.2.2.to (dx.trans len.symm) λi k v e1 e2=>ahO f.2.1.1.1 e1 e2) ?_
  rw[n2 f.2.2.2.1,n2 g.2.2.2.1,<-len,<-Nz,beq_self_eq_true]
  exact dC
 |tup l=>exact tup l rfl
 |_=>exact ck h
theorem WZ (ay:WP.P=w.params) {Z:bh} {s:az} (hv: ∀b o,Z b=ab o->s.heap.get? b=ab o) (n:Nat): ∀{v:aj} {x y:ah} {A:c2},sm n v=aa->bq Z v x->bq Z v y->A.units+n<9800->oE prog w A s x y:=by
 induction n with
 |zero=>exact λh aq aC eT=>LO ay hv h aq aC (p7 eT (cS rfl)) λl e=>by rw[e] at h;exact ck h
 |succ n ai=>
  intro v x y A h aq aC eT
  have aw:A.units<9900:=wZ (gG _ _) (p7 eT (cS rfl))
  refine LO ay hv h aq aC aw λl e=> ?_
  rw[e] at h aq aC
  refine bT (bq.i aq) λa vs f=>bT (bq.i aC) λb dN g=> ?_
  rw[f.1,g.1]
  have aE:=hv _ _ f.2.1
  have ag:=hv _ _ g.2.1
  refine LL λE Q dC=>Td (op:= .Eq) ⟨_,aE,rfl⟩ ⟨_,ag,rfl⟩ Ss (BA Ss ⟨_,aE,rfl⟩ F.entry_tuple_eq (F.args_tuple_eq_2 _ _) (WY a b vs.toArray dN.toArray 0 0 (f.2.2.length.symm.trans g.2.2.length)) ⟨aE,ag,λj vl vm=> ?_,⟨nofun,dC⟩⟩) aw
  refine ak (yy f.2.2.to (j:=j) vl) λv1 fY=>ak (yy g.2.2.to (j:=j) vm) λv2 hD=> ?_
  have jN:=hD.2.2
  rw[<-bQ (fY.2.1.symm.trans hD.2.1)] at jN
  exact ai (LM h v1 fY.1) fY.2.2 jN (by show A.units+1+n<9800;rw[p6,kV 1 n];exact eT)
end
section
variable {prog:cP} {w:ba} {A:c2} {E:ah->az->Prop} {s:az} {Γ:bM} {T:bG} {env:dm} {sc:cN} {S:cL} {Kf:bY} {k:Nat}
theorem afV {a b:X} (ay:WP.P=w.params) (br:bc prog w Γ k S sc env a) (cV:bc prog w Γ k S sc env b):bc prog w Γ k S sc env (.uT a b):=by
 refine .of (λp hp A E s T K Q aw N h q=>S4 (br.cX _ (cU hp).2.1 aw N h λbS v av bk bi aT bl h=>cV.cX _ (cU hp).2.2 aw aT h λfj v2 o4 dh cC bR dF h=>
  ak (dp h) λl h=>ak (dp h.2) λm h'=>ak h'.2 λfs aC=>c5 (mX bR (bl.ex cC) h.1) λc vs n L=>c5 (mX bR dF h'.1) λd dN fy M=> ?_) (jg (cU hp).1))
  (λp hp {_ _ _ _ _ _} aw N h q=>h.elim) rfl rfl
 have e:=aC.2.1.1.1
 have wY:=M.2
 rw[e] at wY
 have f1:=nd (R:=bq fj.aP) L.2.all (λ_ _ h=>h.1) aC.1
 have f2:=nd (R:=bq fj.aP) wY.all (λ_ _ h=>h.1) aC.1
 have eT:=aw.2.1
 rw[L.1,M.1]
 refine Td (op:= .Eq) ⟨_,L.2.at_,rfl⟩ ⟨_,wY.at_,rfl⟩ Sn (BA Sn ⟨_,L.2.at_,rfl⟩ F.entry_list_eq (F.args_list_eq_2 _ _) (WW _ _ vs.toArray dN.toArray n fy (f1.length.symm.trans f2.length)) ⟨L.2.at_,wY.at_,λj vl vm=> ?_,⟨nofun,(q.ex (bi.trans cC)).fr bR (.bool aa) aC.2.2⟩⟩) (by show A.units<9900;omega)
 refine ak (yy f1 (j:=j) vl) λv1 fY=>ak (yy f2 (j:=j) vm) λv2 hD=> ?_
 have jN:=hD.2.2
 rw[<-bQ (fY.2.1.symm.trans hD.2.1)] at jN
 exact WZ ay bR.aY.bE 3 (LM aC.2.1.2 v1 fY.1) fY.2.2 jN (by show A.units+1+3<9800;omega)
end
end
section
theorem aa3:SU (.type "list") "add" aa=pure ac:=by
 unfold SU
 show(ID (.type "list") (dunderI "add")>>=λLU=>pure (LU.isSome&& !isSeqSlot LU))=pure ac
 rw[H9.lookup]
 kernel_rfl
theorem aa4:fillsNumberSlot (.type "list") "add" =pure ac:=by kernel_rfl
theorem aa5:seqSlot? (.type "list") (dunderI "add")=pure (ab (.builtin "list.__iadd__")):=by
 unfold seqSlot?
 rw[H9.lookup]
 kernel_rfl
variable [WP]
section
variable {prog:cP} {w:ba} {A:c2} {E:ah->az->Prop} {s:az} {Γ:bM} {T:bG} {env:dm} {sc:cN} {S:cL} {Kf:bY} {k:Nat}
theorem Y3 {a b:ah} {Q:ah->az->Prop} (aE:s.TypeIs a "list") (ag:s.TypeIs b "list") (aD:bg (bp prog w) A (iA (.builtin "list.__iadd__") [a,b]) Q E s):bg (bp prog w) A (xg .Add a b) Q E s:=by
 unfold xg
 refine gj (bx (wpAny_typeOf aE (bx (wpAny_of_eq aa3 ?_))))
 show bg _ A (if ac=aa then _ else _) Q E s
 exact tE oB (bx (wpAny_binaryOp1_none (nm:= "add") aE ag aa4 (bx (wpAny_of_eq aa5 (bx (wpAny_rule aD))))))
variable (ay:WP.P=w.params) (Ev:dk sc env Γ S) (bb:Top Kf Γ.base S)
include Ev
theorem aen {n:Nat} {x:X} (cn:bc prog w Γ k S sc env x):et prog w Γ k S sc env (.se n x):=by
 refine .of (λp hp A E s T K Q aw N h q=>ak (dp h) λd h=>S2 (Ep (K:=λd σ=> (ev S x).x σ λv σ=>ct (ia σ d) λl=>ct (r8 v) λm=> .dP (cm l=aa/\cm m=aa) (putK σ (idOf d) (.list (l++m.map .f)) λσ=>stK σ n d (K .aQ))) Ev (b2 hp).1 N h.1 h.2 λbS v av bk bi aT bl h=>
  cn.cX _ (b2 hp).2 aw aT h λfj v2 o4 dh cC bR dF h=>ak (dp h) λl h=>ak (dp h.2) λm h'=>c5 (mX bR (bl.ex cC) h.1) λa vs kc L=> ?_)) rfl
 have bl:=bl.ex cC
 rw[xC h'.1] at dF
 rw[L.1] at bl⊢
 refine c5 (bq.i dF) λb ws gM f=> ?_
 rw[f.1]
 have lS:=bR.aY.bE _ _ f.2.1
 have z:=L.2.kN h'.2.1.1
 have mi:ws.length<=1000000:=by rw[<-f.2.2.length];exact pS h'.2.1.2
 have ww:vs.length+ws.length<=dZ:=bf (iW mi _) (pE z).1
 refine Y3 ⟨_,L.2.at_,rfl⟩ ⟨_,lS,rfl⟩ (Iy H9 ⟨_,L.2.at_,rfl⟩ F.entry_list_iadd (F.args_list_iadd_2 _ _) (AutoSeq1.list___iadd___list_list_0 _ vs.toArray kc b ws.toArray gM ?_ (pE z).2 (tR ww)) ⟨L.2.at_,lS,
  L.2.turn (vs':=vs++ws) (f:=λxs=>xs++ws.toArray) (HB _ _) (L.2.all.cF (f.2.2.to.EL λ_ _ h=> ⟨h,rfl⟩)) h'.2.2 λi1 fU eW dU h=>pU (K:=K .aQ) Ev (b2 hp).1 dU (bl.ex eW) h (q.aQ.ex ((bi.trans cC).trans eW))⟩)
 rw[show Sh (vs.toArray.size+ws.toArray.size)=ac from decide_eq_false (mu.mpr ww),ho]
 exact oB
include ay bb
theorem aeu {n:Nat} {x:X} {b:Q7.S} (cn:bc prog w Γ k S sc env x) (cV: ∀dX:bM,dk sc env dX S->dX.base=Γ.base->et prog w dX k S sc env b):et prog w Γ k S sc env (.u0 n x b):=by
 refine .of (λp hp A E s T K Q aw N h q=>BJ (qt ay Ev bb (f:= .type "list") (.tail _ (.tail _ (.tail _ (.tail _ (.tail _ (.tail _ (.head _))))))) rfl (i3 (i3 (fk hp).2.1 (fk hp).2.2.1) (fk hp).2.2.2.1) cn aw N h λbS v av bk bi aT bl h=> ?_) (λx=>rfl)) rfl
 refine ak (dp h) λd h=>ak (uN aT bl h.1) λy c=>c5 c.2.2.2 λes m bX f6=> ?_
 have g:=gq h.2
 rw[c.2.2.1]
 have z:(kvs d.1 es).length=0:=by rw[n2 f6.2.1,<-f6.2.1.length,HM.mp g.1];rfl
 refine kdl_call (kdl_dict (knd:=BG prog w) (kvs:=kvs d.1 es) (ep:=m) bX.2) aw.2.2 (sj (prog:=prog) ay f6.1 bX.1.1 f6.2.1) (bf (fh z) (fu _)) λh' cp acc c keep dI yH=> ?_
 rw[Array.eq_empty_of_size_eq_zero (yH.1.trans z)] at dI
 have b0:=aT.fresh
 have dU:=(aT.grow (s':={bk with heap:=h',toks:=cp}) keep rfl rfl).fast dI b0.bE b0.fr b0.L b0.cell
 exact BN (s:={bk with heap:=h',toks:=cp}) (items:= #[]) ⟨_,dI,rfl,c,rfl⟩ (uZ (y5 (prog:=prog) (w:=w) _ bk.heap.objs.size c [] []) Ev (fk hp).1 (λo hf=> (cV (Γ.hold _ o) (Ev.hold hf) rfl).b _ (fk hp).2.2.2.2) aw (dU.1.push _) dU.1.fresh (ju _ rfl) (l:= []) ⟨0,rfl,rfl,rfl,bh.gb _ _ _,.nil⟩ g.2 (q.ex (bi.trans dU.2)))
end
end
section
variable [WP]
section
variable {prog:cP} {w:ba} {A:c2} {E:ah->az->Prop} {s:az} {Γ:bM} {T:bG} {env:dm} {sc:cN} {S:cL} {Kf:bY} {k:Nat}
theorem aX.Qe {a b:aR} {h':cu} {t:Nat} (N:aX Γ T s) (xv:Apart Γ T a) (qn:Apart Γ T b) (k: ∀c o,c∉ [a,b]->s.heap.get? c=ab o->h'.get? c=ab o):aX Γ T {s with heap:=h',toks:=t}:=by
 have no: ∀c,c≠a->c≠b->c∉ [a,b]:=λc aE ag m=> (e5.mp m).elim aE λm=>ag (jU.mp m)
 have K: ∀c o,c≠a->c≠b->s.heap.get? c=ab o->h'.get? c=ab o:=λc o aE ag=>k c o (no c aE ag)
 exact⟨⟨λc o e=>K c o (λq=>by rw[q,xv.bE] at e;exact a0 e) (λq=>by rw[q,qn.bE] at e;exact a0 e) (N.aY.bE c o e),λc o e=> ⟨K c o (λq=>by rw[q,xv.fr] at e;exact a0 e) (λq=>by rw[q,qn.fr] at e;exact a0 e) (N.aY.fr c o e).1,(N.aY.fr c o e).2⟩,
  λx ao e=>iw (dT.refl _) (λ_ h=>h) (λ_ _=>rfl) (λc aD=>ak (lL (N.aY.cell x ao e) c aD) λo aq=>aq.trans (K c o (λq=>xv.cell x ao e (by rw[<-q];exact aD)) (λq=>qn.cell x ao e (by rw[<-q];exact aD)) aq).symm) rfl rfl (N.aY.cell x ao e),N.aY.ca,N.aY.gm⟩,
  ⟨ak N.lo.ns λm h=> ⟨m,c5 h.1 λo es ep h=> ⟨o,es,ep,K _ _ (iY xv.L) (iY qn.L) h.1,h.2⟩,h.2⟩,N.lo.free,N.lo.b0,N.lo.lu⟩,N.base,N.gens,N.os,N.pin⟩
theorem Apart.hold {a b:aR} {o:bW} (b0:Apart Γ T a) (ne:a≠b):Apart (Γ.hold b o) T a:=⟨b0.bE,(bh.f9 _ _ ne).trans b0.fr,b0.L,b0.cell⟩
structure Hs (Γ:bM) (T:bG) (s:az) (e it:aR) (oW:Nat->cu->Prop) (L:Nat->St->Prop) (z j i:Nat) (a4:bG):Prop where
 bj:i<=z
 j6:j=z-i
 x:T.dS a4
 N:aX Γ a4 s
 e:Apart Γ a4 e
 it:Apart Γ a4 it
 st:oW i s.heap
 h:L i a4.σ
theorem LZ {e it:aR} {x:List Nat} {oW:Nat->cu->Prop} {hI:Nat->aR->cu->Prop} {n m:Nat} {b:Q7.S} {body:List cy} {e1 e2:Expr} {q9:er} {h7:Nat}
  (W:WalksT prog w A e (e:: [it]) [e,it] (aK x).cps.size (λi vals=> ∃t v,(∃c u,(aK x).cps[i]? =ab c/\v= .str ⟨#[c]⟩ u)/\vals= #[.int i t,v]) oW hI) (ne:e≠it)
  (alive: ∀i h,oW i h->(∃o,h.get? e=ab o)/\ ∃o,h.get? it=ab o)
  (Ev:dk sc env Γ S) (aA: ∀k∈ [n,m],fG sc (nm k)=aa)
  (cV: ∀dX:bM,dk sc env dX S->dX.base=Γ.base->qg prog w dX k (bN S b) (nA body env)) {K:cD->St->aB} (aw:fq A k) (N:aX Γ T s) (xw:Apart Γ T e) (nG:Apart Γ T it)
  (st:oW 0 s.heap) (h:pe n m (bN S b) (pd 0 x) T.σ λf σ=> (K f σ).holds)
  {R:nx->az->Prop} (q:nC Γ T K λf=>R (.ok f)):nz (bp prog w) A (.forLoop (.Tuple (iq [n,m] [e1,e2]) h7 q9) (.ref e) body [] env) R s:=by
 have kN:(aK x).cps.size=x.length:=hq ..
 refine codeAny_forLoop_any (λj s=> ∃i a4,Hs Γ T s e it oW (λi σ=>pe n m (bN S b) (pd i (x.drop i)) σ λf σ=> (K f σ).holds) x.length j i a4) (λj bk I=>bT I λi bS I=> ?_) (x.length-0)
  ⟨0,T,fu _,rfl,.refl T,N,xw,nG,st,h⟩
 by_cases kE:i<x.length
 ·have h:=I.h
  rw[RH kE] at h
  refine W.item i bk _ _ (by rw[kN];exact kE) I.st λd2 vals fF jQ aW Mx MZ mid k₁=>bT aW λt v aW=>bT aW.1 λc u aD=> ?_
  have nT:x[i]=c:=bQ ((nr kE).symm.trans (lC.symm.trans aD.1))
  rw[nT] at h
  rw[aW.2,aD.2] at MZ
  refine W.go _ _ _ i d2 {bk with heap:=fF,toks:=jQ} _ _ mid λkF FK Ni=> ?_
  have bR:aX Γ bS {bk with heap:=kF,toks:=jQ}:=I.N.Qe I.e I.it λb o ag q=>Ni b o ag (k₁ b o ag q)
  have Zt:kF.IsTuple d2 #[.int i t,.str ⟨#[c]⟩ u]:=ak MZ λo r=> ⟨o,Ni _ _ (W.apart i d2 _ mid) r.1,r.2⟩
  show bg _ _ (do xj q9;unpack (.ref d2) (oT (iq [n,m] [e1,e2]) env)) _ _ _
  refine bx (gH (IK aw.2.2 Zt rfl rfl λiG hs=> ?_))
  refine ak (alive _ _ FK).1 λhS g1=>ak (alive _ _ FK).2 λiN g2=> ?_
  have old: ∀b o,kF.get? b=ab o->iG.get? b=ab o:=λb o q=>hs b o (ms (oO q)) q
  have dU:aX Γ bS {bk with heap:=iG,toks:=jQ}:=bR.grow (s':={bk with heap:=iG,toks:=jQ}) old rfl rfl
  have agD:oW (i+1) iG:=W.frame _ _ _ FK λb _ o q=>old b o q
  have B7:=I.it.hold (o:=hS) (iY ne)
  have Hu:dk sc env ((Γ.hold e hS).hold it iN) S:=(Ev.hold I.e.fr).hold B7.fr
  refine Jp (fs:= [.int (.ofNat i),.str [c]]) (K:=λσ=>bN S b σ (cp (qX (λσ=>pe n m (bN S b) (pd (i+1) (x.drop (i+1))) σ λf σ=> (K f σ).holds) λf σ=> (K f σ).holds))) Hu aA ((dU.hold I.e (old _ _ g1)).hold B7 (old _ _ g2)) (.cons (.int _ _) (.cons (.str [c] u (by show 1<=dZ;decide)) .nil))
   (by show(stK _ n _ λσ=>stK σ m _ _).holds;rw[v0,v0];exact h) λTH rp G4 gQ h=>cV _ Hu rfl aw gQ h λI1 g f Ql aik nu hf h=> ?_
  have tV:=nu.loose B7.fr
  have tW:=tV.1.loose I.e.fr
  have be:=(I.x.trans G4).trans aik
  have on:(qX (λσ=>pe n m (bN S b) (pd (i+1) (x.drop (i+1))) σ λf σ=> (K f σ).holds) (λf σ=> (K f σ).holds) af I1.σ)-> ∃M4,M4<j/\ ∃i a4,Hs Γ T Ql e it oW (λi σ=>pe n m (bN S b) (pd i (x.drop i)) σ λf σ=> (K f σ).holds) x.length M4 i a4:=λh=>
   ⟨x.length- (i+1),by rw[I.j6];exact Nat.sub_lt_sub_left kE (nt i),i+1,I1,kE,rfl,be,tW.1,tW.2.1,⟨tV.2.1.bE,I.it.fr,tV.2.1.L,tV.2.1.cell⟩,W.frame _ _ _ agD λb ag o q=> (e5.mp ag).elim (λz=>by
    rw[z] at q⊢
    rw[old _ _ g1] at q
    exact bQ q▸tW.2.2) λz=>by
    rw[jU.mp z] at q⊢
    rw[old _ _ g2] at q
    exact bQ q▸tV.2.2,h⟩
  cases g with
  |aQ=>rw[hf];exact on h
  |df=>rw[hf];exact on h
  |c0=>rw[hf];exact q.aQ _ _ be tW.1 h
  |hF v=>exact ak hf λy e=>by rw[e.1];exact q _ (.hF v) _ _ be tW.1 ⟨y,rfl,e.2⟩ h
 ·have bj:=Nat.le_antisymm I.bj (mu.mp kE)
  have h:=I.h
  have st:=I.st
  rw[bj,List.drop_length] at h
  rw[bj,<-kN] at st
  exact W.done bk _ _ st λh' _ aS=>t8 (q.aQ _ _ I.x (I.N.Qe I.e I.it aS) h)
variable (ay:WP.P=w.params) (Ev:dk sc env Γ S) (bb:Top Kf Γ.base S)
include ay Ev bb
theorem aet {n m:Nat} {x:X} {b:Q7.S} (cn:bc prog w Γ k S sc env x) (cV: ∀dX:bM,dk sc env dX S->dX.base=Γ.base->et prog w dX k S sc env b):et prog w Γ k S sc env (.sy n m x b):=by
 refine .of (λp hp A E s T K Q aw N h q=>BJ (qt ay Ev bb (f:= .type "enumerate") (.tail _ (.tail _ (.tail _ (.tail _ (.tail _ (.tail _ (.tail _ (.tail _ (.head _))))))))) rfl (i3 (i3 (k1 hp).2.2.1 (k1 hp).2.2.2.1) (k1 hp).2.2.2.2.1) cn aw N h λbS v av bk bi aT bl h=> ?_) (λx=>rfl)) rfl
 refine ak (dp h) λz h=> ?_
 rw[mE h.1] at bl
 refine ak (fQ bl) λt e=> ?_
 rw[e.1]
 refine call_enumerate_str λh' he hit j7 keep=>wpAny_pyIter_enum he ?_
 have bR:aX Γ bS {bk with heap:=h'}:=aT.grow keep rfl rfl
 have xw:Apart Γ bS (bk.heap.objs.size+1):=aT.apart (zw (kx _))
 have aA: ∀k∈ [n,m],fG sc (nm k)=aa:=wU.mpr ⟨(k1 hp).1,wU.mpr ⟨(k1 hp).2.1,λ_ h=>absurd h eG⟩⟩
 have MA: ∀dX:bM,dk sc env dX S->dX.base=Γ.base->qg prog w dX k (bN S b) (nA ((dH sc b).bZ (jr p)) env):=λdX e1 e2=> (cV dX e1 e2).b _ (k1 hp).2.2.2.2.2
 have ne:bk.heap.objs.size+1≠bk.heap.objs.size:=R9 _
 unfold rY at hit
 by_cases c:(aK z).cps.all (· <128)=aa
 ·rw[if_pos c] at hit
  exact LZ (e1:=h0 (xs (ec p))) (e2:=aq (xs (ec p))) (SK (Draws.strAscii (A:=A.in1) aw.2.2 bk.heap.objs.size (aK z) t) (bk.heap.objs.size+1) ne (by simp) (by simp)) ne (λi h q=> ⟨ak q.1 λold r=> ⟨_,r⟩,ak q.2 λo r=> ⟨o,r.1⟩⟩) Ev aA MA aw bR xw aT.fresh ⟨⟨_,he⟩,hit⟩ h.2.2 (q.ex bi)
 ·rw[if_neg c] at hit
  exact LZ (e1:=h0 (xs (ec p))) (e2:=aq (xs (ec p))) (SK (Draws.strWide (A:=A.in1) aw.2.2 bk.heap.objs.size (aK z) t) (bk.heap.objs.size+1) ne (by simp) (by simp)) ne (λi h q=> ⟨ak q.1 λold r=> ⟨_,r⟩,ak q.2 λo r=> ⟨o,r.1⟩⟩) Ev aA MA aw bR xw aT.fresh ⟨⟨_,he⟩,hit⟩ h.2.2 (q.ex bi)
end
end
noncomputable def y1:mw->Bool
 | .free=>aa
 |_=>ac
noncomputable def qz (cells:List (a7×aR)):List (a7×mw)->List (a7×aR)->List (a7×aR)
 | [],acc=>acc
 |p::r,acc=>qz cells r (cond (y1 p.2) ((p.1,(cells.lookup p.1).getD 0)::acc) acc)
theorem Zg {k:mw} (h:y1 k=aa):k= .free:=by
 cases k with
 |free=>rfl
 |_=>exact ck h
theorem UZ {cells:List (a7×aR)} {n:a7} {names:List (a7×mw)}: ∀{acc:List (a7×aR)},(∀n,(n,jv)∈names->(cells.lookup n).isSome=aa)->((n,jv)∈names\/acc.lookup n=cells.lookup n)->(qz cells names acc).lookup n=cells.lookup n:=by
 induction names with
 |nil=>exact λ_ h=>h.elim (λh=>absurd h eG) id
 |cons p r ai=>
  intro acc hf h
  cases p with|mk a k=>
  refine ai (λm hm=>hf m (eY _ hm)) ?_
  show _\/(cond (y1 k) ((a,(cells.lookup a).getD 0)::acc) acc).lookup n=cells.lookup n
  cases e:y1 k with
  |true=>
   rw[Zg e] at h hf
   show _\/((a,(cells.lookup a).getD 0)::acc).lookup n=cells.lookup n
   rw[mo]
   cases q:n==a with
   |true=>
    rw[beq_iff_eq.mp q]
    exact .inr (ak (w4.mp (hf a eo)) λc aD=>by rw[aD];rfl)
   |false=>exact h.elim (λh=> (e5.mp h).elim (λe=>absurd (tX e).1 (beq_eq_false_iff_ne.mp q)) .inl) .inr
  |false=>exact h.elim (λh=> (e5.mp h).elim (λz=>ck (by rw[<-(tX z).2] at e;exact e.symm)) .inl) .inr
theorem U0 {env:dm} {names:List (a7×mw)}: ∀{acc:List (a7×aR)},(∀n,(n,jv)∈names->(env.cells.lookup n).isSome=aa)->
   (wM names acc λ(x:a7×mw) (r:List (a7×aR))=> (if(x.2==jv)=aa then do let c <-BB env x.1;pure (rL ((x.1,c)::r)) else pure (rL r):hJ (ForInStep (List (a7×aR)))))=pure (qz env.cells names acc):=by
 induction names with
 |nil=>exact λ_=>rfl
 |cons x names ai=>
  intro acc h
  cases x with|mk n k=>
  have i:=λacc=>ai (acc:=acc) λm hm=>h m (eY _ hm)
  rw[List.forIn_cons]
  cases k with
  |free=>
   refine ak (w4.mp (h n eo)) λc aD=> ?_
   show((BB env n>>=λc=>pure (rL ((n,c)::acc)))>>=_)=_
   rw[show BB env n=pure c by unfold BB;rw[aD],pure_bind,pure_bind]
   refine(i _).trans ?_
   show _=pure (qz env.cells names ((n,(env.cells.lookup n).getD 0)::acc))
   rw[aD];rfl
  |_=>exact i acc
theorem CJ {scope:cN} {env:dm} (hf: ∀n,(n,jv)∈scope.names->(env.cells.lookup n).isSome=aa):Iz scope env=pure (qz env.cells scope.names []):=by
 unfold Iz
 rw[bind_pure]
 exact U0 hf
section
variable [WP]
abbrev bM.sub (Γ:bM) (C:aR) (oL:bW):bM:={Γ with L:=C,Fr:=Γ.Fr.ins Γ.L oL}
noncomputable abbrev bG.at (T:bG) (loc:List (Nat×Option ae)):bG:=⟨T.aP,T.ax,⟨loc,T.σ.hp,T.σ.lh,T.σ.lu⟩⟩
section
variable {prog:cP} {w:ba} {A:c2} {E:ah->az->Prop} {s:az} {Γ:bM} {T:bG} {env:dm} {sc:cN} {S:cL} {Kf:bY} {k:Nat}
theorem aX.sub (N:aX Γ T s) {C:aR} (b0:Apart Γ T C) {m:a7->Option ah} (ar:s.heap.Ns C m) {loc:List (Nat×Option ae)} (hm: ∀n av,gs n loc=ab av-> ∃v,m (nm n)=ab v/\T.A av v):
  ∃oL,s.heap.get? Γ.L=ab oL/\aX (Γ.sub C oL) (T.at loc) s:=
 ak N.lo.ns λEJ h=>c5 h.1 λoL es ep h=> ⟨oL,h.1,
  have cR:=N.aY
  ⟨⟨cR.bE,λb o e=>by
   by_cases q:b=Γ.L
   ·rw[q] at e⊢
    exact⟨bQ ((bh.gb _ _ _).symm.trans e)▸h.1,N.lo.free.1⟩
   ·exact cR.fr b o ((bh.f9 _ _ q).symm.trans e),cR.cell,λx ao e b ag=> ⟨(cR.ca x ao e b ag).1,(bh.f9 _ _ λq=>N.lo.b0 x ao e (by rw[<-q];exact ag)).trans (cR.ca x ao e b ag).2⟩,cR.gm⟩,
   ⟨⟨m,ar,hm⟩,⟨b0.bE,(bh.f9 _ _ b0.L).trans b0.fr⟩,b0.cell,N.lo.lu⟩,N.base,N.gens,N.os,N.pin⟩⟩
theorem aX.ahJ (N:aX Γ T s) {C:aR} (T2:Γ.Fr C=af) (ne:C≠Γ.L) {oL:bW} (d6:s.heap.get? Γ.L=ab oL) {loc:List (Nat×Option ae)} {a4:bG} {s':az} (x:(T.at loc).dS a4) (cR:aX (Γ.sub C oL) a4 s'):
  aX Γ (a4.at T.σ.loc) s'/\T.dS (a4.at T.σ.loc)/\Apart Γ (a4.at T.σ.loc) C/\ ∃m,s'.heap.Ns C m:=by
 have pD:=cR.aY.fr Γ.L oL (bh.gb _ _ _)
 have ex:T.dS (a4.at T.σ.loc):=⟨x.bE,x.dN,x.ax⟩
 have ns: ∃m,s'.heap.Ns Γ.L m/\ ∀n av,gs n T.σ.loc=ab av-> ∃v,m (nm n)=ab v/\bG.A (a4.at T.σ.loc) av v:=ak N.lo.ns λEJ h=> ⟨EJ,c5 h.1 λo es ep h=> ⟨o,es,ep,bQ (d6.symm.trans h.1)▸pD.1,h.2⟩,λn av e=>ak (h.2 n av e) λv a=> ⟨v,a.1,a.2.ex ex⟩⟩
 exact⟨⟨⟨cR.aY.bE,λb o e=>cR.aY.fr b o (yW N.lo.free.2 e),cR.aY.cell,λx ao e b ag=> ⟨(cR.aY.ca x ao e b ag).1,(sO (cR.aY.ca x ao e b ag).2).2⟩,cR.aY.gm⟩,
  ⟨ns,⟨pD.2,N.lo.free.2⟩,λx ao e ag=> (sO (cR.aY.ca x ao e _ ag).2).1 rfl,cR.lo.lu⟩,cR.base,cR.gens,cR.os,cR.pin⟩,
  ex,⟨cR.lo.free.1,T2,ne,cR.lo.b0⟩,ak cR.lo.ns λm h=> ⟨m,h.1⟩⟩
theorem aia {D:aR} {vs:List ah} {n:Nat} {x:ah} {Q:ah->az->Prop} (dI:s.heap.get? D=ab (lobj vs n)) (cG:vs.length<=dZ)
  (h:Q .none {s with heap:=s.heap.update D (Bl λxs=>xs.push x)}):bg (bp prog w) A (iA (.builtin "list.append") [.ref D,x]) Q E s:=
 Iy Sm ⟨_,dI,rfl⟩ F.entry_list_append (F.args_list_append_2 _ _) (list_append D vs.toArray n x cG) ⟨dI,h⟩
def TG (Γ:bM) (T:bG) (C:aR) (K:Option ae->St->aB) (Q:ah->az->Prop):Prop:= ∀a4 u y aU s',T.dS a4->aX Γ a4 s'->Apart Γ a4 C->s'.heap.Ns C aU->a4.A u y->(K (ab u) a4.σ).holds->Q y s'
def TF (Γ:bM) (T:bG) (C:aR) (K:Option ae->St->aB) (Q:az->Prop):Prop:= ∀a4 aU s',T.dS a4->aX Γ a4 s'->Apart Γ a4 C->s'.heap.Ns C aU->(K af a4.σ).holds->Q s'
def TurnOk (prog:cP) (w:ba) (k:Nat) (S:cL) (sc:cN) (env:dm) (base:cu) (L:aR) (target elt:Expr) (ifs:List Expr) (ce:aR->dm) (b:ae->St->(Option ae->St->aB)->aB):Prop:=
 ∀{Γ:bM} {A:c2} {E:ah->az->Prop} {s:az} {T:bG} {C:aR} {m:a7->Option ah} {v:ae} {x:ah} {K:Option ae->St->aB} {xo:ah->az->Prop} {xp:az->Prop},dk sc env Γ S->Γ.base=base->Γ.L=L->fq A k->aX Γ T s->Apart Γ T C->s.heap.Ns C m->T.A v x->(b v T.σ K).holds->
  TG Γ T C K xo->TF Γ T C K xp->bg (bp prog w) A (assign target (ce C) x) (λ_ dh=>
   bg (bp prog w) A (wM ifs aa λc r=>if r=aa then do let ok <-isTrue c (ce C) (dz c (ce C));pure (rL ok) else pure (rL r)) (λok fU=>
    if ok=aa then bg (bp prog w) A (dz elt (ce C)) xo E fU else xp fU) E dh) E s
theorem Va {R:nx->az->Prop} {elt target iter:Expr} {ifs:List Expr} {scope:cN} {pos:er} {it acc:ah} (I:Nat->az->Prop)
  (turn: ∀n s,I n s->bg (bp prog w) A (pyNext it) (λr bk=>match r with
   |none=>R (.ok .next) bk
   |some v=>bg (bp prog w) A (IB target it v) (λ_ Qk=>bg (bp prog w) A (assign target env v) (λ_ dh=>
     bg (bp prog w) A (wM ifs aa λc r=>if r=aa then do let ok <-isTrue c env (dz c env);pure (rL ok) else pure (rL r)) (λok fU=>
      if ok=aa then bg (bp prog w) A (dz elt env) (λx iR=>
       bg (bp prog w) A (iA (.builtin "list.append") [acc,x]) (λ_ rp=> ∃m,m<n/\I m rp) (t6 (bp prog w) A env λe s'=>R (.error e) s') iR) (t6 (bp prog w) A env λe s'=>R (.error e) s') fU
      else∃m,m<n/\I m fU) (t6 (bp prog w) A env λe s'=>R (.error e) s') dh) (t6 (bp prog w) A env λe s'=>R (.error e) s') Qk) (t6 (bp prog w) A env λe s'=>R (.error e) s') bk) (t6 (bp prog w) A env λe s'=>R (.error e) s') s)
  (n:Nat) (h:I n s):nz (bp prog w) A (.compLoop (.ListComp elt [⟨target,iter,ifs,0⟩] scope pos) 0 it acc env) R s:=by
 refine codeAny_loop rfl I (λn s yF=> ?_) n h
 show bg _ A ((compTurn (.ListComp elt [⟨target,iter,ifs,0⟩] scope pos) 0 it acc env).onRaise (λx=>do noteFrame x env;theTreesLotGoes x)) _ _ s
 refine wpAny_noted ?_
 rw[compTurn_list]
 refine bx (gH (bx (h3 (turn n s yF) (λr bk fF=> ?_) λ_ _ h'=>h')))
 cases r with
 |none=>exact dc fF
 |some v=>
  refine bx (h3 fF (λ_ Qk fF=> ?_) λ_ _ h'=>h')
  refine bx (h3 fF (λ_ dh kF=>bx (h3 kF (λok fU iG=> ?_) λ_ _ h'=>h')) λ_ _ h'=>h')
  cases ok with
  |false=>exact dc ⟨rfl,iG⟩
  |true=>
   exact bx (bx (h3 iG (λx iR YY=>bx (h3 YY (λ_ rp YZ=>dc (dc ⟨rfl,YZ⟩)) λ_ _ h'=>h')) λ_ _ h'=>h'))
structure Rg (Γ:bM) (T:bG) (s:az) (it D C:aR) (J:List ae->bW->bh->Prop) (L:List ae->List ae->St->Prop) (z j:Nat) (l acc:List ae) (a4:bG) (o:bW) (vs:List ah) (n:Nat) (m:a7->Option ah):Prop where
 len:l.length=j
 le:acc.length+l.length<=z
 x:T.dS a4
 N:aX Γ a4 s
 nG:Apart Γ a4 it
 iB:Apart Γ a4 D
 jY:Apart Γ a4 C
 bV:s.heap.get? it=ab o
 J:J l o a4.aP
 dI:s.heap.get? D=ab (lobj vs n)
 f7:s.heap.Ns C m
 all:bC (λa v=>a4.A a v/\glob a=aa) acc vs
 h:L l acc a4.σ
def Hk (Γ:bM) (T:bG) (D C:aR) (z:Nat) (K:List ae->St->Prop) (R:az->Prop):Prop:= ∀a4 s' vs n as m,T.dS a4->aX Γ a4 s'->Apart Γ a4 D->Apart Γ a4 C->s'.heap.get? D=ab (lobj vs n)->s'.heap.Ns C m->bC (λa v=>a4.A a v/\glob a=aa) as vs->as.length<=z->K as a4.σ->R s'
theorem Vc {target elt iter:Expr} {ifs:List Expr} {scope:cN} {pos:er} {ce:aR->dm} {b:ae->St->(Option ae->St->aB)->aB} (Ev:dk sc env Γ S)
  (turn:TurnOk prog w k S sc env Γ.base Γ.L target elt ifs ce b) {it D C:aR} {J:List ae->bW->bh->Prop} (I:Iter prog w it J) {l:List ae} {o:bW} {K:List ae->St->Prop} {m:a7->Option ah} (aw:fq A k) (N:aX Γ T s)
  (nG:Apart Γ T it) (iB:Apart Γ T D) (jY:Apart Γ T C) (kc:it≠D) (gM:it≠C) (pF:D≠C) (bV:s.heap.get? it=ab o) (h6:J l o T.aP) (dI:s.heap.get? D=ab (lobj [] 0)) (f7:s.heap.Ns C m) (cG:l.length<=1000000)
  (ci: ∀(A:c2) (E:ah->az->Prop) (s:az) (Q:Unit->az->Prop) (l:List ae) (o:bW) (F:bh) (v:ah),J l o F->s.heap.get? it=ab o->Q () s->bg (bp prog w) A (IB target (.ref it) v) Q E s) (h:jD b l [] T.σ K) {R:nx->az->Prop}
  (eI:Hk Γ T D C l.length K (R (.ok .next))):nz (bp prog w) A (.compLoop (.ListComp elt [⟨target,iter,ifs,0⟩] scope pos) 0 (.ref it) (.ref D) (ce C)) R s:=by
 refine Va (λj s=> ∃cz acc a4 o vs n m,Rg Γ T s it D C J (λl acc σ=>jD b l acc σ K) l.length j cz acc a4 o vs n m) (λj bk c8=>aii c8 λcz acc bS o vs n m c8=> ?_) l.length
  ⟨l,[],T,o,[],0,m,rfl,fh (jt _),.refl T,N,nG,iB,jY,bV,h6,dI,f7,.nil,h⟩
 cases cz with
 |nil=>exact I.stop A _ o bS.aP bk _ aw.2.2 c8.N.aY.bE c8.bV c8.J λh' dR aS=>eI bS _ vs n acc m c8.x (c8.N.step (t:=dR) c8.nG aS) c8.iB c8.jY (aS _ _ (iY kc) c8.dI) (c8.f7.at' λo e=>aS _ o (iY gM) e) c8.all c8.le c8.h
 |cons v cz=>
  refine I.next A _ v cz o bS.aP bk _ aw.2.2 c8.N.aY.bE c8.bV c8.J λh' dR x ef aH aS yP u3=> ?_
  have X5:=aS _ _ (iY kc) c8.dI
  have B3:=c8.iB.hold (o:=ef) (iY kc)
  refine ci A _ _ _ cz ef bS.aP x u3 yP ?_
  have B: ∀{a4:bG} {s':az},aX ((Γ.hold it ef).hold D (lobj vs n)) a4 s'->Apart ((Γ.hold it ef).hold D (lobj vs n)) a4 C->aX Γ a4 s'/\Apart Γ a4 it/\Apart Γ a4 D/\Apart Γ a4 C/\s'.heap.get? it=ab ef/\s'.heap.get? D=ab (lobj vs n):=λcR i2=>
   have gQ:=cR.loose B3.fr
   have nu:=gQ.1.loose c8.nG.fr
   ⟨nu.1,nu.2.1,⟨gQ.2.1.bE,c8.iB.fr,gQ.2.1.L,gQ.2.1.cell⟩,⟨i2.bE,c8.jY.fr,i2.L,i2.cell⟩,nu.2.2,gQ.2.2⟩
  have lt:cz.length<j:=c8.len▸nt _
  refine turn ((Ev.hold c8.nG.fr).hold B3.fr) rfl rfl aw (((c8.N.step (t:=dR) c8.nG aS).hold c8.nG yP).hold B3 X5) ((c8.jY.hold (iY gM)).hold (iY pF)) (c8.f7.at' λo e=>aS _ o (iY gM) e) (aH _ _) c8.h (λkY u y EU iR g6 fM k2 CS eT cg=> ?_) λkY EU iR g6 fM k2 CS cg=> ?_
  ·have b:=B fM k2
   have z:=bf (bf (gG _ _) c8.le) cG
   rw[c8.all.length] at z
   refine aia b.2.2.2.2.2 (pE z).2 ?_
   have up:=Sx (h:=iR.heap) (l:=D) (items:=vs.toArray) (n:=n) b.2.2.2.2.2 λxs=>xs.push y
   rw[RS] at up
   have Fd: ∀b o,b≠D->iR.heap.get? b=ab o->(iR.heap.update D (Bl λxs=>xs.push y)).get? b=ab o:=λb o ag e=> (Heap.get?_update_ne _ _ _ _ ag).trans e
   exact⟨cz.length,lt,cz,acc++ [u],kY,ef,vs++ [y],_,EU,rfl,by rw[bL,p6,List.length_singleton,kV 1];exact c8.le,c8.x.trans g6,b.1.step (t:=iR.toks) b.2.2.1 Fd,b.2.1,b.2.2.1,b.2.2.2.1,Fd _ _ kc b.2.2.2.2.1,I.up _ _ _ _ g6.bE u3,up,CS.at' λo e=>Fd _ o (iY pF) e,(c8.all.mono λa v q=> ⟨q.1.ex g6,q.2⟩).snoc ⟨eT,cg.1⟩,cg.2⟩
  ·have b:=B fM k2
   exact⟨cz.length,lt,cz,acc,kY,ef,vs,n,EU,rfl,bf (kx _) c8.le,c8.x.trans g6,b.1,b.2.1,b.2.2.1,b.2.2.2.1,b.2.2.2.2.1,I.up _ _ _ _ g6.bE u3,b.2.2.2.2.2,CS,c8.all.mono λa v q=> ⟨q.1.ex g6,q.2⟩,cg⟩
end
end
section
theorem LV {fr:List Nat} {l:List (Nat×ae)}:x1 fr l=aa-> ∀n v,aL n l=ab v->n∈fr:=by
 induction l with
 |nil=>exact λ_ n v h=>a0 h
 |cons p r ai=>
  intro h n v e
  have h:=b2 h
  have e:(match bA p.1 n with
   |true=>ab p.2
   |false=>aL n r)=ab v:=e
  cases q:bA p.1 n with
  |true=>exact fg q▸OC h.1
  |false=>rw[q] at e;exact ai h.2 n v e
theorem Yg {l:List (Nat×ae)} {fr:List Nat}:uH l fr=aa-> ∀n∈fr,∃v,aL n l=ab v:=by
 induction fr with
 |nil=>exact λ_ n h=>absurd h eG
 |cons a r ai=>
  intro h n ar
  have h:=b2 h
  cases ar with
  |head=>
   have g:=h.1
   cases q:aL a l with
   |some v=>exact⟨v,rfl⟩
   |none=>rw[q] at g;exact ck g
  |tail _ ar=>exact ai h.2 n ar
structure AK (scope:cN) (n:Nat) (fr:List Nat):Prop where
 loc:fG scope (nm n)=aa
 kind:scope.kind= .function
 E2: ∀y∈scope.names,y.2= .local->scope.names.lookup y.1=ab .local
 zx: ∀y∈scope.names,y.2≠ .cell
 lR: ∀s,(s,jv)∈scope.names-> ∃m∈fr,nm m=s
 sv: ∀m∈fr,(nm m,jv)∈scope.names
theorem XB {fr:List Nat} {names:List (a7×mw)}:Di fr names=aa->(∀y∈names,y.2≠ .cell)/\ ∀s,(s,jv)∈names-> ∃m∈fr,nm m=s:=by
 induction names with
 |nil=>exact λ_=> ⟨λy h=>absurd h eG,λs h=>absurd h eG⟩
 |cons p r ai=>
  intro h
  cases p with|mk a b=>
  have h:=b2 h
  have i:=ai h.2
  refine⟨λy cO=> (e5.mp cO).elim (λe q=> ?_) (i.1 y),λs hs=> (e5.mp hs).elim (λe=> ?_) (i.2 s)⟩
  ·rw[e] at q
   have q:b= .cell:=q
   rw[q] at h
   exact ck h.1
  ·have e:=tX e
   rw[<-e.2] at h
   exact ak (RD.mp h.1) λm q=> ⟨m,q.1,(seq_eq q.2).trans e.1.symm⟩
theorem XA {sc scope:cN} {fr:List Nat}:Dh sc scope fr=aa-> ∀m∈fr,(nm m,jv)∈scope.names:=by
 induction fr with
 |nil=>exact λ_ m h=>absurd h eG
 |cons a r ai=>
  intro h m hm
  have h:=cU h
  cases hm with
  |head=>exact mem_of_lookup (beq_iff_eq.mp h.1)
  |tail _ hm=>exact ai h.2.2 m hm
theorem CN {scope sc:cN} {n:Nat} {fr:List Nat} (h:x2 scope sc n fr=aa):AK scope n fr:=
 have h:=fk h
 have f:=XB h.2.2.2.1
 ⟨h.1,beq_iff_eq.mp h.2.1,λy cO q=>by
  have z:=fL.mp h.2.2.1 y cO
  rw[q] at z
  exact beq_iff_eq.mp z,f.1,f.2,XA h.2.2.2.2⟩
variable [WP]
section
variable {prog:cP} {w:ba} {A:c2} {E:ah->az->Prop} {s:az} {Γ:bM} {T:bG} {env:dm} {sc:cN} {S:cL} {Kf:bY} {k:Nat}
structure Rw (prog:cP) (w:ba) (Γ:bM) (s:az) (target:Expr) (b:ae->St->(Option ae->St->aB)->aB) (K:List ae->St->Prop) (R:ah->aR->az->Prop) (T:bG) (I:aR) (J:List ae->bW->bh->Prop) (l:List ae) (o:bW):Prop where
 N:aX Γ T s
 a:Apart Γ T I
 bV:s.heap.get? I=ab o
 it:Iter prog w I J
 j6:J l o T.aP
 own: ∀(A:c2) (E:ah->az->Prop) (s:az) (Q:Unit->az->Prop) (l:List ae) (o:bW) (F:bh) (v:ah),J l o F->s.heap.get? I=ab o->Q () s->bg (bp prog w) A (IB target (.ref I) v) Q E s
 self: ∀(A:c2) (E:ah->az->Prop) (s:az) (Q:ah->az->Prop),s.heap.get? I=ab o->Q (.ref I) s->bg (bp prog w) A (pyIter (.ref I)) Q E s
 len:l.length<=1000000
 h:jD b l [] T.σ K
 fin: ∀D C,D≠C->Hk Γ T D C l.length K (R (.ref D) C)
theorem CO {target elt iter:Expr} {ifs:List Expr} {scope:cN} {cl:List (a7×aR)} {pos pp:er} {first:hJ ah} {use:Option (ah->hJ Unit)} {Q:ah->az->Prop} {b:ae->St->(Option ae->St->aB)->aB} {n:Nat} {fr:List Nat} (Ev:dk sc env Γ S) (aw:fq A k)
  (hs: ∀x,SV iter env x=pure x) (Yk:Iz scope env=pure cl) (cB:AK scope n fr)
  (turn:TurnOk prog w k S sc env Γ.base Γ.L target elt ifs (λC=>jw scope cl C env) b)
  (h:bg (bp prog w) A first (λAD bk=>bg (bp prog w) A (pyIter AD) (λit dh=> ∃bS I J l o K,it= .ref I/\Rw prog w Γ dh target b K (λD C s'=>compPost (bp prog w) A E use Q D C (.ok .next) s') bS I J l o) E bk) E s):
  bg (bp prog w) A (comprehension (.ListComp elt [⟨target,iter,ifs,0⟩] scope pos) scope env pp (newList []) ac first use) Q E s:=by
 refine wpAny_comprehension_free (cl:=cl) rfl hs Yk cB.kind cB.E2 (h3 h (λAD bk fF=>h3 fF (λit dh kF=>QS kF λbS I J l o aiu h=> ?_) λ_ _ e=>e) λ_ _ e=>e)
 rw[h.1]
 have h:=h.2
 refine wpAny_newObj_type ?_
 have kN:(dh.heap.push (lobj [] 0)).objs.size=dh.heap.objs.size+1:=Sw ..
 have Nm:=oO h.bV
 have kc:I≠dh.heap.objs.size:=ms Nm
 have gM:I≠(dh.heap.push (lobj [] 0)).objs.size:=by rw[kN];exact ms (R5 Nm)
 have pF:dh.heap.objs.size≠(dh.heap.push (lobj [] 0)).objs.size:=by rw[kN];exact ms (nt _)
 refine wpAny_newFunctionEnv cB.zx (λy cO=>absurd cO eG) (λfF YE YO=> ?_) cB.kind
 have keep: ∀b o,b≠(dh.heap.push (lobj [] 0)).objs.size->(dh.heap.push (lobj [] 0)).get? b=ab o->fF.get? b=ab o:=λb o ag e=> (YO.2 b ag).trans (tY _ e)
 have aT:=h.N.push (lobj [] 0)
 have L5:fF.get? I=ab o:=keep _ _ gM (tY _ h.bV)
 have loop:nz (bp prog w) A (.compLoop (.ListComp elt [⟨target,iter,ifs,0⟩] scope pos) 0 (.ref I) (.ref dh.heap.objs.size) (jw scope cl (dh.heap.push (lobj [] 0)).objs.size env))
   (compPost (bp prog w) A E use Q (.ref dh.heap.objs.size) (dh.heap.push (lobj [] 0)).objs.size) {dh with heap:=fF,toks:=dh.toks+([]:List (a7×ah)).length}:=
  Vc (ce:=λC=>jw scope cl C env) Ev turn h.it aw (aT.step (t:=dh.toks+([]:List (a7×ah)).length) aT.fresh keep) h.a h.N.fresh aT.fresh kc gM pF L5 h.j6 (keep _ _ pF (ju _ rfl)) YE h.len h.own h.h (h.fin _ _ pF)
 exact codeAny_compStart_list loop (h.self _ _ _ _ L5 loop)
theorem Vb {scope:cN} {C:aR} {oL:bW} (Ev:dk sc env Γ S) (aS:scope.kind= .function) (hf: ∀n,(n,jv)∈scope.names->(env.cells.lookup n).isSome=aa)
  (sv: ∀n v,aL n S.clo=ab v->(nm n,jv)∈scope.names) (d6:Γ.Fr Γ.L=af):dk (l7 scope sc) (jw scope (qz env.cells scope.names []) C env) (Γ.sub C oL) S where
 scope:=by
  show relabel scope env=l7 scope sc
  unfold relabel l7 H8
  rw[Ev.scope]
 kind:=aS
 loc:=rfl
 i7:=Ev.i7
 blt:=Ev.blt
 clo:=λn v e=>c5 (Ev.clo n v e) λc o x h=> ⟨c,o,x,(UZ hf (.inl (sv n v e))).trans h.1,yW d6 h.2.1,h.2.2⟩
theorem Lr {scope:cN} {cl:List (a7×aR)} {C:aR} (aS:scope.kind= .function):(((jw scope cl C env).scope.kind== .class) || ((jw scope cl C env).scope.kind== .module&&(jw scope cl C env).locals !=(jw scope cl C env).globals))=ac:=by
 show((scope.kind== .class) || (scope.kind== .module&&_))=ac
 rw[aS];rfl
theorem Qr {n:Nat} {fr:List Nat} {e:X} {elt:Expr} {l5:er} {scope:cN} {base:cu} {L:aR} (cB:AK scope n fr) (hf: ∀n,(n,jv)∈scope.names->(env.cells.lookup n).isSome=aa)
  (sv: ∀n v,aL n S.clo=ab v->(nm n,jv)∈scope.names) (he:(au (l7 scope sc) e).x elt=aa)
  (nZ: ∀(dX:bM) (j4:dm),dk (l7 scope sc) j4 dX S->dX.base=base->bc prog w dX k S (l7 scope sc) j4 e):
  TurnOk prog w k S sc env base L (.Name (nm n) l5) ((au (l7 scope sc) e).e elt) [] (λC=>jw scope (qz env.cells scope.names []) C env) (pW n (ev S e).x):=by
 intro Γ A E s T C m v x K xo xp Ev bZ We aw N b0 ar aH h Fp pM
 refine qb (BO (m:=m) (SY (env:=env) (beq_iff_eq.mp cB.loc)) ar (λh' yO hs=>dc ?_) (Lr cB.kind))
 rw[if_pos rfl]
 have aT:aX Γ T {s with heap:=h',toks:=s.toks+1}:=N.step (t:=s.toks+1) b0 λb o ag e=> (hs.2 b ag).trans e
 have hm: ∀fy av,gs fy [(n,ab v)]=ab av-> ∃u,(if nm fy=nm n then ab x else m (nm fy))=ab u/\T.A av u:=λfy av e=>by
  have e:cond (bA n fy) (ab v) (gs fy [])=ab av:=El.symm.trans e
  cases q:bA n fy with
  |true=>rw[q] at e;exact⟨x,if_pos (by rw[fg q]),bQ e▸aH⟩
  |false=>rw[q] at e;exact a0 e
 refine ak (aT.sub b0 yO (loc:= [(n,ab v)]) hm) λoL bR=> ?_
 refine(nZ _ _ (Vb (C:=C) (oL:=oL) Ev cB.kind hf sv N.lo.free.2) bZ).cX _ he aw (T:=T.at [(n,ab v)]) bR.2 h λi1 y u fU eW dU mG cg=> ?_
 have U:=aT.ahJ b0.fr b0.L bR.1 eW dU
 exact ak U.2.2.2 λq1 mJ=>Fp _ u _ q1 _ U.2.1 U.1 U.2.2.1 mJ mG cg
theorem L3 {fr:List Nat} {scope:cN} (Ev:dk sc env Γ S) (cw:uH S.clo fr=aa) (h: ∀s,(s,jv)∈scope.names-> ∃m∈fr,nm m=s): ∀n,(n,jv)∈scope.names->(env.cells.lookup n).isSome=aa:=λn ar=>
 ak (h n ar) λm hm=>ak (Yg cw m hm.1) λv aW=>c5 (Ev.clo m v aW) λc o x e=>by rw[<-hm.2,e.1];rfl
end
end
section
theorem aco (m:Nat): ∀a:Int,(n9 a m).length=m:=by
 induction m with
 |zero=>exact λ_=>rfl
 |succ m ai=>exact λa=>congrArg tU (ai (a+1))
theorem abY {i:Int} (h:i<=1000000):i.toNat<=1000000:=by omega
variable [WP]
section
variable {prog:cP} {w:ba} {A:c2} {E:ah->az->Prop} {s:az} {Γ:bM} {T:bG} {env:dm} {sc:cN} {S:cL} {Kf:bY} {k:Nat}
variable (ay:WP.P=w.params) (Ev:dk sc env Γ S) (bb:Top Kf Γ.base S)
include ay Ev
theorem agc {x n:Nat} {fr:List Nat} {e i:X} (fS:bc prog w Γ k S sc env i) (nZ: ∀(dX:bM) (j4:dm) (rk:cN),dk rk j4 dX S->dX.base=Γ.base->bc prog w dX k S rk j4 e):bc prog w Γ k S sc env (.hB x n fr e i):=by
 refine .val ay rfl (λp hp A E s T K Q aw N h q=> ?_) (λ_ _=>rfl) rfl rfl
 have c:=CN (d0 hp).1
 have g:=gq h
 have hf:=L3 Ev (b2 g.1).2 c.lR
 show bg _ _ (dz (.ListComp _ [⟨.Name (nm n) _,(au sc i).e (fJ p).iter,[],0⟩] _ _) env) _ _ _
 rw[eval_ListComp]
 refine CO (use:=af) Ev aw (λ_=>E4 (d0 hp).2.1) (CJ hf) c (Qr c hf (λm v e=>c.sv m (LV (b2 g.1).1 m v e)) (d0 hp).2.2.1 λdX j4 js bZ=>nZ dX j4 _ js bZ)
  (fS.cX _ (d0 hp).2.2.2 aw N g.2 λbS v av bk bi aT bl h=>ak (dp h) λl h=> ?_)
 rw[xC h.1] at bl
 refine c5 (bq.i bl) λa vs m f=> ?_
 rw[f.1]
 refine BN ⟨_,aT.aY.bE _ _ f.2.1,rfl,m,rfl⟩ ⟨bS,_,_,l.map .f,_,_,rfl,aT.push _,aT.fresh,ju _ rfl,y5 _ a m vs l,⟨0,rfl,rfl,rfl,f.2.1,f.2.2.to⟩,λrD nk s' oV cz ef g8 lq _ _ q=>dc q,λrD nk s' oV g q=>Ta (l:=a) (i:=0) ⟨_,g,rfl,rfl⟩ q,by rw[ed];exact pS h.2.1,h.2.2,
  λD C vD a4 s' ws aU as q1 be cR iB jY u1 mJ al le cg=>ak cg λy cg=> ⟨q1,mJ,λh' hs=> ?_⟩⟩
 exact(cR.step (t:=s'.toks) jY λb o ag e=> (hs.2 b ag).trans e).adopt (zt cg.1) (a:=D) (ao:= .list as) iB (λ_=>rfl) (λax U dN og ey=> ⟨ws,aU,by rw[ey];exact(hs.2 D vD).trans u1,al.mono λa v q=> ⟨q.1.mono (dT.refl _) dN og,q.2⟩⟩)
  λfj e bR cC dF _=>q _ _ (.ap y) _ ((bi.trans be).trans cC) bR dF (by rw[e];exact cg.2)
include bb
theorem agd {n:Nat} {fr:List Nat} {e i:X} (fS:bc prog w Γ k S sc env i) (nZ: ∀(dX:bM) (j4:dm) (rk:cN),dk rk j4 dX S->dX.base=Γ.base->bc prog w dX k S rk j4 e):bc prog w Γ k S sc env (.vr n fr e i):=by
 refine .val ay rfl (λp hp A E s T K Q aw N h q=> ?_) (λ_ _=>rfl) rfl rfl
 have c:=CN (fk hp).1
 have g:=gq h
 have hf:=L3 Ev (b2 g.1).2 c.lR
 show bg _ _ (dz (.ListComp _ [⟨.Name (nm n) _,jZ "range" [_] _,[],0⟩] _ _) env) _ _ _
 rw[eval_ListComp]
 refine CO (use:=af) Ev aw (λ_=>rfl) (CJ hf) c (Qr c hf (λm v e=>c.sv m (LV (b2 g.1).1 m v e)) (fk hp).2.2.2.1 λdX j4 js bZ=>nZ dX j4 _ js bZ)
  (qt ay Ev bb (f:= .type "range") (.tail _ (.tail _ (.tail _ (.tail _ (.tail _ (.tail _ (.tail _ (.head _)))))))) rfl (i3 (i3 (fk hp).2.1 (fk hp).2.2.1) (fk hp).2.2.2.2) fS aw N g.2 λbS v av bk bi aT bl h=>ak (dp h) λi h=> ?_)
 rw[o3 h.1] at bl
 refine ak (gJ bl) λt e=> ?_
 rw[e]
 refine call_range_1 (Tb (Sy ..) (small_one (by decide) (by decide) (by have:=h.2.1;omega) (by have:=h.2.1;omega)) ?_)
 rw[Pr]
 have bR:=(aT.push {cls:= .type "range",data:= .fields #[.int 0 bk.toks,.int i t,.int 1 (bk.toks+1)]}).toks (bk.toks+1+1)
 refine⟨bS,_,_,n9 0 i.toNat,_,_,rfl,bR.push _,bR.fresh,ju _ rfl,MY _,⟨0,i.toNat,λh e=>e,rfl⟩,λrD nk s' oV cz ef g8 lq _ _ q=>dc q,λrD nk s' oV g q=>wpAny_pyIter_rangeiter (x:=0) (left:=(i.toNat:Int)) (step:=1) g q,by rw[aco];exact abY h.2.1.2,h.2.2,
  λD C vD a4 s' ws aU as q1 be cR iB jY u1 mJ al le cg=>ak cg λfs cg=> ⟨q1,mJ,λh' hs=> ?_⟩⟩
 have fM:=(cR.step (t:=s'.toks) jY λb o ag e=> (hs.2 b ag).trans e).fast (a:=D) ((hs.2 D vD).trans u1) iB.bE iB.fr iB.L iB.cell
 exact(q.ex ((bi.trans be).trans fM.2)).fr fM.1 (.lst (bh.gb _ _ _) (nd (R:=bq _) al (λv x h=>bq.mono fM.2.bE h.1) cg.1).lR) cg.2
end
end
section
noncomputable def MV:aj->Bool
 | .tup [.str _,_]=>aa
 |_=>ac
theorem MW {G:Prop} {v:aj} (h:MV v=aa) (k: ∀a b,v= .tup [.str a,b]->G):G:=by
 cases v with
 |tup t=>cases t with
  |nil=>exact ck h
  |cons a t=>cases a with
   |str a=>cases t with
    |nil=>exact ck h
    |cons b t=>cases t with
     |nil=>exact k a b rfl
     |cons _ _=>exact ck h
   |_=>exact ck h
 |_=>exact ck h
theorem aaD {v:aj} {l r:List aj} (h:lY (v::l)=ab r):MV v=aa:=by
 cases v with
 |tup t=>cases t with
  |nil=>exact a0 h
  |cons a t=>cases a with
   |str a=>cases t with
    |nil=>exact a0 h
    |cons b t=>cases t with
     |nil=>rfl
     |cons _ _=>exact a0 h
   |_=>exact a0 h
 |_=>exact a0 h
theorem aaB {G:Prop} {v:aj} {l r:List aj} (h:lY (v::l)=ab r) (k: ∀a b cz,v= .tup [.str a,b]->lY l=ab cz->r=(match a with
  | []=>cz
  |_::_=> .str a::cz)->G):G:=MW (aaD h) λa b e=>by
 rw[e] at h
 have h:(match lY l with
  |some l=>match(generalizing:=false) a with
   | []=>ab l
   |_::_=>ab (.str a::l)
  |none=>af)=ab r:=h
 revert h
 cases cM:lY l with
 |none=>exact λh=>a0 h
 |some cz=>cases a with
  |nil=>exact λh=>k _ b cz e cM (bQ h).symm
  |cons c z=>exact λh=>k _ b cz e cM (bQ h).symm
theorem ahI (r:List aj):eL (r.map .f)=ab r:=by
 induction r with
 |nil=>rfl
 |cons a r ai=>
  show(match eL (r.map .f) with
   |some l=>ab (a::l)
   |none=>af)=_
  rw[ai]
theorem ag6 {G:Prop} {v:ae} {σ:St} {K:Option ae->St->aB} (h:(v8 v σ K).holds) (k: ∀a b,v= .f (.tup [.str a,b])->G):G:=by
 cases v with
 |f v=>exact MW (v:=v) (by
   cases v with
   |tup t=>cases t with
    |nil=>exact h.elim
    |cons a t=>cases a with
     |str a=>cases t with
      |nil=>exact h.elim
      |cons b t=>cases t with
       |nil=>rfl
       |cons _ _=>exact h.elim
     |_=>exact h.elim
   |_=>exact h.elim) λa b e=>k a b (congrArg ae.f e)
 |_=>exact h.elim
theorem aaC {σ:St} {K:List ae->St->Prop} {l:List aj}: ∀{r:List aj} {acc:List ae},lY l=ab r->K (acc++r.map .f) σ->jD v8 (l.map .f) acc σ K:=by
 induction l with
 |nil=>
  intro r acc e h
  rw[<-bQ e,List.map_nil,dj] at h
  exact h
 |cons v l ai=>
  intro r acc e h
  refine aaB e λa b cz ev cM gI=> ?_
  rw[ev]
  rw[gI] at h
  cases a with
  |nil=>exact ai cM h
  |cons c z=>exact⟨rfl,show jD v8 (l.map .f) (acc++ [.f (.str (c::z))]) σ K from ai cM (by rw[bt];exact h)⟩
variable [WP]
section
variable {prog:cP} {w:ba} {A:c2} {E:ah->az->Prop} {s:az} {Γ:bM} {T:bG} {env:dm} {sc:cN} {S:cL} {Kf:bY} {k:Nat}
theorem ag7 {n m:Nat} {e8 iO q9 Ff Fg:er} {h7:Nat} {scope:cN} {base:cu} {L:aR} {cl:List (a7×aR)} (ay:WP.P=w.params) (aS:scope.kind= .function) (aA:fG scope (nm n)=aa) (DD:fG scope (nm m)=aa) (hd:s6 (nm n)=aa) (ne:n≠m):
  TurnOk prog w k S sc env base L (.Tuple [.Name (nm n) e8,.Name (nm m) iO] h7 q9) (.Name (nm n) Ff) [.Name (nm n) Fg] (λC=>jw scope cl C env) v8:=by
 intro Γ A E s T C m₀ v x K xo xp Ev bZ We aw N b0 ar aH h Fp pM
 have fx: ∀{j:Nat},fG scope (nm j)=aa->(jw scope cl C env).kindOf (nm j)=ab .local:=λaA=>SY (env:=env) (beq_iff_eq.mp aA)
 have cls:=Lr (env:=env) (cl:=cl) (C:=C) aS
 refine ag6 h λa b e=> ?_
 rw[e] at h aH
 refine bT (bq.i aH) λd2 vs f=> ?_
 have ci:=N.aY.bE _ _ f.2.1
 refine bT f.2.2.cases λQP QY g=>bT g.2.2.cases λG1 mi g'=> ?_
 rw[g.1,g'.1,g'.2.2.q4] at ci
 rw[f.1]
 show bg _ _ (do xj q9;unpack (.ref d2) (oT [.Name (nm n) e8,.Name (nm m) iO] (jw scope cl C env))) _ _ _
 refine bx (gH (IK aw.2.2 ⟨_,ci,rfl,_,rfl⟩ rfl rfl λfF hs=> ?_))
 have old: ∀b o,s.heap.get? b=ab o->fF.get? b=ab o:=λb o q=>hs b o (ms (oO q)) q
 have aT:aX Γ T {s with heap:=fF}:=N.grow old rfl rfl
 show bg _ _ (do holding [G1] (assign (.Name (nm n) e8) (jw scope cl C env) QP);assignInOrder ((oT [.Name (nm m) iO] (jw scope cl C env)).map (·.2)) [G1]) _ _ _
 refine bx (gj (qb (BO (m:=m₀) (fx aA) (ar.keeps old) (λkF YF YR=> ?_) cls)))
 have bR:aX Γ T {s with heap:=kF,toks:=s.toks+1}:=aT.step (t:=s.toks+1) b0 λb o ag e=> (YR.2 b ag).trans e
 show bg _ _ (do holding [] (assign (.Name (nm m) iO) (jw scope cl C env) G1);pure ()) _ _ _
 refine bx (gj (qb (BO (fx DD) YF (λiG DH YS=>dc (wpAny_tests_one ?_)) cls)))
 have dU:aX Γ T {s with heap:=iG,toks:=s.toks+1+1}:=bR.step (t:=s.toks+1+1) b0 λb o ag e=> (YS.2 b ag).trans e
 have Fq: ∀{s':az} {Q:ah->az->Prop} {nk:ah->az->Prop} {l5:er},s'.heap=iG->Q QP s'->bg (bp prog w) A (dz (.Name (nm n) l5) (jw scope cl C env)) Q nk s':=λ{s' Q nk l5} e q=>
  t7 (BL aS (fx aA) (by rw[e];exact DH) ((if_neg λq=>ne (n7 _ _ q)).trans (if_pos rfl)) q) (jg hd)
 rw[MX rfl]
 refine bx (Fq rfl (bx (gH (gj ?_))))
 have hw:=g.2.1
 refine ak (fQ hw) λt1 e1=> ?_
 rw[e1.1] at hw Fq⊢
 have len:(aK a).length=a.length:=hq ..
 have kN:=e1.2
 rw[gi] at kN
 refine SA (by rw[len];omega) ?_
 have fM:aX Γ T {s with heap:=iG,toks:=s.toks+1+1+1+1}:=dU.toks _
 rw[len]
 cases a with
 |nil=>
  show(if((0:Int) !=0)=aa then _ else _)
  rw[if_neg (by decide)]
  exact pM _ _ _ (.refl T) fM b0 DH h
 |cons c r=>
  rw[if_pos (show((((c::r).length:Nat):Int) !=0)=aa from bne_iff_ne.mpr (Ru (Rt.mpr (w3 _))))]
  exact Fq rfl (Fp T (.f (.str (c::r))) _ _ _ (.refl T) fM b0 DH hw h)
variable (ay:WP.P=w.params) (Ev:dk sc env Γ S) (bb:Top Kf Γ.base S)
include ay Ev
theorem aej {t n m:Nat} {i:X} (fS:bc prog w Γ k S sc env i):et prog w Γ k S sc env (.uu t n m i):=by
 refine .of (λp hp A E s T K Q aw N h q=> ?_) rfl
 have hp:=k1 hp
 have aC:=b2 hp.1
 have sC:=b2 hp.2.2.2.2.1
 have Md:=b2 hp.2.2.2.2.2
 have c:=CN hp.2.2.1
 have ne:n≠m:=λq=>by
  have z:=sC.2
  rw[q,Ba] at z
  exact ck z
 have YQ:xk (.ListComp (jf n (cj (b3 p))) [⟨.Tuple [jf n (h0 (xs (fJ (b3 p)).target)),jf m (aq (xs (fJ (b3 p)).target))] (jq (fJ (b3 p)).target) (fJ (b3 p)).target.pos,((au sc i).e (fJ (b3 p)).iter),[jf n (h0 (fJ (b3 p)).ifs)],0⟩] (jp sc (b3 p)) (b3 p).pos) (ab (.Name (nm t) (ec p).pos)) p.pos.line env=pure aa:=by
  show(pure (env.blockKind== .function&&env.kindOf (nm t)==ab .local&&(ec p).pos.line==(b3 p).pos.line&& !((jp sc (b3 p)).names.any λx=>x.1==nm t&&(x.2== .local||x.2== .cell))):hJ Bool)=pure aa
  rw[Ev.is aC.1,hp.2.1,aC.2,show env.blockKind= .function by unfold Env.blockKind;rw[Ev.fn];rfl]
  rfl
 have hf: ∀s,(s,jv)∈(jp sc (b3 p)).names->(env.cells.lookup s).isSome=aa:=λs hs=>ak (c.lR s hs) λm hm=>absurd hm.1 eG
 show bg _ _ (qe (.Assign [.Name (nm t) (ec p).pos] (.ListComp (jf n (cj (b3 p))) [⟨.Tuple [jf n (h0 (xs (fJ (b3 p)).target)),jf m (aq (xs (fJ (b3 p)).target))] (jq (fJ (b3 p)).target) (fJ (b3 p)).target.pos,(au sc i).e (fJ (b3 p)).iter,[jf n (h0 (fJ (b3 p)).ifs)],0⟩] (jp sc (b3 p)) (b3 p).pos) p.pos) env) _ _ _
 rw[exec_Assign_Name_used _ _ _ _ YQ]
 refine bx (gH (bx (bx (h3 (CO (b:=v8) (use:=ab (assign (.Name (nm t) (ec p).pos) env)) (Q:=λ_ s'=>Q .next s') Ev aw (λ_=>E4 Md.1) (CJ hf) c (ag7 ay c.kind c.loc hp.2.2.2.1 sC.1 ne)
  (fS.cX _ Md.2 aw N h λbS v av bk bi aT bl h=>ak (dp h) λl h=>ak h.2 λr h'=> ?_)) (λ_ s' dC=>dc (dc dC)) λ_ _ e=>e))))
 rw[xC h.1] at bl
 refine c5 (bq.i bl) λa vs aU f=> ?_
 rw[f.1]
 refine BN ⟨_,aT.aY.bE _ _ f.2.1,rfl,aU,rfl⟩ ⟨bS,_,_,l.map .f,_,λas σ=>as=r.map .f/\(stK σ t (.f (.lst r)) (K .aQ)).holds,rfl,aT.push _,aT.fresh,ju _ rfl,y5 _ a aU vs l,⟨0,rfl,rfl,rfl,f.2.1,f.2.2.to⟩,λrD nk s' oV cz ef g8 lq j6 g q=>ak j6 λj j6=> ?_,λrD nk s' oV g q=>Ta (l:=a) (i:=0) ⟨_,g,rfl,rfl⟩ q,by rw[ed];exact pS h'.2.1,aaC h'.1 ⟨rfl,h'.2.2⟩,
  λD C vD a4 s' ws fy as q1 be cR iB jY u1 mJ al le cg=>c5 mJ λO7 es ep mJ=> ?_⟩
 ·cases lq with
  |ref y=>exact wpAny_letOwnedTupleGo_listiter ⟨_,g,j6.1,j6.2.1⟩ q
  |_=>exact dc q
 ·rw[cg.1] at al
  have bR:=cR.fast (a:=D) u1 iB.bE iB.fr iB.L iB.cell
  have B2:Apart Γ ⟨a4.aP.ins D (lobj ws fy),a4.ax,a4.σ⟩ C:=⟨(bh.f9 _ _ (iY vD)).trans jY.bE,jY.fr,jY.L,jY.cell⟩
  exact qb (pU (K:=K .aQ) (Γ:=Γ.hold C O7) (Ev.hold B2.fr) aC.1 (bR.1.hold B2 mJ.1) (v:= .f (.lst r)) (bq.lst (bh.gb _ _ _) (nd (R:=bq _) al (λv x h=>bq.mono bR.2.bE h.1) (ahI r)).lR) cg.2 λkY iR g6 fM h=>
   have gQ:=fM.loose B2.fr
   ⟨q1,⟨O7,es,ep,gQ.2.2,mJ.2⟩,λh' hs=>q.aQ _ _ (((bi.trans be).trans bR.2).trans g6) (gQ.1.step (t:=iR.toks) gQ.2.1 λb o ag e=> (hs.2 b ag).trans e) h⟩)
end
end
section
variable [WP]
section
variable {prog:cP} {w:ba} {S:cL} {Kf:bY} {k:Nat} {base:cu}
theorem agl {x:X} {Γ:bM} {env:dm} {sc:cN} (h:au sc x= .no):bc prog w Γ k S sc env x:=
 .of (λp hp=>ck (by rw[h] at hp;exact hp)) (λp hp=>ck (by rw[h] at hp;exact hp)) (by rw[h];rfl) (by rw[h];rfl)
variable (ay:WP.P=w.params) (bb:Top Kf base S) (F:iy prog w Kf S base k)
include ay bb F
theorem FF (x:X): ∀(Γ:bM) (env:dm) (sc:cN),Γ.base=base->dk sc env Γ S->bc prog w Γ k S sc env x:=by
 induction x with
 |cq=>intro Γ env sc e Ev;exact aga ay
 |bF b=>intro Γ env sc e Ev;exact af7 ay b
 |a5 i=>intro Γ env sc e Ev;exact af9 ay i
 |ks s=>intro Γ env sc e Ev;exact agb ay s
 |lo n=>intro Γ env sc e Ev;exact agf ay Ev n
 |gl n=>intro Γ env sc e Ev;cases e;exact af0 ay Ev bb n
 |«at» o n dM=>intro Γ env sc e Ev;cases e;exact afL ay bb (dM _ _ _ rfl Ev)
 |cn o i dM fS=>intro Γ env sc e Ev;exact af5 ay (dM _ _ _ e Ev) (fS _ _ _ e Ev)
 |aK o a b dM br cV=>intro Γ env sc e Ev;exact agq ay (dM _ _ _ e Ev) (br _ _ _ e Ev) (cV _ _ _ e Ev)
 |no=>intro Γ env sc e Ev;exact agk ay
 |bin op a b br cV=>intro Γ env sc e Ev;exact afM ay (br _ _ _ e Ev) (cV _ _ _ e Ev)
 |cmp op a b br cV=>intro Γ env sc e Ev;exact afR ay (br _ _ _ e Ev) (cV _ _ _ e Ev)
 |fw hS iN a b c br cV iH=>intro Γ env sc e Ev;exact afS ay (br _ _ _ e Ev) (cV _ _ _ e Ev) (iH _ _ _ e Ev)
 |and l gX=>intro Γ env sc e Ev;exact snd_and ay (gX _ _ _ e Ev)
 |or l gX=>intro Γ env sc e Ev;exact agn ay (gX _ _ _ e Ev)
 |not a br=>intro Γ env sc e Ev;exact agm ay (br _ _ _ e Ev)
 |neg a br=>intro Γ env sc e Ev;exact agj ay (br _ _ _ e Ev)
 |j8 c a b iH br cV=>intro Γ env sc e Ev;exact af1 ay (iH _ _ _ e Ev) (br _ _ _ e Ev) (cV _ _ _ e Ev)
 |tup l gX=>intro Γ env sc e Ev;exact agu ay (gX _ _ _ e Ev)
 |lst l gX=>intro Γ env sc e Ev;exact agg ay (gX _ _ _ e Ev)
 |cell x l gX=>intro Γ env sc e Ev;cases e;exact afP ay bb (gX _ _ _ rfl Ev)
 |o7 x=>intro Γ env sc e Ev;cases e;exact afO ay bb
 |call f args kws sJ br iJ=>intro Γ env sc e Ev;cases e;exact afN ay bb F (sJ _ _ _ rfl Ev) (br _ _ _ rfl Ev) (iJ _ _ _ rfl Ev)
 |aG o n args kws dM br iJ=>intro Γ env sc e Ev;cases e;exact agh ay bb F (dM _ _ _ rfl Ev) (br _ _ _ rfl Ev) (iJ _ _ _ rfl Ev)
 |mb c f args br=>intro Γ env sc e Ev;exact agl rfl
 |len a br=>intro Γ env sc e Ev;cases e;exact age ay Ev bb (br _ _ _ rfl Ev)
 |gy a c br iH=>intro Γ env sc e Ev;cases e;exact af3 ay Ev bb (br _ _ _ rfl Ev) (iH _ _ _ rfl Ev)
 |vk a br=>intro Γ env sc e Ev;cases e;exact af4 ay Ev bb (br _ _ _ rfl Ev)
 |rm a br=>intro Γ env sc e Ev;cases e;exact ags ay Ev bb (br _ _ _ rfl Ev)
 |sP a br=>intro Γ env sc e Ev;cases e;exact af2 ay Ev bb (br _ _ _ rfl Ev)
 |tk a br=>intro Γ env sc e Ev;cases e;exact agr ay Ev bb (br _ _ _ rfl Ev)
 |mY a b br cV=>intro Γ env sc e Ev;cases e;exact agi ay Ev bb (br _ _ _ rfl Ev) (cV _ _ _ rfl Ev)
 |clo n=>intro Γ env sc e Ev;exact afQ ay Ev n
 |fmt j a br=>intro Γ env sc e Ev;exact afY ay (br _ _ _ e Ev)
 |uY n m=>intro Γ env sc e Ev;exact afX ay Ev
 |cF o a dM br=>intro Γ env sc e Ev;exact afK ay (dM _ _ _ e Ev) (br _ _ _ e Ev)
 |ext o a dM br=>intro Γ env sc e Ev;exact afW ay (dM _ _ _ e Ev) (br _ _ _ e Ev)
 |rd o dM=>intro Γ env sc e Ev;exact ago ay (dM _ _ _ e Ev)
 |rf o dM=>intro Γ env sc e Ev;exact agp ay (dM _ _ _ e Ev)
 |join s l is gX=>intro Γ env sc e Ev;exact af6 ay (is _ _ _ e Ev) (gX _ _ _ e Ev)
 |tm a b br cV=>intro Γ env sc e Ev;exact agt ay (br _ _ _ e Ev) (cV _ _ _ e Ev)
 |uJ o dM=>intro Γ env sc e Ev;cases e;exact afT ay bb (dM _ _ _ rfl Ev)
 |uK x o dM=>intro Γ env sc e Ev;cases e;exact afU ay bb (dM _ _ _ rfl Ev)
 |pf a br=>intro Γ env sc e Ev;exact afZ ay (br _ _ _ e Ev)
 |uT a b br cV=>intro Γ env sc e Ev;exact afV ay (br _ _ _ e Ev) (cV _ _ _ e Ev)
 |hB x n fr e i nZ fS=>intro Γ env sc bZ Ev;exact agc ay Ev (fS _ _ _ bZ Ev) λdX j4 rk js C8=>nZ _ _ _ (C8.trans bZ) js
 |vr n fr e i nZ fS=>intro Γ env sc bZ Ev;subst bZ;exact agd ay Ev bb (fS _ _ _ rfl Ev) λdX j4 rk js C8=>nZ _ _ _ C8 js
 |nil=>intro Γ env sc e Ev;exact z4 ay
 |cons a r br hz=>intro Γ env sc e Ev;exact z3 ay (br _ _ _ e Ev) (hz _ _ _ e Ev)
 |eZ n a r br hz=>intro Γ env sc e Ev;exact af8 ay (br _ _ _ e Ev) (hz _ _ _ e Ev)
theorem FE (b:Q7.S): ∀(Γ:bM) (env:dm) (sc:cN),Γ.base=base->dk sc env Γ S->et prog w Γ k S sc env b:=by
 have X:=λx=>FF (prog:=prog) (w:=w) (S:=S) (Kf:=Kf) (k:=k) (base:=base) ay bb F x
 induction b with
 |exp x=>intro Γ env sc e Ev;exact aer Ev (X x _ _ _ e Ev)
 |aN n x=>intro Γ env sc e Ev;exact aei Ev (X x _ _ _ e Ev)
 |jB ns x=>intro Γ env sc e Ev;exact aeh Ev (X x _ _ _ e Ev)
 |a9 o n x=>intro Γ env sc e Ev;cases e;exact aef Ev bb (X o _ _ _ rfl Ev) (X x _ _ _ rfl Ev)
 |qp o i x=>intro Γ env sc e Ev;exact aeg ay (X o _ _ _ e Ev) (X i _ _ _ e Ev) (X x _ _ _ e Ev)
 |ast ns x=>intro Γ env sc e Ev;exact ael Ev (X x _ _ _ e Ev)
 |se n x=>intro Γ env sc e Ev;exact aen Ev (X x _ _ _ e Ev)
 |gS n op x=>intro Γ env sc e Ev;exact aeo Ev (X x _ _ _ e Ev)
 |kz o n op x=>intro Γ env sc e Ev;cases e;exact aem Ev bb (X o _ _ _ rfl Ev) (X x _ _ _ rfl Ev)
 |ite c b o cV dM=>intro Γ env sc e Ev;exact aew (X c _ _ _ e Ev) (cV _ _ _ e Ev) (dM _ _ _ e Ev)
 |eR c b cV=>intro Γ env sc e Ev;exact aeD (X c _ _ _ e Ev) (cV _ _ _ e Ev)
 |fr n x b cV=>intro Γ env sc e Ev;exact aes ay Ev (X x _ _ _ e Ev) λdX js bZ=>cV _ _ _ (bZ.trans e) js
 |qI n x b cV=>intro Γ env sc e Ev;cases e;exact aev ay Ev bb (X x _ _ _ rfl Ev) λdX js bZ=>cV _ _ _ bZ js
 |sy n m x b cV=>intro Γ env sc e Ev;cases e;exact aet ay Ev bb (X x _ _ _ rfl Ev) λdX js bZ=>cV _ _ _ bZ js
 |u0 n x b cV=>intro Γ env sc e Ev;cases e;exact aeu ay Ev bb (X x _ _ _ rfl Ev) λdX js bZ=>cV _ _ _ bZ js
 |ret x=>intro Γ env sc e Ev;exact aez (X x _ _ _ e Ev)
 |rh=>intro Γ env sc e Ev;exact aeA
 |ta=>intro Γ env sc e Ev;exact aey
 |brk=>intro Γ env sc e Ev;exact aep
 |bK=>intro Γ env sc e Ev;exact aeB
 |«try» b cV=>intro Γ env sc e Ev;exact aeC (cV _ _ _ e Ev)
 |sb x=>intro Γ env sc e Ev;exact aek (X x _ _ _ e Ev)
 |uu n a m i=>intro Γ env sc e Ev;exact aej ay Ev (X i _ _ _ e Ev)
 |nil=>intro Γ env sc e Ev;exact aex
 |cons a r br hz=>intro Γ env sc e Ev;exact aeq (br _ _ _ e Ev) (hz _ _ _ e Ev)
end
end
section
theorem UH {σ:St} {v:ae} {c:Nat} {G:Prop} {i:Nat×List Nat×List ae} (h:(aY σ v).bind xA=ab i) (aD:bA i.1 c=aa) (k: ∀x,v= .ap x->σ.g x=ab (.inst c i.2.1 i.2.2)->G):G:=by
 cases v with
 |ap x=>
  have h:(σ.g x).bind xA=ab i:=h
  cases e:σ.g x with
  |none=>rw[e] at h;exact a0 h
  |some ao=>
   rw[e] at h
   cases ao with
   |inst d ns l=>
    have h:(d,ns,l)=i:=bQ h
    rw[<-h] at aD
    exact k x rfl (by rw[<-h,<-fg aD];exact e)
   |_=>exact a0 h
 |_=>exact a0 h
theorem Lm {Kf:bY} {D:aR} {cd:ClassData} (h:my Kf D=ab cd): ∃o,Kf.lookup D=ab o/\o.data= .cls cd:=by
 unfold my at h
 revert h
 cases Kf.lookup D with
 |none=>exact a0
 |some o=>cases o with|mk a b c d=>cases c with
  |cls cd=>exact λh=> ⟨_,rfl,congrArg Data.cls (bQ h)⟩
  |_=>exact a0
variable [WP]
structure IX (prog:cP) (K:bY) (base:cu) (c f:Nat) (fd:jV) (args:List iz):Prop where
 hd: ∃f5 r,args=f5::r/\f5.arg=nm 37
 hk:fd.scope.names.lookup (cE "super")=ab .globalImplicit
 au:fd.scope.names.lookup (cE "__class__")=ab .free
 cd: ∃qw zE vs file cJ,fd.code= .ref qw/\base.get? qw=ab zE/\zE.data= .fields vs/\vs[2]? =ab (.str file cJ)/\((prog.main.file:a7)==file)=aa
 top:(prog.main.scope.names.lookup (cE "super")).isSome=ac
 cl: ∃hb o D xZ,fd.closure.lookup (cE "__class__")=ab hb/\base.get? hb=ab o/\o.data= .cell (ab (.ref D))/\my K D=ab xZ/\mroIn K c (.ref D)=ab aa/\
  ∃cd,my K c=ab cd/\alongIn K "__init__" ((cd.mro.dropWhile (· != .ref D)).drop 1)=ab (ab (.ref f))
 fn:oS K (.ref f)=ab (.type "function")
 op:nsIn K xe "thirdparty.any" =ab af
structure IW (prog:cP) (K:bY) (base:cu) (c f:Nat) (fd:jV) (args:List iz) (xs:X) (r:Q7.S) (c7 e8 iO b0 pos:er) (as:List Expr) (rest:List cy):Prop where
 D:IX prog K base c f fd args
 loc:fG fd.scope (nm 37)=aa
 l:(Q7.au fd.scope xs).l as=aa
 line:(b0.endLine==pos.line)=aa
 qG:qG ((Q7.au fd.scope xs).dw as) []=aa
 b:(dH fd.scope r).b rest=aa
abbrev Qj (sc:cN) (xs:X) (c7 e8 b0 pos:er) (as:List Expr):Expr:= .Call (.Attribute (.Call (.Name (cE "super") c7) [] [] e8) (cE "__init__") b0) ((au sc xs).dw as) [] pos
structure tJ (prog:cP) (K:bY) (base:cu) (a:Nat) (p:List Nat×List (Nat×aj)) (c f:Nat) (xs:X) (r:Q7.S):Prop where
 bX:p.1.Nodup
 fd: ∃o fd args dflt fx items c7 e8 iO b0 pos as rest,oF base a p o fd args dflt fx (.Expr (Qj fd.scope xs c7 e8 b0 pos as) iO::(dH fd.scope r).bZ rest) items/\IW prog K base c f fd args xs r c7 e8 iO b0 pos as rest
section
variable {prog:cP} {w:ba} {A:c2} {E:ah->az->Prop} {s:az} {Γ:bM} {T:bG} {S:cL} {Kf:bY} {k:Nat}
theorem agI (ay:WP.P=w.params) (bb:Top Kf Γ.base S) (F:iy prog w Kf S Γ.base k) {fd:jV} {a:aR} {p:List Nat×List (Nat×aj)} {body bd:List cy} {args:List iz} {c f:Nat} {dflt:List Expr} {fx:List (Option Expr)} {o:bW} {items:List ah} {xs:X} {r:Q7.S} {c7 e8 iO b0 pos:er} {as:List Expr} {rest:List cy}
  (rJ:oF Γ.base a p o fd args dflt fx bd items) (B:IW prog Kf Γ.base c f fd args xs r c7 e8 iO b0 pos as rest)
  (Ev:dk fd.scope (jW fd Γ.L a) Γ S) (aw:fq A k) (N:aX Γ T s) {K:ae->St->aB} {Q:ah->az->Prop} (h:((ev S (.mb c f xs)).x T.σ K).holds) (q:fv Γ T K Q):
  _root_.PySem.wpAt (bp prog w) A (.func body (jW fd Γ.L a)) (dz (Qj fd.scope xs c7 e8 b0 pos as) (jW fd Γ.L a)) Q E s:=by
 have X:=N.gY bb.toKnown
 have br:=FF (prog:=prog) (w:=w) ay bb F xs Γ (jW fd Γ.L a) fd.scope rfl Ev
 have iJ:=z4 (prog:=prog) (w:=w) (Γ:=Γ) (k:=k) (S:=S) (sc:=fd.scope) (env:=jW fd Γ.L a) ay
 refine bT B.D.hd λf5 rs H=>wt B.D.cd λqw zE vs file cJ C=>
  nh B.D.cl λhb aiV D xZ Z=>ak Z.2.2.2.2.2 λcd B1=>
  ak (dp h) λv h=>ak (dp h.2) λi aC=>UH aC.1 (gq aC.2).1 λx aW cI=> ?_
 have bz:=(gq aC.2).2
 have aH:=h.1
 rw[aW] at bz aH
 refine ak N.lo.ns λEJ ar=>ak (ar.2 37 _ aH) λAD hm=>bT (yX N cI) λes n i=>bT (bb.dd (cE "super",.type "super") (List.elem_iff.mp rfl)) λl0 n6 b=> ?_
 have io:(jW fd Γ.L a).kindOf (cE "super")=ab .globalImplicit:=B.D.hk
 have M8:(jW fd Γ.L a).kindOf (cE "__class__")=ab .free:=B.D.au
 have ZM:(jW fd Γ.L a).kindOf f5.arg=ab .local:=by rw[H.2];exact beq_iff_eq.mp B.loc
 have U:=hm.2.1
 have aif:AD= .ref (T.ax (2*x)):=hm.2.2
 have hm:=hm.1
 rw[aif] at hm
 refine ak (Lm Z.2.2.2.1) λaiT dI=> ?_
 have Me:=X _ _ dI.1
 show _root_.PySem.wpAt _ _ _ (dz (.Call _ _ _ _) _) _ _ _
 rw[arm_eval_Call]
 refine _root_.PySem.wpAt_bind (ks_wpAt_super_base (f:=a) io M8 (by decide) rfl (N.keeps _ _ rJ.at_) rJ.data (by rw[rJ.ra,H.1];rfl) C.1 (N.keeps _ _ C.2.1) C.2.2.1 C.2.2.2.1 C.2.2.2.2 B.D.top ?_)
 refine Iu rJ.kind io (H4 (by rw[Ev.i7];exact b.1.keeps N.keeps) b.2.1 (by rw[Ev.blt];exact b.2.2.1.keeps N.keeps) b.2.2.2 ⟨rfl, ?_⟩)
 refine wpAny_loadName_free rJ.kind M8 Z.1 ⟨_,N.keeps _ _ Z.2.1,Z.2.2.1⟩ ?_
 rw[H.2]
 refine BL rJ.kind (by rw[<-H.2];exact ZM) ar.1 hm ?_
 refine ks_wpAny_isType_cls Me dI.2 ⟨rfl, ?_⟩
 refine ks_wpAny_call_super Me dI.2 i.I.1 rfl (λc e=>H7 e) (looks_mroIn X Z.2.2.2.2.1) λh' agv Nc=> ?_
 refine _root_.PySem.wpAt_of_wpAny (bx (gH ?_))
 have aT:aX Γ T {s with heap:=h'}:=N.grow Nc rfl rfl
 have xu:Kf.In h':=λa o e=>Nc _ _ (X a o e)
 have mp:BF aa (.Call (.Name (cE "super") c7) [] [] e8) (jW fd Γ.L a) b0 pos=pure pos:=by unfold BF;rw[B.line];rfl
 unfold methodCall
 rw[show IC (((au fd.scope xs).dw as).length+([]:List mv).length) (iZ pos (h2 ((au fd.scope xs).dw as) (jW fd Γ.L a))) (mz pos (mA [] (jW fd Γ.L a)))=aa from LS (args:=xs) (kws:= .nil) (br.st as pos B.l) (iJ.hk [] pos rfl) B.qG,mp]
 refine bx (gj ?_)
 refine ak (Lm B1.1) λaiU aD=> ?_
 have yQ: ∃of,h'.get? f=ab of/\of.cls= .type "function" :=by
  have t:(Kf.lookup f).map (·.cls)=ab (.type "function"):=B.D.fn
  exact ak (p9.mp t) λof z=> ⟨of,xu _ _ z.1,z.2⟩
 refine ak yQ λof yQ=>ks_wpAny_getMethod_super agv (looks_opaque xu B.D.op) (l₀:=cd.mro) (λA Q E s k q=>bx ((looks_clsIn xu B1.1) A _ E s k (dc q))) rfl xu B1.2 yQ.1 yQ.2 (λe=> ?_) (by decide) ?_
 ·have g:=X _ _ aD.1
  rw[<-e,i.I.1] at g
  rw[<-bQ g] at aD
  exact H7 aD.2
 ·have bR:=aT.vO (w9 (.ref f) (.ref (T.ax (2*x)))) rfl
  exact bx (dc (xY (f:= .dy x f) (pre:= []) (kws:= .nil) (ks:= []) br iJ bb F B.l rfl aw (bR.1.toks _) ⟨bR.2.dN _ U,_,rfl,bh.gb _ _ _⟩ .nil (λ_ _ _ h=>h) bz (q.ex bR.2)))
end
section
variable {prog:cP} {w:ba} {S fD:cL} {Kf:bY} {k:Nat} {base:cu}
theorem Xr {a:Nat} {ex:List Nat} {c f:Nat} {xs:X} {r:Q7.S} {p:List Nat×List (Nat×aj)} {pt:a3} (D:tJ prog Kf base a p c f xs r) (ay:WP.P=w.params) (bb:Top Kf base S) (F:iy prog w Kf S base k) (aD:S.clo= []) (nX:aL a fD.a8=ab p) (nY:aL a fD.pt=ab pt) (mR: ∀full hp K,pt full hp K->bH S p.1 ex (.cons (.exp (.mb c f xs)) r) full hp K):
  lB prog w fD base (k+1) a:=by
 intro q8 zO e1 e2
 cases bQ (nX.symm.trans e1)
 cases bQ (nY.symm.trans e2)
 intro A s aP Fr ax hp pos vs kw kvs full K R aw C ag aW aS hy i8 g1 g2 h back
 have keep: ∀b o,base.get? b=ab o->s.heap.get? b=ab o:=λb o e=>C.bE b o (ag b o e)
 refine aih D.fd λo fd args dflt fx items c7 e8 iO b0 pos as rest g8=> ?_
 have G:=g8.1
 have Ev:dk fd.scope (jW fd s.heap.objs.size a) ⟨Fr,s.heap.objs.size,base,s.gens,s.os,λ_=>af⟩ S:=⟨rfl,G.kind,rfl,G.i7,G.blt,λn v e=>by rw[aD] at e;exact a0 e⟩
 exact ak (G.binds D.bX (s:=s) keep (λx v q=>bq.mono ag q) aW aS hy i8) λbI uD=>ks_codeAny_call_defAt aw.room (keep _ _ G.at_) G.data (bb.lim.keeps keep) (G.code.keeps keep) G.jC uD.2 G.zx G.locs (λh₀ vb DC=>
  ks_wpAt_execs_cons (ks_wpAt_Expr_any (agI ay bb F G g8.2 Ev aw.body (aX.begin (ex:=ex) C ag uD.1 D.bX vb DC) (mR full hp K h) λbS v av bk bi aT bl h=>
   _root_.PySem.wpAt_of_wpAny ((FE (prog:=prog) (w:=w) ay bb F r _ (jW fd s.heap.objs.size a) fd.scope rfl Ev).b rest g8.2.b aw.body aT h λa4 g f s' x cR hf cg=>by cases f<;>exact Ny cR (bi.trans x) cg back hf)) (OX Ev) rfl)) G.cB G.gen G.kind
end
end
noncomputable def jm:List (Nat×aj):= [(20,(.st 53)),(21,(.st 834)),(74,(.st 2029)),(100,(.st 799)),(112,(.st 1121)),(126,(.st 2050)),(127,(.st 2062)),(128,(.st 2069)),(139,(.st 260)),(140,(.st 1083)),(143,(.st 2057)),(161,(.st 1102)),(164,(.st 280)),(165,(.st 1141)),(166,(.lst [(.str [97]),(.str [10]),(.str [32,98]),(.str [99,32,100]),(.str [10,10]),(.str [45,45,45]),(.str [32,32,32,101]),(.str [35]),(.str [10]),(.str [102,58,32,103]),(.str [46,46,46]),(.str [124]),(.str [8232]),(.str [233])])),(183,(.st 2039)),(184,(.lst [.none,.none,(.ei [[33,101,33]] [(.str [33,120])]),(.ei [[33],[33,101,33]] [(.str [33,121]),(.str [116])]),(.ei [[33,101,33]] [(.str [33,120])])])),(197,(.st 1176)),(206,(.st 876)),(208,(.st 359)),(209,(.st 208)),(210,(.st 932)),(221,(.st 1052)),(237,(.st 248)),(238,(.st 900)),(240,(.st 196)),(241,(.st 920)),(253,(.st 316)),(259,(.st 176)),(260,(.st 228)),(261,(.st 888)),(262,(.st 292)),(286,(.st 164))]
noncomputable def jl:List (Nat×List (Nat×At)):= [(53,[(30,.no),(33,.no),(55,.no),(79,.no),(82,.no),(109,.no),(113,.fn 35)]),
 (196,[(113,.fn 193),(116,.no),(117,.no),(158,.no)]),
 (208,[(113,.fn 112),(117,.no),(158,.no)]),
 (228,[(39,.no),(110,.no),(113,.fn 225),(117,.no),(118,.no),(158,.no)]),
 (248,[(113,.fn 245),(117,.no),(118,.no),(158,.no)]),
 (280,[(19,.no),(68,.no),(71,.no),(76,.no),(113,.fn 277),(117,.no),(120,.no),(158,.no)]),
 (359,[(49,.no),(92,.no),(113,.fn 356),(138,.no),(167,.no),(242,.no),(254,.no),(278,.no),(279,.no)]),
 (799,[(25,.fn 393),(30,.no),(50,.no),(67,.no),(68,.no),(82,.no),(84,.no),(88,.no),(96,.no),(97,.no),(107,.no),(113,.fn 379),(114,.no),(116,.no),(129,.no),(136,.no),(144,.no),(145,.no),(151,.no),(160,.no),(168,.no),(172,.fn 466),(175,.fn 407),(177,.fn 636),(186,.fn 699),(187,.no),(188,.no),(190,.no),(193,.fn 781),(194,.fn 728),(198,.no),(200,.fn 480),(205,.fn 788),(211,.fn 692),(212,.fn 429),(215,.fn 629),(216,.fn 650),(224,.no),(229,.fn 415),(230,.no),(232,.fn 657),(233,.no),(236,.fn 721),(247,.fn 400),(250,.no),(251,.fn 736),(252,.fn 713),(269,.fn 664),(270,.fn 671),(273,.no),(276,.fn 706),(280,.fn 643),(281,.fn 451),(282,.fn 422),(285,.fn 750),(287,.val (.ei [[33],[116,97,103,58,121,97,109,108,46,111,114,103,44,50,48,48,50,58]] [(.str [33]),(.str [33,33])])),(290,.fn 615),(291,.fn 458),(296,.fn 774),(297,.fn 444),(304,.fn 743),(315,.fn 436)]),
 (834,[(36,.no),(41,.fn 831),(73,.fn 824),(113,.fn 817)]),
 (876,[(7,.val (.str [60,100,105,114,101,99,116,105,118,101,62])),(33,.no),(71,.no),(113,.fn 873),(117,.no),(158,.no)]),
 (888,[(7,.val (.str [60,100,111,99,117,109,101,110,116,32,115,116,97,114,116,62])),(113,.fn 852),(117,.no),(158,.no)]),
 (900,[(7,.val (.str [60,100,111,99,117,109,101,110,116,32,101,110,100,62])),(113,.fn 852),(117,.no),(158,.no)]),
 (920,[(7,.val (.str [60,115,116,114,101,97,109,32,115,116,97,114,116,62])),(113,.fn 917),(116,.no),(117,.no),(158,.no)]),
 (932,[(7,.val (.str [60,115,116,114,101,97,109,32,101,110,100,62])),(113,.fn 852),(117,.no),(158,.no)]),
 (1141,[(7,.val (.str [60,115,99,97,108,97,114,62])),(63,.no),(68,.no),(71,.no),(113,.fn 1138),(117,.no),(158,.no)]),
 (2029,[(10,.no),(24,.no),(30,.no),(33,.no),(34,.fn 1198),(55,.no),(60,.no),(67,.no),(79,.no),(82,.no),(88,.no),(91,.fn 1206),(96,.no),(97,.no),(98,.no),(99,.fn 1235),(104,.fn 1214),(107,.no),(109,.no),(113,.fn 1820),(116,.no),(119,.fn 1221),(133,.fn 1841),(134,.fn 1314),(145,.no),(152,.fn 1912),(153,.fn 1834),(154,.fn 1307),(155,.no),(156,.no),(170,.fn 1300),(179,.no),(180,.val (.ei [[33],[33,33]] [(.str [33]),(.str [116,97,103,58,121,97,109,108,46,111,114,103,44,50,48,48,50,58])])),(185,.fn 1517),(189,.fn 1772),(191,.no),(195,.no),(199,.no),(201,.fn 1510),(204,.fn 1363),(217,.fn 1615),(218,.no),(225,.fn 1559),(226,.fn 1228),(227,.fn 1391),(234,.fn 1786),(235,.fn 1765),(243,.no),(245,.fn 1384),(248,.fn 1321),(249,.fn 1890),(256,.fn 1328),(258,.fn 1685),(263,.fn 1573),(264,.fn 1524),(265,.fn 1405),(266,.fn 1377),(267,.fn 1869),(268,.fn 1848),(271,.fn 1883),(272,.fn 1608),(284,.fn 1622),(289,.fn 1566),(292,.fn 1398),(293,.fn 1862),(294,.no),(301,.fn 1876),(305,.fn 1412),(306,.fn 1335),(307,.fn 1713),(308,.fn 1643),(309,.fn 1650),(310,.fn 1657),(311,.fn 1629),(312,.fn 1356),(313,.fn 1636),(314,.fn 1342),(316,.fn 1664),(317,.fn 1692),(318,.fn 1855),(319,.fn 1706),(320,.fn 1699)])]
noncomputable def ma:List (Nat×List (Nat×Bool)):= [(196,[(260,ac),(176,ac),(164,ac),(248,ac),(228,ac),(316,ac),(280,ac),(292,ac),(208,ac),(196,aa)]),
 (208,[(260,ac),(176,ac),(164,ac),(248,ac),(228,ac),(316,ac),(280,ac),(292,ac),(208,aa),(196,ac)]),
 (228,[(260,ac),(176,ac),(164,ac),(248,ac),(228,aa),(316,ac),(280,ac),(292,ac),(208,ac),(196,ac)]),
 (248,[(260,ac),(176,ac),(164,ac),(248,aa),(228,ac),(316,ac),(280,ac),(292,ac),(208,ac),(196,ac)]),
 (280,[(260,ac),(176,ac),(164,ac),(248,ac),(228,ac),(316,ac),(280,aa),(292,ac),(208,ac),(196,ac)])]
noncomputable def oj:List (Nat×List (Nat×aj)):= [(1083,[(7,(.str [60,97,108,105,97,115,62]))]),(1102,[(7,(.str [60,97,110,99,104,111,114,62]))]),(1052,[(7,(.str [45]))]),(956,[(7,(.str [60,98,108,111,99,107,32,109,97,112,112,105,110,103,32,115,116,97,114,116,62]))]),(944,[(7,(.str [60,98,108,111,99,107,32,115,101,113,117,101,110,99,101,32,115,116,97,114,116,62]))]),(876,[(7,(.str [60,100,105,114,101,99,116,105,118,101,62]))]),(900,[(7,(.str [60,100,111,99,117,109,101,110,116,32,101,110,100,62]))]),(888,[(7,(.str [60,100,111,99,117,109,101,110,116,32,115,116,97,114,116,62]))]),(992,[(7,(.str [123]))]),(980,[(7,(.str [91]))]),(1141,[(7,(.str [60,115,99,97,108,97,114,62]))]),(932,[(7,(.str [60,115,116,114,101,97,109,32,101,110,100,62]))]),(1121,[(7,(.str [60,116,97,103,62]))])]
noncomputable def gC:List (Nat×(List Nat×List (Nat×aj))):= [(35,([37,33,55,30,82,79,109],[])),
 (112,([37,158,117],[(158,.none),(117,.none)])),
 (193,([37,158,117,116],[(158,.none),(117,.none),(116,.none)])),
 (225,([37,158,117,118,110,39],[(158,.none),(117,.none),(118,.none),(110,.none),(39,.none)])),
 (245,([37,158,117,118],[(158,.none),(117,.none),(118,.none)])),
 (277,([37,76,19,120,71,158,117,68],[(158,.none),(117,.none),(68,.none)])),
 (356,([37,92,49,138,242,254,279,278,167],[])),
 (379,([37,97,129,88,72,198,148],[(129,.none),(88,.none),(72,.none),(198,.none),(148,.none)])),
 (393,([37,50],[])),
 (400,([37],[])),
 (407,([37,48],[])),
 (415,([37,26,146],[(26,(.bool ac)),(146,(.bool ac))])),
 (422,([37],[])),
 (436,([37],[])),
 (444,([37,51],[(51,(.bool ac))])),
 (451,([37],[])),
 (458,([37],[])),
 (466,([37,35,121,108,157],[(35,(.bool ac)),(121,(.bool ac)),(108,(.bool ac)),(157,(.bool ac))])),
 (480,([37],[])),
 (615,([37],[])),
 (629,([37,137],[])),
 (636,([37],[])),
 (643,([37],[])),
 (650,([37],[])),
 (657,([37,110],[])),
 (664,([37,87],[])),
 (671,([37,91],[])),
 (692,([37,92],[])),
 (699,([37],[])),
 (706,([37],[])),
 (713,([37],[])),
 (721,([37,137,231,160,136],[(160,(.bool ac)),(136,(.bool ac))])),
 (728,([37],[])),
 (736,([37,23],[(23,.none)])),
 (743,([37,192],[])),
 (750,([37,173,176],[])),
 (774,([37,41],[])),
 (781,([37,41],[])),
 (788,([37,41],[])),
 (817,([37],[])),
 (824,([37,23],[])),
 (831,([37],[])),
 (852,([37,158,117],[])),
 (873,([37,33,71,158,117],[])),
 (917,([37,158,117,116],[(158,.none),(117,.none),(116,.none)])),
 (1138,([37,71,63,158,117,68],[(68,.none)])),
 (1176,([6],[])),
 (1190,([37,97],[])),
 (1198,([37,55],[(55,(.int 0))])),
 (1206,([37,89],[(89,(.int 1))])),
 (1214,([37,89],[(89,(.int 1))])),
 (1221,([37],[])),
 (1228,([37,23],[])),
 (1235,([37,89],[])),
 (1291,([37,97],[])),
 (1300,([37,102],[(102,(.tup []))])),
 (1307,([37],[])),
 (1314,([37],[])),
 (1321,([37],[])),
 (1328,([37],[])),
 (1335,([37],[])),
 (1342,([37],[])),
 (1356,([37],[])),
 (1363,([37,82],[])),
 (1377,([37],[])),
 (1384,([37],[])),
 (1391,([37],[])),
 (1398,([37],[])),
 (1405,([37],[])),
 (1412,([37,141],[])),
 (1510,([37],[])),
 (1517,([37],[])),
 (1524,([37,68],[])),
 (1559,([37],[])),
 (1566,([37],[])),
 (1573,([37],[])),
 (1608,([37],[])),
 (1615,([37],[])),
 (1622,([37,158],[])),
 (1629,([37,158],[])),
 (1636,([37,158],[])),
 (1643,([37,158],[])),
 (1650,([37,158],[])),
 (1657,([37,158],[])),
 (1664,([37,158],[])),
 (1685,([37,68],[])),
 (1692,([37,158],[])),
 (1699,([37,158],[])),
 (1706,([37],[])),
 (1713,([37,88],[])),
 (1765,([37,33,158],[])),
 (1772,([37,33,158],[])),
 (1786,([37],[])),
 (1820,([37,97],[])),
 (1834,([37],[])),
 (1841,([37],[])),
 (1848,([37],[])),
 (1855,([37],[])),
 (1862,([37],[])),
 (1869,([37],[])),
 (1876,([37],[])),
 (1883,([37],[])),
 (1890,([37],[])),
 (1912,([37,47,283],[(47,(.bool ac)),(283,(.bool ac))])),
 (2039,([],[])),
 (2050,([40],[])),
 (2057,([71],[])),
 (2062,([27,68,58,38,83],[])),
 (2069,([50],[])),
 (53,([33,55,30,82,79,109],[])),
 (196,([158,117,116],[(158,.none),(117,.none),(116,.none)])),
 (208,([158,117],[(158,.none),(117,.none)])),
 (228,([158,117,118,110,39],[(158,.none),(117,.none),(118,.none),(110,.none),(39,.none)])),
 (248,([158,117,118],[(158,.none),(117,.none),(118,.none)])),
 (280,([76,19,120,71,158,117,68],[(158,.none),(117,.none),(68,.none)])),
 (359,([92,49,138,242,254,279,278,167],[])),
 (799,([97,129,88,72,198,148],[(129,.none),(88,.none),(72,.none),(198,.none),(148,.none)])),
 (834,([],[])),
 (876,([33,71,158,117],[])),
 (888,([158,117],[])),
 (900,([158,117],[])),
 (920,([158,117,116],[(158,.none),(117,.none),(116,.none)])),
 (932,([158,117],[])),
 (1141,([71,63,158,117,68],[(68,.none)])),
 (2029,([97],[]))]
noncomputable def J1:S:=(.cons (.a9 (.lo 37) 33 (.lo 33))
 (.cons (.a9 (.lo 37) 55 (.lo 55))
 (.cons (.a9 (.lo 37) 30 (.lo 30))
 (.cons (.a9 (.lo 37) 82 (.lo 82))
 (.cons (.a9 (.lo 37) 79 (.lo 79))
 (.cons (.a9 (.lo 37) 109 (.lo 109))
 .nil))))))
noncomputable def J0:S:=(.cons (.a9 (.lo 37) 158 (.lo 158))
 (.cons (.a9 (.lo 37) 117 (.lo 117))
 .nil))
noncomputable def KO:S:=(.cons (.a9 (.lo 37) 158 (.lo 158))
 (.cons (.a9 (.lo 37) 117 (.lo 117))
 (.cons (.a9 (.lo 37) 116 (.lo 116))
 .nil)))
noncomputable def JB:S:=(.cons (.a9 (.lo 37) 158 (.lo 158))
 (.cons (.a9 (.lo 37) 117 (.lo 117))
 (.cons (.a9 (.lo 37) 118 (.lo 118))
 (.cons (.a9 (.lo 37) 110 (.lo 110))
 (.cons (.a9 (.lo 37) 39 (.lo 39))
 .nil)))))
noncomputable def JA:S:=(.cons (.a9 (.lo 37) 158 (.lo 158))
 (.cons (.a9 (.lo 37) 117 (.lo 117))
 (.cons (.a9 (.lo 37) 118 (.lo 118))
 .nil)))
noncomputable def Kk:S:=(.cons (.a9 (.lo 37) 76 (.lo 76))
 (.cons (.a9 (.lo 37) 19 (.lo 19))
 (.cons (.a9 (.lo 37) 120 (.lo 120))
 (.cons (.a9 (.lo 37) 71 (.lo 71))
 (.cons (.a9 (.lo 37) 158 (.lo 158))
 (.cons (.a9 (.lo 37) 117 (.lo 117))
 (.cons (.a9 (.lo 37) 68 (.lo 68))
 .nil)))))))
noncomputable def Kj:S:=(.cons (.a9 (.lo 37) 92 (.lo 92))
 (.cons (.a9 (.lo 37) 49 (.lo 49))
 (.cons (.a9 (.lo 37) 138 (.lo 138))
 (.cons (.a9 (.lo 37) 242 (.lo 242))
 (.cons (.a9 (.lo 37) 254 (.lo 254))
 (.cons (.a9 (.lo 37) 279 (.lo 279))
 (.cons (.a9 (.lo 37) 278 (.lo 278))
 (.cons (.a9 (.lo 37) 167 (.lo 167))
 .nil))))))))
noncomputable def xF:S:=(.cons (.a9 (.lo 37) 97 (.lo 97))
 (.cons (.a9 (.lo 37) 116 .cq)
 (.cons (.a9 (.lo 37) 96 (.cell 11 .nil))
 (.cons (.a9 (.lo 37) 67 (.at (.lo 37) 282))
 (.cons (.a9 (.lo 37) 84 (.cell 12 .nil))
 (.cons (.a9 (.lo 37) 50 .cq)
 (.cons (.a9 (.lo 37) 107 (.cell 13 .nil))
 (.cons (.a9 (.lo 37) 88 .cq)
 (.cons (.a9 (.lo 37) 145 (.a5 0))
 (.cons (.a9 (.lo 37) 188 (.bF ac))
 (.cons (.a9 (.lo 37) 250 (.bF ac))
 (.cons (.a9 (.lo 37) 230 (.bF ac))
 (.cons (.a9 (.lo 37) 273 (.bF ac))
 (.cons (.a9 (.lo 37) 30 (.a5 0))
 (.cons (.a9 (.lo 37) 82 (.a5 0))
 (.cons (.a9 (.lo 37) 160 (.bF aa))
 (.cons (.a9 (.lo 37) 136 (.bF aa))
 (.cons (.a9 (.lo 37) 151 (.bF ac))
 (.cons (.a9 (.lo 37) 129 (.lo 129))
 (.cons (.a9 (.lo 37) 198 (.lo 198))
 (.cons (.a9 (.lo 37) 168 (.a5 2))
 (.cons (.ite (.and (.cons (.lo 88) (.cons (.fw .Lt .Lt (.a5 1) (.lo 88) (.a5 10)) .nil))) (.cons (.a9 (.lo 37) 168 (.lo 88))
 .nil) .nil)
 (.cons (.a9 (.lo 37) 144 (.a5 80))
 (.cons (.ite (.and (.cons (.lo 72) (.cons (.cmp .Gt (.lo 72) (.bin .Mult (.at (.lo 37) 168) (.a5 2))) .nil))) .bK .nil)
 (.cons (.a9 (.lo 37) 224 (.ks [10]))
 (.cons (.ite (.cmp .In (.lo 148) (.lst (.cons (.ks [13]) (.cons (.ks [10]) (.cons (.ks [13,10]) .nil))))) (.cons (.a9 (.lo 37) 224 (.lo 148))
 .nil) .nil)
 (.cons (.a9 (.lo 37) 190 .cq)
 (.cons (.a9 (.lo 37) 233 .cq)
 (.cons (.a9 (.lo 37) 187 .cq)
 (.cons (.a9 (.lo 37) 114 .cq)
 (.cons (.a9 (.lo 37) 68 .cq)
 .nil)))))))))))))))))))))))))))))))
noncomputable def Cn:S:=(.cons (.exp (.cF (.at (.lo 37) 84) (.lo 50)))
 (.cons (.eR (.not (.aG (.lo 37) 247 .nil .nil)) (.cons (.a9 (.lo 37) 50 (.rd (.at (.lo 37) 84)))
 (.cons (.exp (.aG (.lo 37) 67 .nil .nil))
 (.cons (.a9 (.lo 37) 50 .cq)
 .nil))))
 .nil))
noncomputable def JN:S:=(.cons (.ite (.not (.at (.lo 37) 84)) (.cons (.ret (.bF aa))
 .nil) .nil)
 (.cons (.aN 50 (.cn (.at (.lo 37) 84) (.a5 0)))
 (.cons (.ite (.gy (.lo 50) (.gl 260)) (.cons (.ret (.aG (.lo 37) 175 (.cons (.a5 1) .nil) .nil))
 .nil) (.cons (.ite (.gy (.lo 50) (.gl 262)) .bK (.cons (.ite (.gy (.lo 50) (.gl 253)) .bK (.cons (.ret (.bF ac))
 .nil))
 .nil))
 .nil))
 .nil)))
noncomputable def JM:S:=(.cons (.aN 57 (.a5 0))
 (.cons (.fr 50 (.aK (.at (.lo 37) 84) (.a5 1) .no) (.cons (.ite (.gy (.lo 50) (.tup (.cons (.gl 260) (.cons (.gl 286) .nil)))) .bK (.cons (.ite (.gy (.lo 50) (.tup (.cons (.gl 237) (.cons (.gl 259) .nil)))) .bK (.cons (.ite (.gy (.lo 50) (.gl 209)) .bK .nil)
 .nil))
 .nil))
 (.cons (.ite (.cmp .Lt (.lo 57) (.a5 0)) .bK .nil)
 .nil)))
 (.cons (.ret (.cmp .Lt (.len (.at (.lo 37) 84)) (.bin .Add (.lo 48) (.a5 1))))
 .nil)))
noncomputable def JL:S:=(.cons (.exp (.cF (.at (.lo 37) 107) (.at (.lo 37) 88)))
 (.cons (.ite (.cmp .Is (.at (.lo 37) 88) .cq) (.cons (.ite (.lo 26) (.cons (.a9 (.lo 37) 88 (.at (.lo 37) 168))
 .nil) .bK)
 .nil) .bK)
 .nil))
noncomputable def JJ:S:=(.cons (.ite (.gy (.at (.lo 37) 50) (.gl 240)) (.cons (.exp (.aG (.lo 37) 276 .nil .nil))
 (.cons (.a9 (.lo 37) 67 (.at (.lo 37) 315))
 .nil)) .bK)
 .nil)
noncomputable def JG:S:=(.cons (.ret (.aG (.lo 37) 297 .nil (.eZ 51 (.bF aa) .nil)))
 .nil)
noncomputable def Co:S:=(.cons (.ite (.gy (.at (.lo 37) 50) (.gl 260)) (.cons (.ite (.and (.cons (.or (.cons (.at (.at (.lo 37) 50) 110) (.cons (.at (.at (.lo 37) 50) 39) .nil))) (.cons (.at (.lo 37) 151) .nil))) (.cons (.exp (.aG (.lo 37) 236 (.cons (.ks [46,46,46]) (.cons (.bF aa) .nil)) .nil))
 (.cons (.exp (.aG (.lo 37) 194 .nil .nil))
 .nil)) .nil)
 (.cons (.ite (.at (.at (.lo 37) 50) 110) (.cons (.aN 192 (.aG (.lo 37) 232 (.cons (.at (.at (.lo 37) 50) 110) .nil) .nil))
 (.cons (.exp (.aG (.lo 37) 304 (.cons (.lo 192) .nil) .nil))
 .nil)) .nil)
 (.cons (.a9 (.lo 37) 190 (.uK 16 (.at (.lo 37) 287)))
 (.cons (.ite (.at (.at (.lo 37) 50) 39) (.cons (.aN 105 (.tk (.at (.at (.lo 37) 50) 39)))
 (.cons (.fr 87 (.lo 105) (.cons (.aN 91 (.cn (.at (.at (.lo 37) 50) 39) (.lo 87)))
 (.cons (.qp (.at (.lo 37) 190) (.lo 91) (.lo 87))
 (.cons (.aN 173 (.aG (.lo 37) 269 (.cons (.lo 87) .nil) .nil))
 (.cons (.aN 176 (.aG (.lo 37) 270 (.cons (.lo 91) .nil) .nil))
 (.cons (.exp (.aG (.lo 37) 285 (.cons (.lo 173) (.cons (.lo 176) .nil)) .nil))
 .nil))))))
 .nil)) .nil)
 (.cons (.aN 120 (.and (.cons (.lo 51) (.cons (.not (.at (.at (.lo 37) 50) 118)) (.cons (.not (.at (.lo 37) 129)) (.cons (.not (.at (.at (.lo 37) 50) 110)) (.cons (.not (.at (.at (.lo 37) 50) 39)) (.cons (.not (.aG (.lo 37) 290 .nil .nil)) .nil))))))))
 (.cons (.ite (.not (.lo 120)) (.cons (.exp (.aG (.lo 37) 194 .nil .nil))
 (.cons (.exp (.aG (.lo 37) 236 (.cons (.ks [45,45,45]) (.cons (.bF aa) .nil)) .nil))
 (.cons (.ite (.at (.lo 37) 129) .bK .nil)
 .nil))) .nil)
 (.cons (.a9 (.lo 37) 67 (.at (.lo 37) 291))
 .nil))))))) (.cons (.ite (.gy (.at (.lo 37) 50) (.gl 209)) (.cons (.ite (.at (.lo 37) 151) (.cons (.exp (.aG (.lo 37) 236 (.cons (.ks [46,46,46]) (.cons (.bF aa) .nil)) .nil))
 (.cons (.exp (.aG (.lo 37) 194 .nil .nil))
 .nil)) .nil)
 (.cons (.exp (.aG (.lo 37) 252 .nil .nil))
 (.cons (.a9 (.lo 37) 67 (.at (.lo 37) 212))
 .nil))) .bK)
 .nil))
 .nil)
noncomputable def JE:S:=(.cons (.ite (.gy (.at (.lo 37) 50) (.gl 237)) (.cons (.exp (.aG (.lo 37) 194 .nil .nil))
 (.cons (.ite (.at (.at (.lo 37) 50) 118) (.cons (.exp (.aG (.lo 37) 236 (.cons (.ks [46,46,46]) (.cons (.bF aa) .nil)) .nil))
 (.cons (.exp (.aG (.lo 37) 194 .nil .nil))
 .nil)) .nil)
 (.cons (.exp (.aG (.lo 37) 186 .nil .nil))
 (.cons (.a9 (.lo 37) 67 (.at (.lo 37) 297))
 .nil)))) .bK)
 .nil)
noncomputable def JF:S:=(.cons (.exp (.cF (.at (.lo 37) 96) (.at (.lo 37) 281)))
 (.cons (.exp (.aG (.lo 37) 172 .nil (.eZ 35 (.bF aa) .nil)))
 .nil))
noncomputable def JH:S:=(.cons (.a9 (.lo 37) 188 (.lo 35))
 (.cons (.a9 (.lo 37) 250 (.lo 121))
 (.cons (.a9 (.lo 37) 230 (.lo 108))
 (.cons (.a9 (.lo 37) 273 (.lo 157))
 (.cons (.ite (.gy (.at (.lo 37) 50) (.gl 139)) .bK (.cons (.ite (.gy (.at (.lo 37) 50) (.tup (.cons (.gl 164) (.cons (.gl 286) .nil)))) (.cons (.exp (.aG (.lo 37) 215 (.cons (.ks [38]) .nil) .nil))
 (.cons (.exp (.aG (.lo 37) 177 .nil .nil))
 (.cons (.ite (.gy (.at (.lo 37) 50) (.gl 164)) (.cons (.exp (.aG (.lo 37) 200 .nil .nil))
 .nil) .bK)
 .nil))) .bK)
 .nil))
 .nil)))))
noncomputable def JI:S:=(.cons (.exp (.aG (.lo 37) 229 .nil (.eZ 26 (.bF aa) .nil)))
 (.cons (.exp (.aG (.lo 37) 216 .nil .nil))
 (.cons (.a9 (.lo 37) 88 (.rf (.at (.lo 37) 107)))
 (.cons (.a9 (.lo 37) 67 (.rf (.at (.lo 37) 96)))
 .nil))))
noncomputable def JC:S:=(.cons (.ite (.or (.cons (.not (.gy (.at (.lo 37) 50) (.gl 260))) (.cons (.not (.at (.lo 37) 84)) .nil))) .bK .nil)
 (.cons (.aN 50 (.cn (.at (.lo 37) 84) (.a5 0)))
 (.cons (.ret (.and (.cons (.gy (.lo 50) (.gl 164)) (.cons (.cmp .Is (.at (.lo 50) 76) .cq) (.cons (.cmp .Is (.at (.lo 50) 19) .cq) (.cons (.at (.lo 50) 120) (.cons (.cmp .Eq (.at (.lo 50) 71) (.ks [])) .nil)))))))
 .nil)))
noncomputable def JQ:S:=(.cons (.ite (.cmp .Is (.at (.at (.lo 37) 50) 76) .cq) (.cons (.a9 (.lo 37) 233 .cq)
 (.cons .rh
 .nil)) .nil)
 .bK)
noncomputable def JS:S:=(.cons (.aN 19 (.at (.at (.lo 37) 50) 19))
 (.cons (.ite (.gy (.at (.lo 37) 50) (.gl 164)) (.cons (.ite (.cmp .Is (.at (.lo 37) 68) .cq) (.cons (.a9 (.lo 37) 68 (.aG (.lo 37) 280 .nil .nil))
 .nil) .nil)
 (.cons (.ite (.and (.cons (.or (.cons (.not (.at (.lo 37) 129)) (.cons (.cmp .Is (.lo 19) .cq) .nil))) (.cons (.or (.cons (.and (.cons (.cmp .Eq (.at (.lo 37) 68) (.ks [])) (.cons (.cn (.at (.at (.lo 37) 50) 120) (.a5 0)) .nil))) (.cons (.and (.cons (.cmp .NotEq (.at (.lo 37) 68) (.ks [])) (.cons (.cn (.at (.at (.lo 37) 50) 120) (.a5 1)) .nil))) .nil))) .nil))) (.cons (.a9 (.lo 37) 187 .cq)
 (.cons .rh
 .nil)) .nil)
 .bK)) .bK)
 .bK))
noncomputable def JD:S:=(.cons (.ite (.cmp .Is (.at (.lo 37) 114) .cq) (.cons (.a9 (.lo 37) 114 (.aG (.lo 37) 211 (.cons (.at (.at (.lo 37) 50) 71) .nil) .nil))
 .nil) .nil)
 (.cons (.ite (.or (.cons (.cmp .Eq (.at (.at (.lo 37) 50) 68) (.ks [34])) (.cons (.at (.lo 37) 129) .nil))) .bK .nil)
 (.cons (.ite (.and (.cons (.not (.at (.at (.lo 37) 50) 68)) (.cons (.cn (.at (.at (.lo 37) 50) 120) (.a5 0)) .nil))) .bK .nil)
 (.cons (.ite (.and (.cons (.at (.at (.lo 37) 50) 68) (.cons (.cmp .In (.at (.at (.lo 37) 50) 68) (.ks [124,62])) .nil))) (.cons (.ite (.and (.cons (.not (.at (.lo 37) 145)) (.cons (.not (.at (.lo 37) 273)) (.cons (.at (.at (.lo 37) 114) 167) .nil)))) (.cons (.ret (.at (.at (.lo 37) 50) 68))
 .nil) .nil)
 .nil) .nil)
 .bK))))
noncomputable def JR:S:=(.cons (.ite (.cmp .Is (.at (.lo 37) 114) .cq) .bK .nil)
 (.cons (.ite (.cmp .Is (.at (.lo 37) 68) .cq) .bK .nil)
 (.cons (.aN 65 (.not (.at (.lo 37) 273)))
 (.cons (.ite (.cmp .Eq (.at (.lo 37) 68) (.ks [34])) .bK (.cons (.ite (.cmp .Eq (.at (.lo 37) 68) (.ks [39])) .bK (.cons (.ite (.cmp .Eq (.at (.lo 37) 68) (.ks [62])) (.cons (.exp (.aG (.lo 37) 193 (.cons (.at (.at (.lo 37) 114) 92) .nil) .nil))
 .nil) (.cons (.ite (.cmp .Eq (.at (.lo 37) 68) (.ks [124])) (.cons (.exp (.aG (.lo 37) 205 (.cons (.at (.at (.lo 37) 114) 92) .nil) .nil))
 .nil) .bK)
 .nil))
 .nil))
 .nil))
 (.cons (.a9 (.lo 37) 114 .cq)
 (.cons (.a9 (.lo 37) 68 .cq)
 .nil))))))
noncomputable def JP:S:=(.cons (.ast [59,61] (.lo 110))
 (.cons (.ite (.cmp .NotEq (.lo 59) (.a5 1)) .bK .nil)
 (.cons (.ret (.fmt 2 (.tup (.cons (.lo 59) (.cons (.lo 61) .nil)))))
 .nil)))
noncomputable def JO:S:=(.cons (.ite (.not (.lo 87)) .bK .nil)
 (.cons (.ite (.or (.cons (.cmp .NotEq (.cn (.lo 87) (.a5 0)) (.ks [33])) (.cons (.cmp .NotEq (.cn (.lo 87) (.neg (.a5 1))) (.ks [33])) .nil))) .bK .nil)
 (.cons (.fr 6 (.aK (.lo 87) (.a5 1) (.neg (.a5 1))) (.cons (.ite (.not (.or (.cons (.fw .LtE .LtE (.ks [48]) (.lo 6) (.ks [57])) (.cons (.fw .LtE .LtE (.ks [65]) (.lo 6) (.ks [90])) (.cons (.fw .LtE .LtE (.ks [97]) (.lo 6) (.ks [122])) (.cons (.cmp .In (.lo 6) (.ks [45,95])) .nil)))))) .bK .nil)
 .nil))
 (.cons (.ret (.lo 87))
 .nil))))
noncomputable def Cp:S:=(.cons (.ite (.not (.lo 91)) .bK .nil)
 (.cons (.aN 80 (.cell 100 .nil))
 (.cons (.jB [66,9] (.a5 0))
 (.cons (.ite (.cmp .Eq (.cn (.lo 91) (.a5 0)) (.ks [33])) (.cons (.aN 9 (.a5 1))
 .nil) .nil)
 (.cons (.eR (.cmp .Lt (.lo 9) (.len (.lo 91))) (.cons (.aN 6 (.cn (.lo 91) (.lo 9)))
 (.cons (.ite (.or (.cons (.fw .LtE .LtE (.ks [48]) (.lo 6) (.ks [57])) (.cons (.fw .LtE .LtE (.ks [65]) (.lo 6) (.ks [90])) (.cons (.fw .LtE .LtE (.ks [97]) (.lo 6) (.ks [122])) (.cons (.cmp .In (.lo 6) (.ks [45,59,47,63,33,58,64,38,61,43,36,44,95,46,126,42,39,40,41,91,93])) .nil))))) (.cons (.gS 9 .Add (.a5 1))
 .nil) .bK)
 .nil)))
 (.cons (.ite (.cmp .Lt (.lo 66) (.lo 9)) (.cons (.exp (.cF (.lo 80) (.aK (.lo 91) (.lo 66) (.lo 9))))
 .nil) .nil)
 (.cons (.ret (.join (.ks []) (.lo 80)))
 .nil)))))))
noncomputable def Ck:S:=(.cons (.ite (.not (.lo 92)) .bK .nil)
 (.cons (.aN 244 (.bF ac))
 (.cons (.aN 228 (.bF ac))
 (.cons (.aN 174 (.bF ac))
 (.cons (.aN 274 (.bF ac))
 (.cons (.aN 203 (.bF ac))
 (.cons (.aN 202 (.bF ac))
 (.cons (.aN 220 (.bF ac))
 (.cons (.aN 219 (.bF ac))
 (.cons (.aN 169 (.bF ac))
 (.cons (.aN 178 (.bF ac))
 (.cons (.ite (.or (.cons (.tm (.lo 92) (.ks [45,45,45])) (.cons (.tm (.lo 92) (.ks [46,46,46])) .nil))) (.cons (.aN 244 (.bF aa))
 (.cons (.aN 228 (.bF aa))
 .nil)) .nil)
 (.cons (.aN 302 (.bF aa))
 (.cons (.aN 300 (.or (.cons (.cmp .Eq (.len (.lo 92)) (.a5 1)) (.cons (.cmp .In (.cn (.lo 92) (.a5 1)) (.ks [0,32,9,13,10,133,8232,8233])) .nil))))
 (.cons (.aN 214 (.bF ac))
 (.cons (.aN 213 (.bF ac))
 (.cons (.aN 55 (.a5 0))
 (.cons (.eR (.cmp .Lt (.lo 55) (.len (.lo 92))) (.cons (.aN 6 (.cn (.lo 92) (.lo 55)))
 (.cons (.ite (.cmp .Eq (.lo 55) (.a5 0)) (.cons (.ite (.cmp .In (.lo 6) (.ks [35,44,91,93,123,125,38,42,33,124,62,39,34,37,64,96])) (.cons (.aN 228 (.bF aa))
 (.cons (.aN 244 (.bF aa))
 .nil)) .nil)
 (.cons (.ite (.cmp .In (.lo 6) (.ks [63,58])) .bK .nil)
 (.cons (.ite (.and (.cons (.cmp .Eq (.lo 6) (.ks [45])) (.cons (.lo 300) .nil))) .bK .nil)
 .nil))) (.cons (.ite (.cmp .In (.lo 6) (.ks [44,63,91,93,123,125])) .bK .nil)
 (.cons (.ite (.cmp .Eq (.lo 6) (.ks [58])) (.cons (.aN 228 (.bF aa))
 (.cons (.ite (.lo 300) (.cons (.aN 244 (.bF aa))
 .nil) .nil)
 .nil)) .nil)
 (.cons (.ite (.and (.cons (.cmp .Eq (.lo 6) (.ks [35])) (.cons (.lo 302) .nil))) (.cons (.aN 228 (.bF aa))
 (.cons (.aN 244 (.bF aa))
 .nil)) .nil)
 .nil))))
 (.cons (.ite (.cmp .In (.lo 6) (.ks [10,133,8232,8233])) (.cons (.aN 174 (.bF aa))
 .nil) .nil)
 (.cons (.ite (.not (.or (.cons (.cmp .Eq (.lo 6) (.ks [10])) (.cons (.fw .LtE .LtE (.ks [32]) (.lo 6) (.ks [126])) .nil)))) (.cons (.ite (.and (.cons (.or (.cons (.cmp .Eq (.lo 6) (.ks [133])) (.cons (.fw .LtE .LtE (.ks [160]) (.lo 6) (.ks [55295])) (.cons (.fw .LtE .LtE (.ks [57344]) (.lo 6) (.ks [65533])) (.cons (.fw .LtE .Lt (.ks [65536]) (.lo 6) (.ks [1114111])) .nil))))) (.cons (.cmp .NotEq (.lo 6) (.ks [65279])) .nil))) (.cons (.aN 275 (.bF aa))
 (.cons (.ite (.not (.at (.lo 37) 198)) .bK .nil)
 .nil)) .bK)
 .nil) .nil)
 (.cons (.ite (.cmp .Eq (.lo 6) (.ks [32])) (.cons (.ite (.cmp .Eq (.lo 55) (.a5 0)) (.cons (.aN 203 (.bF aa))
 .nil) .nil)
 (.cons (.ite (.cmp .Eq (.lo 55) (.bin .Sub (.len (.lo 92)) (.a5 1))) .bK .nil)
 (.cons (.ite (.lo 213) (.cons (.aN 169 (.bF aa))
 .nil) .nil)
 (.cons (.aN 214 (.bF aa))
 (.cons (.aN 213 (.bF ac))
 .nil))))) (.cons (.ite (.cmp .In (.lo 6) (.ks [10,133,8232,8233])) (.cons (.ite (.cmp .Eq (.lo 55) (.a5 0)) (.cons (.aN 202 (.bF aa))
 .nil) .nil)
 (.cons (.ite (.cmp .Eq (.lo 55) (.bin .Sub (.len (.lo 92)) (.a5 1))) (.cons (.aN 219 (.bF aa))
 .nil) .nil)
 (.cons (.ite (.lo 214) .bK .nil)
 (.cons (.aN 214 (.bF ac))
 (.cons (.aN 213 (.bF aa))
 .nil))))) (.cons (.aN 214 (.bF ac))
 (.cons (.aN 213 (.bF ac))
 .nil)))
 .nil))
 (.cons (.gS 55 .Add (.a5 1))
 (.cons (.aN 302 (.cmp .In (.lo 6) (.ks [0,32,9,13,10,133,8232,8233])))
 (.cons (.aN 300 (.or (.cons (.cmp .GtE (.bin .Add (.lo 55) (.a5 1)) (.len (.lo 92))) (.cons (.cmp .In (.cn (.lo 92) (.bin .Add (.lo 55) (.a5 1))) (.ks [0,32,9,13,10,133,8232,8233])) .nil))))
 .nil)))))))))
 (.cons (.aN 242 (.bF aa))
 (.cons (.aN 254 (.bF aa))
 (.cons (.aN 279 (.bF aa))
 (.cons (.aN 278 (.bF aa))
 (.cons (.aN 167 (.bF aa))
 (.cons (.ite (.or (.cons (.lo 203) (.cons (.lo 202) (.cons (.lo 220) (.cons (.lo 219) .nil))))) (.cons (.jB [242,254] (.bF ac))
 .nil) .nil)
 (.cons (.ite (.lo 220) .bK .nil)
 (.cons (.ite (.lo 169) (.cons (.jB [242,254,279] (.bF ac))
 .nil) .nil)
 (.cons (.ite (.or (.cons (.lo 178) (.cons (.lo 274) .nil))) .bK .nil)
 (.cons (.ite (.lo 174) (.cons (.jB [242,254] (.bF ac))
 .nil) .nil)
 (.cons (.ite (.lo 228) (.cons (.aN 242 (.bF ac))
 .nil) .nil)
 (.cons (.ite (.lo 244) (.cons (.aN 254 (.bF ac))
 .nil) .nil)
 (.cons (.ret (.call (.gl 208) .nil (.eZ 92 (.lo 92) (.eZ 49 (.bF ac) (.eZ 138 (.lo 174) (.eZ 242 (.lo 242) (.eZ 254 (.lo 254) (.eZ 279 (.lo 279) (.eZ 278 (.lo 278) (.eZ 167 (.lo 167) .nil))))))))))
 .nil)))))))))))))))))))))))))))))))
noncomputable def JK:S:=(.cons .ta
 .nil)
noncomputable def JX:S:=(.cons .ta
 .nil)
noncomputable def JW:S:=(.cons (.exp (.aG (.lo 37) 186 .nil .nil))
 .nil)
noncomputable def JU:S:=(.cons (.ite (.or (.cons (.at (.lo 37) 160) (.cons (.not (.lo 231)) .nil))) (.cons (.aN 23 (.lo 137))
 .nil) (.cons (.aN 23 (.bin .Add (.ks [32]) (.lo 137)))
 .nil))
 (.cons (.a9 (.lo 37) 160 (.lo 160))
 (.cons (.a9 (.lo 37) 136 (.and (.cons (.at (.lo 37) 136) (.cons (.lo 136) .nil))))
 (.cons (.kz (.lo 37) 82 .Add (.len (.lo 23)))
 (.cons (.a9 (.lo 37) 151 (.bF ac))
 (.cons (.exp (.aG (.at (.lo 37) 97) 73 (.cons (.lo 23) .nil) .nil))
 .nil))))))
noncomputable def JT:S:=(.cons (.aN 88 (.or (.cons (.at (.lo 37) 88) (.cons (.a5 0) .nil))))
 (.cons (.ite (.or (.cons (.not (.at (.lo 37) 136)) (.cons (.cmp .Gt (.at (.lo 37) 82) (.lo 88)) (.cons (.and (.cons (.cmp .Eq (.at (.lo 37) 82) (.lo 88)) (.cons (.not (.at (.lo 37) 160)) .nil))) .nil)))) (.cons (.exp (.aG (.lo 37) 251 .nil .nil))
 .nil) .nil)
 (.cons (.ite (.cmp .Lt (.at (.lo 37) 82) (.lo 88)) (.cons (.a9 (.lo 37) 160 (.bF aa))
 (.cons (.aN 23 (.bin .Mult (.ks [32]) (.bin .Sub (.lo 88) (.at (.lo 37) 82))))
 (.cons (.a9 (.lo 37) 82 (.lo 88))
 (.cons (.exp (.aG (.at (.lo 37) 97) 73 (.cons (.lo 23) .nil) .nil))
 .nil)))) .nil)
 .nil)))
noncomputable def JV:S:=(.cons (.ite (.cmp .Is (.lo 23) .cq) (.cons (.aN 23 (.at (.lo 37) 224))
 .nil) .nil)
 (.cons (.a9 (.lo 37) 160 (.bF aa))
 (.cons (.a9 (.lo 37) 136 (.bF aa))
 (.cons (.kz (.lo 37) 30 .Add (.a5 1))
 (.cons (.a9 (.lo 37) 82 (.a5 0))
 (.cons (.exp (.aG (.at (.lo 37) 97) 73 (.cons (.lo 23) .nil) .nil))
 .nil))))))
noncomputable def JZ:S:=(.cons (.aN 23 (.fmt 0 (.lo 192)))
 (.cons (.exp (.aG (.at (.lo 37) 97) 73 (.cons (.lo 23) .nil) .nil))
 (.cons (.exp (.aG (.lo 37) 251 .nil .nil))
 .nil)))
noncomputable def JY:S:=(.cons (.aN 23 (.uY 173 176))
 (.cons (.exp (.aG (.at (.lo 37) 97) 73 (.cons (.lo 23) .nil) .nil))
 (.cons (.exp (.aG (.lo 37) 251 .nil .nil))
 .nil)))
noncomputable def Cm:S:=(.cons (.aN 54 (.ks []))
 (.cons (.ite (.lo 41) (.cons (.ite (.cmp .In (.cn (.lo 41) (.a5 0)) (.ks [32,10,133,8232,8233])) (.cons (.gS 54 .Add (.rm (.at (.lo 37) 168)))
 .nil) .nil)
 (.cons (.ite (.cmp .NotIn (.cn (.lo 41) (.neg (.a5 1))) (.ks [10,133,8232,8233])) (.cons (.gS 54 .Add (.ks [45]))
 .nil) (.cons (.ite (.or (.cons (.cmp .Eq (.len (.lo 41)) (.a5 1)) (.cons (.cmp .In (.cn (.lo 41) (.neg (.a5 2))) (.ks [10,133,8232,8233])) .nil))) (.cons (.gS 54 .Add (.ks [43]))
 .nil) .nil)
 .nil))
 .nil)) .nil)
 (.cons (.ret (.lo 54))
 .nil)))
noncomputable def Cq:S:=(.cons (.aN 54 (.aG (.lo 37) 296 (.cons (.lo 41) .nil) .nil))
 (.cons (.exp (.aG (.lo 37) 236 (.cons (.bin .Add (.ks [62]) (.lo 54)) (.cons (.bF aa) .nil)) .nil))
 (.cons (.ite (.cmp .Eq (.aK (.lo 54) (.neg (.a5 1)) .no) (.ks [43])) (.cons (.a9 (.lo 37) 151 (.bF aa))
 .nil) .nil)
 (.cons (.exp (.aG (.lo 37) 251 .nil .nil))
 (.cons (.aN 203 (.bF aa))
 (.cons (.aN 95 (.bF ac))
 (.cons (.aN 78 (.bF aa))
 (.cons (.jB [66,9] (.a5 0))
 (.cons (.eR (.cmp .LtE (.lo 9) (.len (.lo 41))) (.cons (.aN 6 .cq)
 (.cons (.ite (.cmp .Lt (.lo 9) (.len (.lo 41))) (.cons (.aN 6 (.cn (.lo 41) (.lo 9)))
 .nil) .nil)
 (.cons (.ite (.lo 78) (.cons (.ite (.or (.cons (.cmp .Is (.lo 6) .cq) (.cons (.cmp .NotIn (.lo 6) (.ks [10,133,8232,8233])) .nil))) (.cons (.ite (.and (.cons (.not (.lo 203)) (.cons (.cmp .IsNot (.lo 6) .cq) (.cons (.cmp .NotEq (.lo 6) (.ks [32])) (.cons (.cmp .Eq (.cn (.lo 41) (.lo 66)) (.ks [10])) .nil))))) (.cons (.exp (.aG (.lo 37) 251 .nil .nil))
 .nil) .nil)
 (.cons (.aN 203 (.cmp .Eq (.lo 6) (.ks [32])))
 (.cons (.fr 5 (.aK (.lo 41) (.lo 66) (.lo 9)) (.cons (.ite (.cmp .Eq (.lo 5) (.ks [10])) (.cons (.exp (.aG (.lo 37) 251 .nil .nil))
 .nil) (.cons (.exp (.aG (.lo 37) 251 (.cons (.lo 5) .nil) .nil))
 .nil))
 .nil))
 (.cons (.ite (.cmp .IsNot (.lo 6) .cq) (.cons (.exp (.aG (.lo 37) 194 .nil .nil))
 .nil) .nil)
 (.cons (.aN 66 (.lo 9))
 .nil))))) .nil)
 .nil) (.cons (.ite (.lo 95) (.cons (.ite (.cmp .NotEq (.lo 6) (.ks [32])) (.cons (.ite (.and (.cons (.cmp .Eq (.bin .Add (.lo 66) (.a5 1)) (.lo 9)) (.cons (.cmp .Gt (.at (.lo 37) 82) (.at (.lo 37) 144)) .nil))) .bK (.cons (.aN 23 (.aK (.lo 41) (.lo 66) (.lo 9)))
 (.cons (.kz (.lo 37) 82 .Add (.len (.lo 23)))
 (.cons (.exp (.aG (.at (.lo 37) 97) 73 (.cons (.lo 23) .nil) .nil))
 .nil))))
 (.cons (.aN 66 (.lo 9))
 .nil)) .nil)
 .nil) (.cons (.ite (.or (.cons (.cmp .Is (.lo 6) .cq) (.cons (.cmp .In (.lo 6) (.ks [32,10,133,8232,8233])) .nil))) (.cons (.aN 23 (.aK (.lo 41) (.lo 66) (.lo 9)))
 (.cons (.kz (.lo 37) 82 .Add (.len (.lo 23)))
 (.cons (.exp (.aG (.at (.lo 37) 97) 73 (.cons (.lo 23) .nil) .nil))
 (.cons (.ite (.cmp .Is (.lo 6) .cq) (.cons (.exp (.aG (.lo 37) 251 .nil .nil))
 .nil) .nil)
 (.cons (.aN 66 (.lo 9))
 .nil))))) .nil)
 .nil))
 .nil))
 (.cons (.ite (.cmp .IsNot (.lo 6) .cq) (.cons (.aN 78 (.cmp .In (.lo 6) (.ks [10,133,8232,8233])))
 (.cons (.aN 95 (.cmp .Eq (.lo 6) (.ks [32])))
 .nil)) .nil)
 (.cons (.gS 9 .Add (.a5 1))
 .nil))))))
 .nil)))))))))
noncomputable def Cr:S:=(.cons (.aN 54 (.aG (.lo 37) 296 (.cons (.lo 41) .nil) .nil))
 (.cons (.exp (.aG (.lo 37) 236 (.cons (.bin .Add (.ks [124]) (.lo 54)) (.cons (.bF aa) .nil)) .nil))
 (.cons (.ite (.cmp .Eq (.aK (.lo 54) (.neg (.a5 1)) .no) (.ks [43])) (.cons (.a9 (.lo 37) 151 (.bF aa))
 .nil) .nil)
 (.cons (.exp (.aG (.lo 37) 251 .nil .nil))
 (.cons (.aN 78 (.bF aa))
 (.cons (.jB [66,9] (.a5 0))
 (.cons (.eR (.cmp .LtE (.lo 9) (.len (.lo 41))) (.cons (.aN 6 .cq)
 (.cons (.ite (.cmp .Lt (.lo 9) (.len (.lo 41))) (.cons (.aN 6 (.cn (.lo 41) (.lo 9)))
 .nil) .nil)
 (.cons (.ite (.lo 78) (.cons (.ite (.or (.cons (.cmp .Is (.lo 6) .cq) (.cons (.cmp .NotIn (.lo 6) (.ks [10,133,8232,8233])) .nil))) (.cons (.fr 5 (.aK (.lo 41) (.lo 66) (.lo 9)) (.cons (.ite (.cmp .Eq (.lo 5) (.ks [10])) (.cons (.exp (.aG (.lo 37) 251 .nil .nil))
 .nil) (.cons (.exp (.aG (.lo 37) 251 (.cons (.lo 5) .nil) .nil))
 .nil))
 .nil))
 (.cons (.ite (.cmp .IsNot (.lo 6) .cq) (.cons (.exp (.aG (.lo 37) 194 .nil .nil))
 .nil) .nil)
 (.cons (.aN 66 (.lo 9))
 .nil))) .nil)
 .nil) (.cons (.ite (.or (.cons (.cmp .Is (.lo 6) .cq) (.cons (.cmp .In (.lo 6) (.ks [10,133,8232,8233])) .nil))) (.cons (.aN 23 (.aK (.lo 41) (.lo 66) (.lo 9)))
 (.cons (.exp (.aG (.at (.lo 37) 97) 73 (.cons (.lo 23) .nil) .nil))
 (.cons (.ite (.cmp .Is (.lo 6) .cq) (.cons (.exp (.aG (.lo 37) 251 .nil .nil))
 .nil) .nil)
 (.cons (.aN 66 (.lo 9))
 .nil)))) .nil)
 .nil))
 (.cons (.ite (.cmp .IsNot (.lo 6) .cq) (.cons (.aN 78 (.cmp .In (.lo 6) (.ks [10,133,8232,8233])))
 .nil) .nil)
 (.cons (.gS 9 .Add (.a5 1))
 .nil))))))
 .nil)))))))
noncomputable def Kg:S:=(.cons (.a9 (.lo 37) 36 (.cell 15 .nil))
 .nil)
noncomputable def Ki:S:=(.cons (.exp (.cF (.at (.lo 37) 36) (.lo 23)))
 .nil)
noncomputable def Kh:S:=(.cons (.ret (.join (.ks []) (.at (.lo 37) 36)))
 .nil)
noncomputable def KQ:S:=(.cons (.a9 (.lo 37) 158 (.lo 158))
 (.cons (.a9 (.lo 37) 117 (.lo 117))
 .nil))
noncomputable def Jz:S:=(.cons (.a9 (.lo 37) 33 (.lo 33))
 (.cons (.a9 (.lo 37) 71 (.lo 71))
 (.cons (.a9 (.lo 37) 158 (.lo 158))
 (.cons (.a9 (.lo 37) 117 (.lo 117))
 .nil))))
noncomputable def KP:S:=(.cons (.a9 (.lo 37) 158 (.lo 158))
 (.cons (.a9 (.lo 37) 117 (.lo 117))
 (.cons (.a9 (.lo 37) 116 (.lo 116))
 .nil)))
noncomputable def Kl:S:=(.cons (.a9 (.lo 37) 71 (.lo 71))
 (.cons (.a9 (.lo 37) 63 (.lo 63))
 (.cons (.a9 (.lo 37) 158 (.lo 158))
 (.cons (.a9 (.lo 37) 117 (.lo 117))
 (.cons (.a9 (.lo 37) 68 (.lo 68))
 .nil)))))
noncomputable def KR:S:=(.cons (.ret (.or (.cons (.cmp .In (.lo 6) (.ks [9,10,13,133])) (.cons (.fw .LtE .LtE (.ks [32]) (.lo 6) (.ks [126])) (.cons (.fw .LtE .LtE (.ks [160]) (.lo 6) (.ks [55295])) (.cons (.fw .LtE .LtE (.ks [57344]) (.lo 6) (.ks [65533])) (.cons (.fw .LtE .LtE (.ks [65536]) (.lo 6) (.ks [1114111])) .nil)))))))
 .nil)
noncomputable def Kb:S:=(.cons (.a9 (.lo 37) 33 .cq)
 (.cons (.a9 (.lo 37) 97 .cq)
 (.cons (.a9 (.lo 37) 218 (.a5 0))
 (.cons (.a9 (.lo 37) 10 (.bF aa))
 (.cons (.a9 (.lo 37) 79 (.ks []))
 (.cons (.a9 (.lo 37) 109 (.a5 0))
 (.cons (.a9 (.lo 37) 155 .cq)
 (.cons (.a9 (.lo 37) 156 .cq)
 (.cons (.a9 (.lo 37) 116 .cq)
 (.cons (.a9 (.lo 37) 55 (.a5 0))
 (.cons (.a9 (.lo 37) 30 (.a5 0))
 (.cons (.a9 (.lo 37) 82 (.a5 0))
 (.cons (.ite (.vk (.lo 97)) (.cons (.a9 (.lo 37) 33 (.ks [60,117,110,105,99,111,100,101,32,115,116,114,105,110,103,62]))
 (.cons (.exp (.aG (.lo 37) 226 (.cons (.lo 97) .nil) .nil))
 (.cons (.a9 (.lo 37) 79 (.bin .Add (.lo 97) (.ks [0])))
 .nil))) .nil)
 .nil)))))))))))))
noncomputable def Kc:S:=(.cons (.try (.cons (.ret (.cn (.at (.lo 37) 79) (.bin .Add (.at (.lo 37) 109) (.lo 55))))
 .nil))
 .nil)
noncomputable def Kd:S:=(.cons (.ite (.cmp .GtE (.bin .Add (.at (.lo 37) 109) (.lo 89)) (.len (.at (.lo 37) 79))) (.cons (.exp (.aG (.lo 37) 99 (.cons (.lo 89) .nil) .nil))
 .nil) .nil)
 (.cons (.ret (.aK (.at (.lo 37) 79) (.at (.lo 37) 109) (.bin .Add (.at (.lo 37) 109) (.lo 89))))
 .nil))
noncomputable def Cu:S:=(.cons (.ite (.cmp .GtE (.bin .Add (.bin .Add (.at (.lo 37) 109) (.lo 89)) (.a5 1)) (.len (.at (.lo 37) 79))) (.cons (.exp (.aG (.lo 37) 99 (.cons (.bin .Add (.lo 89) (.a5 1)) .nil) .nil))
 .nil) .nil)
 (.cons (.eR (.lo 89) (.cons (.aN 6 (.cn (.at (.lo 37) 79) (.at (.lo 37) 109)))
 (.cons (.kz (.lo 37) 109 .Add (.a5 1))
 (.cons (.kz (.lo 37) 55 .Add (.a5 1))
 (.cons (.ite (.or (.cons (.cmp .In (.lo 6) (.ks [10,133,8232,8233])) (.cons (.and (.cons (.cmp .Eq (.lo 6) (.ks [13])) (.cons (.cmp .NotEq (.cn (.at (.lo 37) 79) (.at (.lo 37) 109)) (.ks [10])) .nil))) .nil))) (.cons (.kz (.lo 37) 30 .Add (.a5 1))
 (.cons (.a9 (.lo 37) 82 (.a5 0))
 .nil)) (.cons (.ite (.cmp .NotEq (.lo 6) (.ks [65279])) (.cons (.kz (.lo 37) 82 .Add (.a5 1))
 .nil) .nil)
 .nil))
 (.cons (.gS 89 .Sub (.a5 1))
 .nil))))))
 .nil))
noncomputable def Ka:S:=(.cons (.ite (.cmp .Is (.at (.lo 37) 97) .cq) (.cons (.ret (.call (.gl 20) (.cons (.at (.lo 37) 33) (.cons (.at (.lo 37) 55) (.cons (.at (.lo 37) 30) (.cons (.at (.lo 37) 82) (.cons (.at (.lo 37) 79) (.cons (.at (.lo 37) 109) .nil)))))) .nil))
 .nil) .bK)
 .nil)
noncomputable def Ct:S:=(.cons (.sy 66 130 (.lo 23) (.cons (.ite (.not (.call (.gl 197) (.cons (.lo 130) .nil) .nil)) .bK .nil)
 .nil))
 .nil)
noncomputable def Ke:S:=(.cons (.ite (.cmp .Is (.at (.lo 37) 155) .cq) (.cons .rh
 .nil) .nil)
 .nil)
noncomputable def qs:S:=(.cons (.exp (.mb 2029 1190 (.cons (.lo 97) .nil)))
 (.cons (.a9 (.lo 37) 24 (.bF ac))
 (.cons (.a9 (.lo 37) 145 (.a5 0))
 (.cons (.a9 (.lo 37) 98 (.cell 31 .nil))
 (.cons (.exp (.aG (.lo 37) 266 .nil .nil))
 (.cons (.a9 (.lo 37) 191 (.a5 0))
 (.cons (.a9 (.lo 37) 88 (.neg (.a5 1)))
 (.cons (.a9 (.lo 37) 107 (.cell 32 .nil))
 (.cons (.a9 (.lo 37) 243 (.bF aa))
 (.cons (.a9 (.lo 37) 294 (.o7 33))
 .nil))))))))))
noncomputable def Cv:S:=(.cons (.eR (.aG (.lo 37) 248 .nil .nil) (.cons (.exp (.aG (.lo 37) 256 .nil .nil))
 .nil))
 (.cons (.ite (.at (.lo 37) 98) (.cons (.ite (.not (.lo 102)) .bK .nil)
 (.cons (.ite (.cmp .In (.at (.cn (.at (.lo 37) 98) (.a5 0)) 7) (.lo 102)) (.cons (.ret (.bF aa))
 .nil) .nil)
 .nil)) .nil)
 (.cons (.ret (.bF ac))
 .nil)))
noncomputable def KD:S:=(.cons (.eR (.aG (.lo 37) 248 .nil .nil) (.cons (.exp (.aG (.lo 37) 256 .nil .nil))
 .nil))
 (.cons (.ite (.at (.lo 37) 98) (.cons (.ret (.cn (.at (.lo 37) 98) (.a5 0)))
 .nil) .bK)
 .nil))
noncomputable def Kz:S:=(.cons (.eR (.aG (.lo 37) 248 .nil .nil) .bK)
 (.cons (.ite (.at (.lo 37) 98) (.cons (.kz (.lo 37) 191 .Add (.a5 1))
 (.cons (.ret (.rd (.at (.lo 37) 98)))
 .nil)) .nil)
 .nil))
noncomputable def KA:S:=(.cons (.ite (.at (.lo 37) 24) (.cons (.ret (.bF ac))
 .nil) .nil)
 (.cons (.ite (.not (.at (.lo 37) 98)) (.cons (.ret (.bF aa))
 .nil) .nil)
 (.cons (.exp (.aG (.lo 37) 314 .nil .nil))
 (.cons (.ite (.cmp .Eq (.aG (.lo 37) 306 .nil .nil) (.at (.lo 37) 191)) .bK .nil)
 .nil))))
noncomputable def Kw:S:=(.cons (.exp (.aG (.lo 37) 272 .nil .nil))
 (.cons (.exp (.aG (.lo 37) 314 .nil .nil))
 (.cons (.exp (.aG (.lo 37) 204 (.cons (.at (.lo 37) 82) .nil) .nil))
 (.cons (.aN 6 (.aG (.lo 37) 34 .nil .nil))
 (.cons (.ite (.cmp .Eq (.lo 6) (.ks [0])) (.cons (.ret (.aG (.lo 37) 245 .nil .nil))
 .nil) .nil)
 (.cons (.ite (.and (.cons (.cmp .Eq (.lo 6) (.ks [37])) (.cons (.aG (.lo 37) 225 .nil .nil) .nil))) (.cons (.ret (.aG (.lo 37) 227 .nil .nil))
 .nil) .nil)
 (.cons (.ite (.and (.cons (.cmp .Eq (.lo 6) (.ks [45])) (.cons (.aG (.lo 37) 289 .nil .nil) .nil))) (.cons (.ret (.aG (.lo 37) 292 .nil .nil))
 .nil) .nil)
 (.cons (.ite (.and (.cons (.cmp .Eq (.lo 6) (.ks [46])) (.cons (.aG (.lo 37) 263 .nil .nil) .nil))) (.cons (.ret (.aG (.lo 37) 265 .nil .nil))
 .nil) .nil)
 (.cons (.ite (.cmp .Eq (.lo 6) (.ks [91])) .bK .nil)
 (.cons (.ite (.cmp .Eq (.lo 6) (.ks [123])) .bK .nil)
 (.cons (.ite (.cmp .Eq (.lo 6) (.ks [93])) .bK .nil)
 (.cons (.ite (.cmp .Eq (.lo 6) (.ks [125])) .bK .nil)
 (.cons (.ite (.cmp .Eq (.lo 6) (.ks [44])) .bK .nil)
 (.cons (.ite (.and (.cons (.cmp .Eq (.lo 6) (.ks [45])) (.cons (.aG (.lo 37) 255 .nil .nil) .nil))) .bK .nil)
 (.cons (.ite (.and (.cons (.cmp .Eq (.lo 6) (.ks [63])) (.cons (.aG (.lo 37) 131 .nil .nil) .nil))) .bK .nil)
 (.cons (.ite (.and (.cons (.cmp .Eq (.lo 6) (.ks [58])) (.cons (.aG (.lo 37) 171 .nil .nil) .nil))) .bK .nil)
 (.cons (.ite (.cmp .Eq (.lo 6) (.ks [42])) .bK .nil)
 (.cons (.ite (.cmp .Eq (.lo 6) (.ks [38])) .bK .nil)
 (.cons (.ite (.cmp .Eq (.lo 6) (.ks [33])) .bK .nil)
 (.cons (.ite (.and (.cons (.cmp .Eq (.lo 6) (.ks [124])) (.cons (.not (.at (.lo 37) 145)) .nil))) (.cons (.ret (.aG (.lo 37) 201 .nil .nil))
 .nil) .nil)
 (.cons (.ite (.and (.cons (.cmp .Eq (.lo 6) (.ks [62])) (.cons (.not (.at (.lo 37) 145)) .nil))) (.cons (.ret (.aG (.lo 37) 185 .nil .nil))
 .nil) .nil)
 .bK)))))))))))))))))))))
noncomputable def KC:S:=(.cons (.aN 246 .cq)
 (.cons (.fr 57 (.at (.lo 37) 294) .bK)
 (.cons (.ret (.lo 246))
 .nil)))
noncomputable def KN:S:=(.cons (.u0 57 (.at (.lo 37) 294) .bK)
 .nil)
noncomputable def KE:S:=(.cons (.ite (.cmp .In (.at (.lo 37) 145) (.at (.lo 37) 294)) .bK .nil)
 .nil)
noncomputable def xT:S:=(.cons (.ite (.at (.lo 37) 145) .bK .nil)
 (.cons (.eR (.cmp .Gt (.at (.lo 37) 88) (.lo 82)) .bK)
 .nil))
noncomputable def Ky:S:=(.cons (.aN 32 (.aG (.lo 37) 119 .nil .nil))
 (.cons (.exp (.cF (.at (.lo 37) 98) (.call (.gl 241) (.cons (.lo 32) (.cons (.lo 32) .nil)) (.eZ 116 (.at (.lo 37) 116) .nil))))
 .nil))
noncomputable def Kx:S:=(.cons (.exp (.aG (.lo 37) 204 (.cons (.neg (.a5 1)) .nil) .nil))
 (.cons (.exp (.aG (.lo 37) 312 .nil .nil))
 (.cons (.a9 (.lo 37) 243 (.bF ac))
 (.cons (.a9 (.lo 37) 294 (.o7 33))
 (.cons (.aN 32 (.aG (.lo 37) 119 .nil .nil))
 (.cons (.exp (.cF (.at (.lo 37) 98) (.call (.gl 210) (.cons (.lo 32) (.cons (.lo 32) .nil)) .nil)))
 (.cons (.a9 (.lo 37) 24 (.bF aa))
 .nil)))))))
noncomputable def Kq:S:=(.cons (.exp (.aG (.lo 37) 204 (.cons (.neg (.a5 1)) .nil) .nil))
 (.cons (.exp (.aG (.lo 37) 312 .nil .nil))
 (.cons (.a9 (.lo 37) 243 (.bF ac))
 (.cons (.exp (.cF (.at (.lo 37) 98) (.aG (.lo 37) 217 .nil .nil)))
 .nil))))
noncomputable def Kt:S:=(.cons (.exp (.aG (.lo 37) 305 (.cons (.gl 261) .nil) .nil))
 .nil)
noncomputable def Kr:S:=(.cons (.exp (.aG (.lo 37) 305 (.cons (.gl 238) .nil) .nil))
 .nil)
noncomputable def Ks:S:=(.cons (.exp (.aG (.lo 37) 204 (.cons (.neg (.a5 1)) .nil) .nil))
 (.cons (.exp (.aG (.lo 37) 312 .nil .nil))
 (.cons (.a9 (.lo 37) 243 (.bF ac))
 (.cons (.aN 158 (.aG (.lo 37) 119 .nil .nil))
 (.cons (.exp (.aG (.lo 37) 104 (.cons (.a5 3) .nil) .nil))
 (.cons (.aN 117 (.aG (.lo 37) 119 .nil .nil))
 (.cons (.exp (.cF (.at (.lo 37) 98) (.call (.lo 141) (.cons (.lo 158) (.cons (.lo 117) .nil)) .nil)))
 .nil)))))))
noncomputable def Kv:S:=(.cons (.exp (.aG (.lo 37) 264 .nil (.eZ 68 (.ks [124]) .nil)))
 .nil)
noncomputable def Ku:S:=(.cons (.exp (.aG (.lo 37) 264 .nil (.eZ 68 (.ks [62]) .nil)))
 .nil)
noncomputable def Kp:S:=(.cons (.a9 (.lo 37) 243 (.bF aa))
 (.cons (.exp (.aG (.lo 37) 312 .nil .nil))
 (.cons (.exp (.cF (.at (.lo 37) 98) (.aG (.lo 37) 258 (.cons (.lo 68) .nil) .nil)))
 .nil)))
noncomputable def Km:S:=(.cons (.ite (.cmp .Eq (.at (.lo 37) 82) (.a5 0)) (.cons (.ret (.bF aa))
 .nil) .nil)
 .nil)
noncomputable def Ko:S:=(.cons (.ite (.cmp .Eq (.at (.lo 37) 82) (.a5 0)) (.cons (.ite (.and (.cons (.cmp .Eq (.aG (.lo 37) 91 (.cons (.a5 3) .nil) .nil) (.ks [45,45,45])) (.cons (.cmp .In (.aG (.lo 37) 34 (.cons (.a5 3) .nil) .nil) (.ks [0,32,9,13,10,133,8232,8233])) .nil))) (.cons (.ret (.bF aa))
 .nil) .nil)
 .nil) .nil)
 .nil)
noncomputable def Kn:S:=(.cons (.ite (.cmp .Eq (.at (.lo 37) 82) (.a5 0)) (.cons (.ite (.and (.cons (.cmp .Eq (.aG (.lo 37) 91 (.cons (.a5 3) .nil) .nil) (.ks [46,46,46])) (.cons (.cmp .In (.aG (.lo 37) 34 (.cons (.a5 3) .nil) .nil) (.ks [0,32,9,13,10,133,8232,8233])) .nil))) (.cons (.ret (.bF aa))
 .nil) .nil)
 .nil) .nil)
 .nil)
noncomputable def xQ:S:=(.cons (.ite (.and (.cons (.cmp .Eq (.at (.lo 37) 55) (.a5 0)) (.cons (.cmp .Eq (.aG (.lo 37) 34 .nil .nil) (.ks [65279])) .nil))) .bK .nil)
 (.cons (.aN 53 (.bF ac))
 (.cons (.eR (.not (.lo 53)) (.cons (.eR (.cmp .Eq (.aG (.lo 37) 34 .nil .nil) (.ks [32])) (.cons (.exp (.aG (.lo 37) 104 .nil .nil))
 .nil))
 (.cons (.ite (.cmp .Eq (.aG (.lo 37) 34 .nil .nil) (.ks [35])) .bK .nil)
 (.cons (.ite (.aG (.lo 37) 234 .nil .nil) (.cons (.ite (.not (.at (.lo 37) 145)) (.cons (.a9 (.lo 37) 243 (.bF aa))
 .nil) .nil)
 .nil) (.cons (.aN 53 (.bF aa))
 .nil))
 .nil))))
 .nil)))
noncomputable def KH:S:=(.cons (.aN 158 (.aG (.lo 37) 119 .nil .nil))
 (.cons (.exp (.aG (.lo 37) 104 .nil .nil))
 (.cons (.aN 33 (.aG (.lo 37) 284 (.cons (.lo 158) .nil) .nil))
 (.cons (.aN 71 .cq)
 (.cons (.ite (.cmp .Eq (.lo 33) (.ks [89,65,77,76])) (.cons (.aN 71 (.aG (.lo 37) 311 (.cons (.lo 158) .nil) .nil))
 (.cons (.aN 117 (.aG (.lo 37) 119 .nil .nil))
 .nil)) (.cons (.ite (.cmp .Eq (.lo 33) (.ks [84,65,71])) (.cons (.aN 71 (.aG (.lo 37) 308 (.cons (.lo 158) .nil) .nil))
 (.cons (.aN 117 (.aG (.lo 37) 119 .nil .nil))
 .nil)) .bK)
 .nil))
 (.cons (.exp (.aG (.lo 37) 316 (.cons (.lo 158) .nil) .nil))
 (.cons (.ret (.call (.gl 206) (.cons (.lo 33) (.cons (.lo 71) (.cons (.lo 158) (.cons (.lo 117) .nil)))) .nil))
 .nil)))))))
noncomputable def xM:S:=(.cons (.aN 89 (.a5 0))
 (.cons (.aN 6 (.aG (.lo 37) 34 (.cons (.lo 89) .nil) .nil))
 (.cons (.eR (.or (.cons (.fw .LtE .LtE (.ks [48]) (.lo 6) (.ks [57])) (.cons (.fw .LtE .LtE (.ks [65]) (.lo 6) (.ks [90])) (.cons (.fw .LtE .LtE (.ks [97]) (.lo 6) (.ks [122])) (.cons (.cmp .In (.lo 6) (.ks [45,95])) .nil))))) (.cons (.gS 89 .Add (.a5 1))
 (.cons (.aN 6 (.aG (.lo 37) 34 (.cons (.lo 89) .nil) .nil))
 .nil)))
 (.cons (.ite (.not (.lo 89)) .bK .nil)
 (.cons (.aN 71 (.aG (.lo 37) 91 (.cons (.lo 89) .nil) .nil))
 (.cons (.exp (.aG (.lo 37) 104 (.cons (.lo 89) .nil) .nil))
 (.cons (.aN 6 (.aG (.lo 37) 34 .nil .nil))
 (.cons (.ite (.cmp .NotIn (.lo 6) (.ks [0,32,13,10,133,8232,8233])) .bK .nil)
 (.cons (.ret (.lo 71))
 .nil)))))))))
noncomputable def xS:S:=(.cons (.eR (.cmp .Eq (.aG (.lo 37) 34 .nil .nil) (.ks [32])) (.cons (.exp (.aG (.lo 37) 104 .nil .nil))
 .nil))
 (.cons (.aN 59 (.aG (.lo 37) 313 (.cons (.lo 158) .nil) .nil))
 (.cons (.ite (.cmp .NotEq (.aG (.lo 37) 34 .nil .nil) (.ks [46])) .bK .nil)
 (.cons (.exp (.aG (.lo 37) 104 .nil .nil))
 (.cons (.aN 61 (.aG (.lo 37) 313 (.cons (.lo 158) .nil) .nil))
 (.cons (.ite (.cmp .NotIn (.aG (.lo 37) 34 .nil .nil) (.ks [0,32,13,10,133,8232,8233])) .bK .nil)
 (.cons (.ret (.tup (.cons (.lo 59) (.cons (.lo 61) .nil))))
 .nil)))))))
noncomputable def xR:S:=(.cons (.aN 6 (.aG (.lo 37) 34 .nil .nil))
 (.cons (.ite (.not (.fw .LtE .LtE (.ks [48]) (.lo 6) (.ks [57]))) .bK .nil)
 (.cons (.aN 89 (.a5 0))
 (.cons (.eR (.fw .LtE .LtE (.ks [48]) (.aG (.lo 37) 34 (.cons (.lo 89) .nil) .nil) (.ks [57])) (.cons (.gS 89 .Add (.a5 1))
 .nil))
 (.cons (.aN 71 (.sP (.aG (.lo 37) 91 (.cons (.lo 89) .nil) .nil)))
 (.cons (.exp (.aG (.lo 37) 104 (.cons (.lo 89) .nil) .nil))
 (.cons (.ret (.lo 71))
 .nil)))))))
noncomputable def xN:S:=(.cons (.eR (.cmp .Eq (.aG (.lo 37) 34 .nil .nil) (.ks [32])) (.cons (.exp (.aG (.lo 37) 104 .nil .nil))
 .nil))
 (.cons (.aN 87 (.aG (.lo 37) 309 (.cons (.lo 158) .nil) .nil))
 (.cons (.eR (.cmp .Eq (.aG (.lo 37) 34 .nil .nil) (.ks [32])) (.cons (.exp (.aG (.lo 37) 104 .nil .nil))
 .nil))
 (.cons (.aN 91 (.aG (.lo 37) 310 (.cons (.lo 158) .nil) .nil))
 (.cons (.ret (.tup (.cons (.lo 87) (.cons (.lo 91) .nil))))
 .nil)))))
noncomputable def KJ:S:=(.cons (.aN 71 (.aG (.lo 37) 235 (.cons (.ks [100,105,114,101,99,116,105,118,101]) (.cons (.lo 158) .nil)) .nil))
 (.cons (.aN 6 (.aG (.lo 37) 34 .nil .nil))
 (.cons (.ite (.cmp .NotEq (.lo 6) (.ks [32])) .bK .nil)
 (.cons (.ret (.lo 71))
 .nil))))
noncomputable def KL:S:=(.cons (.aN 71 (.aG (.lo 37) 189 (.cons (.ks [100,105,114,101,99,116,105,118,101]) (.cons (.lo 158) .nil)) .nil))
 (.cons (.aN 6 (.aG (.lo 37) 34 .nil .nil))
 (.cons (.ite (.cmp .NotIn (.lo 6) (.ks [0,32,13,10,133,8232,8233])) .bK .nil)
 (.cons (.ret (.lo 71))
 .nil))))
noncomputable def xK:S:=(.cons (.eR (.cmp .Eq (.aG (.lo 37) 34 .nil .nil) (.ks [32])) .bK)
 (.cons (.ite (.cmp .Eq (.aG (.lo 37) 34 .nil .nil) (.ks [35])) .bK .nil)
 (.cons (.aN 6 (.aG (.lo 37) 34 .nil .nil))
 (.cons (.ite (.cmp .NotIn (.lo 6) (.ks [0,13,10,133,8232,8233])) .bK .nil)
 (.cons (.exp (.aG (.lo 37) 234 .nil .nil))
 .nil)))))
noncomputable def xH:S:=(.cons (.ite (.cmp .Eq (.lo 68) (.ks [62])) (.cons (.aN 86 (.bF aa))
 .nil) (.cons (.aN 86 (.bF ac))
 .nil))
 (.cons (.aN 80 (.cell 100 .nil))
 (.cons (.aN 158 (.aG (.lo 37) 119 .nil .nil))
 (.cons (.exp (.aG (.lo 37) 104 .nil .nil))
 (.cons (.ast [115,135] (.aG (.lo 37) 317 (.cons (.lo 158) .nil) .nil))
 (.cons (.exp (.aG (.lo 37) 320 (.cons (.lo 158) .nil) .nil))
 (.cons (.aN 150 (.bin .Add (.at (.lo 37) 88) (.a5 1)))
 (.cons (.ite (.cmp .Lt (.lo 150) (.a5 1)) (.cons (.aN 150 (.a5 1))
 .nil) .nil)
 (.cons (.ite (.cmp .Is (.lo 135) .cq) (.cons (.ast [78,149,117] (.aG (.lo 37) 319 .nil .nil))
 (.cons (.aN 88 (.mY (.lo 150) (.lo 149)))
 .nil)) (.cons (.aN 88 (.bin .Sub (.bin .Add (.lo 150) (.lo 135)) (.a5 1)))
 (.cons (.ast [78,117] (.aG (.lo 37) 307 (.cons (.lo 88) .nil) .nil))
 .nil)))
 (.cons (.aN 148 (.ks []))
 (.cons (.eR (.and (.cons (.cmp .Eq (.at (.lo 37) 82) (.lo 88)) (.cons (.cmp .NotEq (.aG (.lo 37) 34 .nil .nil) (.ks [0])) .nil))) (.cons (.exp (.ext (.lo 80) (.lo 78)))
 (.cons (.aN 257 (.cmp .NotIn (.aG (.lo 37) 34 .nil .nil) (.ks [32,9])))
 (.cons (.aN 89 (.a5 0))
 (.cons (.eR (.cmp .NotIn (.aG (.lo 37) 34 (.cons (.lo 89) .nil) .nil) (.ks [0,13,10,133,8232,8233])) (.cons (.gS 89 .Add (.a5 1))
 .nil))
 (.cons (.exp (.cF (.lo 80) (.aG (.lo 37) 91 (.cons (.lo 89) .nil) .nil)))
 (.cons (.exp (.aG (.lo 37) 104 (.cons (.lo 89) .nil) .nil))
 (.cons (.aN 148 (.aG (.lo 37) 234 .nil .nil))
 (.cons (.ast [78,117] (.aG (.lo 37) 307 (.cons (.lo 88) .nil) .nil))
 (.cons (.ite (.and (.cons (.cmp .Eq (.at (.lo 37) 82) (.lo 88)) (.cons (.cmp .NotEq (.aG (.lo 37) 34 .nil .nil) (.ks [0])) .nil))) (.cons (.ite (.and (.cons (.lo 86) (.cons (.cmp .Eq (.lo 148) (.ks [10])) (.cons (.lo 257) (.cons (.cmp .NotIn (.aG (.lo 37) 34 .nil .nil) (.ks [32,9])) .nil))))) (.cons (.ite (.not (.lo 78)) .bK .nil)
 .nil) (.cons (.exp (.cF (.lo 80) (.lo 148)))
 .nil))
 .nil) (.cons .brk
 .nil))
 .nil))))))))))
 (.cons (.ite (.cmp .IsNot (.lo 115) (.bF ac)) (.cons (.exp (.cF (.lo 80) (.lo 148)))
 .nil) .nil)
 (.cons (.ite (.cmp .Is (.lo 115) (.bF aa)) (.cons (.exp (.ext (.lo 80) (.lo 78)))
 .nil) .nil)
 (.cons (.ret (.call (.gl 165) (.cons (.join (.ks []) (.lo 80)) (.cons (.bF ac) (.cons (.lo 158) (.cons (.lo 117) (.cons (.lo 68) .nil))))) .nil))
 .nil))))))))))))))
noncomputable def KG:S:=(.cons (.aN 115 .cq)
 (.cons (.aN 135 .cq)
 (.cons (.aN 6 (.aG (.lo 37) 34 .nil .nil))
 (.cons (.ite (.cmp .In (.lo 6) (.ks [43,45])) (.cons (.ite (.cmp .Eq (.lo 6) (.ks [43])) (.cons (.aN 115 (.bF aa))
 .nil) (.cons (.aN 115 (.bF ac))
 .nil))
 (.cons (.exp (.aG (.lo 37) 104 .nil .nil))
 (.cons (.aN 6 (.aG (.lo 37) 34 .nil .nil))
 (.cons (.ite (.cmp .In (.lo 6) (.ks [48,49,50,51,52,53,54,55,56,57])) .bK .nil)
 .nil)))) (.cons (.ite (.cmp .In (.lo 6) (.ks [48,49,50,51,52,53,54,55,56,57])) (.cons (.aN 135 (.sP (.lo 6)))
 (.cons (.ite (.cmp .Eq (.lo 135) (.a5 0)) .bK .nil)
 (.cons (.exp (.aG (.lo 37) 104 .nil .nil))
 (.cons (.aN 6 (.aG (.lo 37) 34 .nil .nil))
 (.cons (.ite (.cmp .In (.lo 6) (.ks [43,45])) (.cons (.ite (.cmp .Eq (.lo 6) (.ks [43])) (.cons (.aN 115 (.bF aa))
 .nil) (.cons (.aN 115 (.bF ac))
 .nil))
 (.cons (.exp (.aG (.lo 37) 104 .nil .nil))
 .nil)) .nil)
 .nil))))) .nil)
 .nil))
 (.cons (.aN 6 (.aG (.lo 37) 34 .nil .nil))
 (.cons (.ite (.cmp .NotIn (.lo 6) (.ks [0,32,13,10,133,8232,8233])) .bK .nil)
 (.cons (.ret (.tup (.cons (.lo 115) (.cons (.lo 135) .nil))))
 .nil)))))))
noncomputable def xI:S:=(.cons (.eR (.cmp .Eq (.aG (.lo 37) 34 .nil .nil) (.ks [32])) .bK)
 (.cons (.ite (.cmp .Eq (.aG (.lo 37) 34 .nil .nil) (.ks [35])) .bK .nil)
 (.cons (.aN 6 (.aG (.lo 37) 34 .nil .nil))
 (.cons (.ite (.cmp .NotIn (.lo 6) (.ks [0,13,10,133,8232,8233])) .bK .nil)
 (.cons (.exp (.aG (.lo 37) 234 .nil .nil))
 .nil)))))
noncomputable def xJ:S:=(.cons (.aN 80 (.cell 100 .nil))
 (.cons (.aN 149 (.a5 0))
 (.cons (.aN 117 (.aG (.lo 37) 119 .nil .nil))
 (.cons (.eR (.cmp .In (.aG (.lo 37) 34 .nil .nil) (.ks [32,13,10,133,8232,8233])) (.cons (.ite (.cmp .NotEq (.aG (.lo 37) 34 .nil .nil) (.ks [32])) .bK (.cons (.exp (.aG (.lo 37) 104 .nil .nil))
 (.cons (.ite (.cmp .Gt (.at (.lo 37) 82) (.lo 149)) (.cons (.aN 149 (.at (.lo 37) 82))
 .nil) .nil)
 .nil)))
 .nil))
 (.cons (.ret (.tup (.cons (.pf (.lo 80)) (.cons (.lo 149) (.cons (.lo 117) .nil)))))
 .nil)))))
noncomputable def sf:S:=(.cons (.aN 80 (.cell 100 .nil))
 (.cons (.aN 117 (.aG (.lo 37) 119 .nil .nil))
 (.cons (.eR (.and (.cons (.cmp .Lt (.at (.lo 37) 82) (.lo 88)) (.cons (.cmp .Eq (.aG (.lo 37) 34 .nil .nil) (.ks [32])) .nil))) (.cons (.exp (.aG (.lo 37) 104 .nil .nil))
 .nil))
 (.cons (.eR (.cmp .In (.aG (.lo 37) 34 .nil .nil) (.ks [13,10,133,8232,8233])) (.cons (.exp (.cF (.lo 80) (.aG (.lo 37) 234 .nil .nil)))
 (.cons (.aN 117 (.aG (.lo 37) 119 .nil .nil))
 (.cons (.eR (.and (.cons (.cmp .Lt (.at (.lo 37) 82) (.lo 88)) (.cons (.cmp .Eq (.aG (.lo 37) 34 .nil .nil) (.ks [32])) .nil))) (.cons (.exp (.aG (.lo 37) 104 .nil .nil))
 .nil))
 .nil))))
 (.cons (.ret (.tup (.cons (.pf (.lo 80)) (.cons (.lo 117) .nil))))
 .nil)))))
noncomputable def xO:S:=(.cons (.aN 6 (.aG (.lo 37) 34 .nil .nil))
 (.cons (.ite (.cmp .NotEq (.lo 6) (.ks [33])) .bK .nil)
 (.cons (.aN 89 (.a5 1))
 (.cons (.aN 6 (.aG (.lo 37) 34 (.cons (.lo 89) .nil) .nil))
 (.cons (.ite (.cmp .NotEq (.lo 6) (.ks [32])) (.cons (.eR (.or (.cons (.fw .LtE .LtE (.ks [48]) (.lo 6) (.ks [57])) (.cons (.fw .LtE .LtE (.ks [65]) (.lo 6) (.ks [90])) (.cons (.fw .LtE .LtE (.ks [97]) (.lo 6) (.ks [122])) (.cons (.cmp .In (.lo 6) (.ks [45,95])) .nil))))) (.cons (.gS 89 .Add (.a5 1))
 (.cons (.aN 6 (.aG (.lo 37) 34 (.cons (.lo 89) .nil) .nil))
 .nil)))
 (.cons (.ite (.cmp .NotEq (.lo 6) (.ks [33])) .bK .nil)
 (.cons (.gS 89 .Add (.a5 1))
 .nil))) .nil)
 (.cons (.aN 71 (.aG (.lo 37) 91 (.cons (.lo 89) .nil) .nil))
 (.cons (.exp (.aG (.lo 37) 104 (.cons (.lo 89) .nil) .nil))
 (.cons (.ret (.lo 71))
 .nil))))))))
noncomputable def xP:S:=(.cons (.aN 80 (.cell 100 .nil))
 (.cons (.aN 89 (.a5 0))
 (.cons (.aN 6 (.aG (.lo 37) 34 (.cons (.lo 89) .nil) .nil))
 (.cons (.eR (.or (.cons (.fw .LtE .LtE (.ks [48]) (.lo 6) (.ks [57])) (.cons (.fw .LtE .LtE (.ks [65]) (.lo 6) (.ks [90])) (.cons (.fw .LtE .LtE (.ks [97]) (.lo 6) (.ks [122])) (.cons (.cmp .In (.lo 6) (.ks [45,59,47,63,58,64,38,61,43,36,44,95,46,33,126,42,39,40,41,91,93,37])) .nil))))) (.cons (.ite (.cmp .Eq (.lo 6) (.ks [37])) .bK (.cons (.gS 89 .Add (.a5 1))
 .nil))
 (.cons (.aN 6 (.aG (.lo 37) 34 (.cons (.lo 89) .nil) .nil))
 .nil)))
 (.cons (.ite (.lo 89) (.cons (.exp (.cF (.lo 80) (.aG (.lo 37) 91 (.cons (.lo 89) .nil) .nil)))
 (.cons (.exp (.aG (.lo 37) 104 (.cons (.lo 89) .nil) .nil))
 (.cons (.aN 89 (.a5 0))
 .nil))) .nil)
 (.cons (.ite (.not (.lo 80)) .bK .nil)
 (.cons (.ret (.join (.ks []) (.lo 80)))
 .nil)))))))
noncomputable def KI:S:=(.cons (.aN 6 (.aG (.lo 37) 34 .nil .nil))
 (.cons (.ite (.cmp .In (.lo 6) (.ks [13,10,133])) (.cons (.ite (.cmp .Eq (.aG (.lo 37) 91 (.cons (.a5 2) .nil) .nil) (.ks [13,10])) (.cons (.exp (.aG (.lo 37) 104 (.cons (.a5 2) .nil) .nil))
 .nil) (.cons (.exp (.aG (.lo 37) 104 .nil .nil))
 .nil))
 (.cons (.ret (.ks [10]))
 .nil)) (.cons (.ite (.cmp .In (.lo 6) (.ks [8232,8233])) (.cons (.exp (.aG (.lo 37) 104 .nil .nil))
 (.cons (.ret (.lo 6))
 .nil)) .nil)
 .nil))
 (.cons (.ret (.ks []))
 .nil)))
noncomputable def qr:S:=(.cons (.exp (.mb 2029 1291 (.cons (.lo 97) .nil)))
 (.cons (.a9 (.lo 37) 199 .cq)
 (.cons (.a9 (.lo 37) 195 .cq)
 (.cons (.a9 (.lo 37) 179 (.o7 36))
 (.cons (.a9 (.lo 37) 96 (.cell 39 .nil))
 (.cons (.a9 (.lo 37) 60 (.cell 40 .nil))
 (.cons (.a9 (.lo 37) 67 (.at (.lo 37) 268))
 .nil)))))))
noncomputable def J9:S:=(.cons (.ite (.cmp .Is (.at (.lo 37) 199) .cq) (.cons (.ite (.at (.lo 37) 67) (.cons (.a9 (.lo 37) 199 (.aG (.lo 37) 67 .nil .nil))
 .nil) .nil)
 .nil) .nil)
 (.cons (.ret (.at (.lo 37) 199))
 .nil))
noncomputable def J2:S:=(.cons (.ite (.cmp .Is (.at (.lo 37) 199) .cq) .bK .nil)
 (.cons (.aN 71 (.at (.lo 37) 199))
 (.cons (.a9 (.lo 37) 199 .cq)
 (.cons (.ret (.lo 71))
 .nil))))
noncomputable def J8:S:=(.cons (.aN 70 (.aG (.lo 37) 134 .nil .nil))
 (.cons (.aN 50 (.call (.gl 240) (.cons (.at (.lo 70) 158) (.cons (.at (.lo 70) 117) .nil)) (.eZ 116 (.at (.lo 70) 116) .nil)))
 (.cons (.a9 (.lo 37) 67 (.at (.lo 37) 318))
 (.cons (.ret (.lo 50))
 .nil))))
noncomputable def J6:S:=(.cons (.ite (.not (.aG (.lo 37) 170 (.cons (.tup (.cons (.at (.gl 206) 7) (.cons (.at (.gl 261) 7) (.cons (.at (.gl 210) 7) .nil)))) .nil) .nil)) (.cons (.a9 (.lo 37) 179 (.at (.lo 37) 180))
 (.cons (.aN 70 (.aG (.lo 37) 154 .nil .nil))
 (.cons (.jB [158,117] (.at (.lo 70) 158))
 (.cons (.aN 50 (.call (.gl 260) (.cons (.lo 158) (.cons (.lo 117) .nil)) (.eZ 118 (.bF ac) .nil)))
 (.cons (.exp (.cF (.at (.lo 37) 96) (.at (.lo 37) 267)))
 (.cons (.a9 (.lo 37) 67 (.at (.lo 37) 249))
 (.cons (.ret (.lo 50))
 .nil))))))) (.cons (.ret (.aG (.lo 37) 293 .nil .nil))
 .nil))
 .nil)
noncomputable def xG:S:=(.cons (.eR (.aG (.lo 37) 170 (.cons (.tup (.cons (.at (.gl 238) 7) .nil)) .nil) .nil) .bK)
 (.cons (.ite (.not (.aG (.lo 37) 170 (.cons (.tup (.cons (.at (.gl 210) 7) .nil)) .nil) .nil)) (.cons (.aN 70 (.aG (.lo 37) 154 .nil .nil))
 (.cons (.aN 158 (.at (.lo 70) 158))
 (.cons (.ast [110,39] (.aG (.lo 37) 271 .nil .nil))
 (.cons (.ite (.not (.aG (.lo 37) 170 (.cons (.tup (.cons (.at (.gl 261) 7) .nil)) .nil) .nil)) .bK .nil)
 (.cons (.aN 70 (.aG (.lo 37) 134 .nil .nil))
 (.cons (.aN 117 (.at (.lo 70) 117))
 (.cons (.aN 50 (.call (.gl 260) (.cons (.lo 158) (.cons (.lo 117) .nil)) (.eZ 118 (.bF aa) (.eZ 110 (.lo 110) (.eZ 39 (.lo 39) .nil)))))
 (.cons (.exp (.cF (.at (.lo 37) 96) (.at (.lo 37) 267)))
 (.cons (.a9 (.lo 37) 67 (.at (.lo 37) 301))
 .nil))))))))) (.cons (.aN 70 (.aG (.lo 37) 134 .nil .nil))
 (.cons (.aN 50 (.call (.gl 209) (.cons (.at (.lo 70) 158) (.cons (.at (.lo 70) 117) .nil)) .nil))
 (.cons (.sb (.not (.at (.lo 37) 96)))
 (.cons (.sb (.not (.at (.lo 37) 60)))
 (.cons (.a9 (.lo 37) 67 .cq)
 .nil))))))
 (.cons (.ret (.lo 50))
 .nil)))
noncomputable def J5:S:=(.cons (.aN 70 (.aG (.lo 37) 154 .nil .nil))
 (.cons (.jB [158,117] (.at (.lo 70) 158))
 (.cons (.aN 118 (.bF ac))
 (.cons (.ite (.aG (.lo 37) 170 (.cons (.tup (.cons (.at (.gl 238) 7) .nil)) .nil) .nil) (.cons (.aN 70 (.aG (.lo 37) 134 .nil .nil))
 (.cons (.aN 117 (.at (.lo 70) 117))
 (.cons (.aN 118 (.bF aa))
 .nil))) .nil)
 (.cons (.aN 50 (.call (.gl 237) (.cons (.lo 158) (.cons (.lo 117) .nil)) (.eZ 118 (.lo 118) .nil)))
 (.cons (.a9 (.lo 37) 67 (.at (.lo 37) 293))
 (.cons (.ret (.lo 50))
 .nil)))))))
noncomputable def J4:S:=(.cons (.ite (.aG (.lo 37) 170 (.cons (.tup (.cons (.at (.gl 206) 7) (.cons (.at (.gl 261) 7) (.cons (.at (.gl 238) 7) (.cons (.at (.gl 210) 7) .nil))))) .nil) .nil) .bK (.cons (.ret (.aG (.lo 37) 249 .nil .nil))
 .nil))
 .nil)
noncomputable def Cs:S:=(.cons (.a9 (.lo 37) 195 .cq)
 (.cons (.a9 (.lo 37) 179 (.o7 36))
 (.cons (.eR (.aG (.lo 37) 170 (.cons (.tup (.cons (.at (.gl 206) 7) .nil)) .nil) .nil) (.cons (.aN 70 (.aG (.lo 37) 134 .nil .nil))
 (.cons (.ite (.cmp .Eq (.at (.lo 70) 33) (.ks [89,65,77,76])) (.cons (.ite (.cmp .IsNot (.at (.lo 37) 195) .cq) .bK .nil)
 (.cons (.ast [59,61] (.at (.lo 70) 71))
 (.cons (.ite (.cmp .NotEq (.lo 59) (.a5 1)) .bK .nil)
 (.cons (.a9 (.lo 37) 195 (.at (.lo 70) 71))
 .nil)))) (.cons (.ite (.cmp .Eq (.at (.lo 70) 33) (.ks [84,65,71])) (.cons (.ast [87,91] (.at (.lo 70) 71))
 (.cons (.ite (.cmp .In (.lo 87) (.at (.lo 37) 179)) .bK .nil)
 (.cons (.qp (.at (.lo 37) 179) (.lo 87) (.lo 91))
 .nil))) .nil)
 .nil))
 .nil)))
 (.cons (.ite (.at (.lo 37) 179) (.cons (.aN 71 (.tup (.cons (.at (.lo 37) 195) (.cons (.uJ (.at (.lo 37) 179)) .nil))))
 .nil) (.cons (.aN 71 (.tup (.cons (.at (.lo 37) 195) (.cons .cq .nil))))
 .nil))
 (.cons (.fr 13 (.at (.lo 37) 180) (.cons (.ite (.cmp .NotIn (.lo 13) (.at (.lo 37) 179)) (.cons (.qp (.at (.lo 37) 179) (.lo 13) (.cn (.at (.lo 37) 180) (.lo 13)))
 .nil) .nil)
 .nil))
 (.cons (.ret (.lo 71))
 .nil))))))
noncomputable def J3:S:=(.cons (.ret (.aG (.lo 37) 152 .nil (.eZ 47 (.bF aa) .nil)))
 .nil)
noncomputable def J7:S:=(.cons (.ite (.aG (.lo 37) 170 (.cons (.tup (.cons (.at (.gl 140) 7) .nil)) .nil) .nil) .bK (.cons (.aN 76 .cq)
 (.cons (.aN 19 .cq)
 (.cons (.jB [158,117,122] .cq)
 (.cons (.ite (.aG (.lo 37) 170 (.cons (.tup (.cons (.at (.gl 161) 7) .nil)) .nil) .nil) .bK (.cons (.ite (.aG (.lo 37) 170 (.cons (.tup (.cons (.at (.gl 112) 7) .nil)) .nil) .nil) .bK .nil)
 .nil))
 (.cons (.ite (.cmp .IsNot (.lo 19) .cq) .bK .nil)
 (.cons (.ite (.cmp .Is (.lo 158) .cq) (.cons (.jB [158,117] (.at (.aG (.lo 37) 154 .nil .nil) 158))
 .nil) .nil)
 (.cons (.aN 50 .cq)
 (.cons (.aN 120 (.or (.cons (.cmp .Is (.lo 19) .cq) (.cons (.cmp .Eq (.lo 19) (.ks [33])) .nil))))
 (.cons (.ite (.and (.cons (.lo 283) (.cons (.aG (.lo 37) 170 (.cons (.tup (.cons (.at (.gl 221) 7) .nil)) .nil) .nil) .nil))) .bK (.cons (.ite (.aG (.lo 37) 170 (.cons (.tup (.cons (.at (.gl 165) 7) .nil)) .nil) .nil) (.cons (.aN 70 (.aG (.lo 37) 134 .nil .nil))
 (.cons (.aN 117 (.at (.lo 70) 117))
 (.cons (.ite (.or (.cons (.and (.cons (.at (.lo 70) 63) (.cons (.cmp .Is (.lo 19) .cq) .nil))) (.cons (.cmp .Eq (.lo 19) (.ks [33])) .nil))) .bK (.cons (.ite (.cmp .Is (.lo 19) .cq) (.cons (.aN 120 (.tup (.cons (.bF ac) (.cons (.bF aa) .nil))))
 .nil) .bK)
 .nil))
 (.cons (.aN 50 (.call (.gl 164) (.cons (.lo 76) (.cons (.lo 19) (.cons (.lo 120) (.cons (.at (.lo 70) 71) (.cons (.lo 158) (.cons (.lo 117) .nil)))))) (.eZ 68 (.at (.lo 70) 68) .nil)))
 (.cons (.a9 (.lo 37) 67 (.rf (.at (.lo 37) 96)))
 .nil))))) .bK)
 .nil))
 .nil))))))))))
 (.cons (.ret (.lo 50))
 .nil))
noncomputable def KS:S:=(.cons (.ret (.lst (.cons .cq (.cons (.ks [13]) (.cons (.ks [13,10]) (.cons (.ks [10]) (.cons (.ks [120]) .nil)))))))
 .nil)
noncomputable def KU:S:=(.cons (.ret (.j8 (.lo 40) (.rd (.lo 40)) (.a5 0)))
 .nil)
noncomputable def Cw:S:=(.cons (.aN 58 (.cell 100 .nil))
 (.cons (.aN 30 (.ks []))
 (.cons (.fr 1 (.lo 71) (.cons (.ite (.cmp .In (.lo 1) (.ks [10,8232])) (.cons (.exp (.cF (.lo 58) (.tup (.cons (.lo 30) (.cons (.lo 1) .nil)))))
 (.cons (.aN 30 (.ks []))
 .nil)) (.cons (.gS 30 .Add (.lo 1))
 .nil))
 .nil))
 (.cons (.ite (.lo 30) (.cons (.exp (.cF (.lo 58) (.tup (.cons (.lo 30) (.cons (.ks []) .nil)))))
 .nil) .nil)
 (.cons (.ret (.pf (.lo 58)))
 .nil)))))
noncomputable def xU:S:=(.cons (.gS 27 .Add (.lo 68))
 (.cons (.ite (.or (.cons (.cmp .Eq (.cn (.cn (.lo 58) (.a5 0)) (.a5 0)) (.ks [])) (.cons (.cmp .Eq (.cn (.cn (.cn (.lo 58) (.a5 0)) (.a5 0)) (.a5 0)) (.ks [32])) .nil))) (.cons (.gS 27 .Add (.rm (.lo 38)))
 .nil) .nil)
 (.cons (.ite (.cmp .Eq (.cn (.cn (.lo 58) (.neg (.a5 1))) (.a5 1)) (.ks [])) (.cons (.gS 27 .Add (.ks [45]))
 .nil) (.cons (.ite (.cmp .Eq (.cn (.cn (.lo 58) (.neg (.a5 1))) (.a5 0)) (.ks [])) (.cons (.gS 27 .Add (.ks [43]))
 .nil) .nil)
 .nil))
 (.cons (.aN 36 (.cell 100 (.cons (.bin .Add (.lo 27) (.lo 83)) .nil)))
 (.cons (.qI 2 (.len (.lo 58)) (.cons (.ast [30,9] (.cn (.lo 58) (.lo 2)))
 (.cons (.exp (.cF (.lo 36) (.bin .Add (.j8 (.lo 30) (.bin .Add (.bin .Mult (.ks [32]) (.lo 38)) (.lo 30)) (.ks [])) (.j8 (.cmp .Eq (.lo 9) (.ks [8232])) (.lo 9) (.lo 83)))))
 (.cons (.ite (.and (.cons (.cmp .Eq (.lo 68) (.ks [62])) (.cons (.cmp .NotEq (.aK (.lo 30) .no (.a5 1)) (.ks [])) (.cons (.cmp .NotEq (.cn (.lo 30) (.a5 0)) (.ks [32])) (.cons (.cmp .Eq (.lo 9) (.ks [10])) .nil))))) (.cons (.uu 56 62 0 (.aK (.lo 58) (.bin .Add (.lo 2) (.a5 1)) .no))
 (.cons (.ite (.and (.cons (.lo 56) (.cons (.cmp .NotEq (.cn (.cn (.lo 56) (.a5 0)) (.a5 0)) (.ks [32])) .nil))) (.cons (.exp (.cF (.lo 36) (.lo 83)))
 .nil) .nil)
 .nil)) .nil)
 .nil))))
 (.cons (.ret (.pf (.lo 36)))
 .nil))))))
noncomputable def KV:S:=(.cons (.ite (.gy (.lo 50) (.gl 164)) (.cons (.ret (.tup (.cons (.ks [116,101,120,116]) (.cons (.at (.lo 50) 71) (.cons (.at (.lo 50) 68) .nil)))))
 .nil) .nil)
 (.cons (.ite (.gy (.lo 50) (.gl 260)) (.cons (.ret (.tup (.cons (.ks [100,111,99,117,109,101,110,116]) (.cons (.at (.lo 50) 118) (.cons (.at (.lo 50) 110) (.cons (.at (.lo 50) 39) .nil))))))
 .nil) .nil)
 (.cons (.ite (.gy (.lo 50) (.gl 237)) (.cons (.ret (.tup (.cons (.ks [100,111,99,117,109,101,110,116,32,101,110,100]) (.cons (.at (.lo 50) 118) .nil))))
 .nil) .nil)
 (.cons (.ite (.gy (.lo 50) (.gl 240)) (.cons (.ret (.tup (.cons (.ks [115,116,114,101,97,109]) .nil)))
 .nil) .nil)
 (.cons (.ret (.j8 (.gy (.lo 50) (.gl 209)) (.tup (.cons (.ks [115,116,114,101,97,109,32,101,110,100]) .nil)) (.tup (.cons (.ks [97,110,111,116,104,101,114]) .nil))))
 .nil)))))
def aI (pt:List (Nat×a3)):cL:=⟨jm,jl,ma,oj,gC,pt,[]⟩
def jK (C:Nat) (ns:List Nat):a3:=λfull hp K=> ∃l,eL full=ab l/\bA l.length ns.length=aa/\K (.f (.inst C ns l)) hp
noncomputable def nP (a b:b4):Bool:=match a with
 | []=>aa
 |p::r=> (match aL p.1 b with
  |none=>aa
  |some _=>ac)&&nP r b
def OE (C id:Nat) (eK:a3):a3:=λfull hp K=> (eL full).isSome=aa/\eK (.ap id::full) [(id,.inst C [] [])] λr dn=>r= .f .none/\nP dn hp=aa/\(aL id dn).isSome=aa/\K (.ap id) (dn++hp)
def EO (C id:Nat) (eK:a3):a3:=λfull hp K=>aL id hp=af/\eK (.ap id::full) ((id,.inst C [] [])::hp) λr dn=>r= .f .none/\(aL id dn).isSome=aa/\K (.ap id) dn
def ahg:a3:=bH (aI []) [37,33,71,158,117] [] Jz
def ahi:a3:=bH (aI []) [37,158,117,118] [] JA
def ahl:a3:=bH (aI []) [37,158,117,118,110,39] [] JB
@[irreducible] def Aj:a3:=bH (aI []) [37,97,129,88,72,198,148] [] xF
def FY:a3:=bH (aI []) [37] [50] JC
@[irreducible] def Ah:a3:=bH (aI []) [37,41] [54] Cm
def ahn:a3:=bH (aI []) [37] [] JK
def F5:a3:=bH (aI []) [37,26,146] [] JL
@[irreducible] def wc:a3:=bH (aI []) [37,48] [57,50] JM
@[irreducible] def F6:a3:=bH (aI []) [37,87] [6] JO
@[irreducible] def F7:a3:=bH (aI []) [37,91] [80,66,9,6,23] Cp
def F8:a3:=bH (aI []) [37,110] [59,61] JP
def F9:a3:=bH (aI []) [37,137] [] JQ
def ahp:a3:=bH (aI []) [37] [] JX
def ahq:a3:=bH (aI []) [37,158,117] [] J0
def ahs:a3:=bH (aI []) [37,33,55,30,82,79,109] [] J1
@[irreducible] def Gg:a3:=bH (aI []) [37] [71] J2
@[irreducible] def tz:a3:=bH (aI []) [37,55] [] Kc
def Gl:a3:=bH (aI []) [37,89] [] Ke
def Ar:a3:=bH (aI []) [37] [] Kg
def Gm:a3:=bH (aI []) [37] [] Kh
def Gn:a3:=bH (aI []) [37,23] [] Ki
def ahu:a3:=bH (aI []) [37,92,49,138,242,254,279,278,167] [] Kj
def ahw:a3:=bH (aI []) [37,76,19,120,71,158,117,68] [] Kk
def ahy:a3:=bH (aI []) [37,71,63,158,117,68] [] Kl
def Qz:a3:=bH (aI []) [37] [] Km
@[irreducible] def GA:a3:=bH (aI []) [37] [246,57,13] KC
@[irreducible] def GC:a3:=bH (aI []) [37] [13] KE
@[irreducible] def GO:a3:=bH (aI []) [37] [57,13] KN
@[irreducible] def Av:a3:=bH (aI []) [37,82] [32] xT
def ahC:a3:=bH (aI []) [37,158,117,116] [] KO
def ahE:a3:=bH (aI []) [37,158,117,116] [] KP
def ahF:a3:=bH (aI []) [37,158,117] [] KQ
@[irreducible] def GP:a3:=bH (aI []) [6] [] KR
def ahG:a3:=bH (aI []) [] [] KS
@[irreducible] def GQ:a3:=bH (aI []) [71] [58,30,1] Cw
def wj:a3:=bH (aI []) [40] [] KU
@[irreducible] def GR:a3:=bH (aI []) [27,68,58,38,83] [36,2,30,9,56] xU
@[irreducible] def GS:a3:=bH (aI []) [50] [] KV
noncomputable def eK:List (Nat×a3):=(873,ahg)::(245,ahi)::(225,ahl)::(379,Aj)::(615,FY)::(774,Ah)::(699,ahn)::(415,F5)::(407,wc)::(664,F6)::(671,F7)::(657,F8)::(629,F9)::(706,ahp)::(112,ahq)::(35,ahs)::(1841,Gg)::(1198,tz)::(1235,Gl)::(817,Ar)::(831,Gm)::(824,Gn)::(356,ahu)::(277,ahw)::(1138,ahy)::(1559,Qz)::(1335,GA)::(1356,GC)::(1342,GO)::(1363,Av)::(193,ahC)::(917,ahE)::(852,ahF)::(1176,GP)::(2039,ahG)::(2057,GQ)::(2050,wj)::(2062,GR)::(2069,GS):: []
def ahf:a3:=jK 876 [33,71,158,117]
def ahh:a3:=jK 248 [158,117,118]
def ahj:a3:=jK 900 [158,117]
def ahk:a3:=jK 228 [158,117,118,110,39]
def ahm:a3:=jK 888 [158,117]
def Qw:a3:=EO 799 10 Aj
def F4:a3:=bH (aI eK) [37] [] JJ
@[irreducible] def ot:a3:=bH (aI eK) [37] [50] JN
@[irreducible] def Ak:a3:=bH (aI eK) [37,137,231,160,136] [23] JU
@[irreducible] def tu:a3:=bH (aI eK) [37,23] [] JV
def aho:a3:=bH (aI eK) [37] [] JW
def ahr:a3:=jK 53 [33,55,30,82,79,109]
@[irreducible] def Gi:a3:=bH (aI eK) [37,23] [66,130] Ct
@[irreducible] def Aq:a3:=bH (aI eK) [37,89] [6] Cu
@[irreducible] def Gk:a3:=bH (aI eK) [37,89] [] Kd
def Qy:a3:=EO 834 14 Ar
def aht:a3:=jK 359 [92,49,138,242,254,279,278,167]
def ahv:a3:=jK 280 [76,19,120,71,158,117,68]
def ahx:a3:=jK 1141 [71,63,158,117,68]
@[irreducible] def we:a3:=bH (aI eK) [37] [] KA
def ahz:a3:=jK 208 [158,117]
def ahA:a3:=jK 932 [158,117]
def ahB:a3:=jK 196 [158,117,116]
def ahD:a3:=jK 920 [158,117,116]
def eP:List (Nat×a3):=(876,ahf)::(248,ahh)::(900,ahj)::(228,ahk)::(888,ahm)::(799,Qw)::(422,F4)::(400,ot)::(721,Ak)::(736,tu)::(713,aho)::(53,ahr)::(1228,Gi)::(1214,Aq)::(1206,Gk)::(834,Qy)::(359,aht)::(280,ahv)::(1141,ahx)::(1321,we)::(208,ahz)::(932,ahA)::(196,ahB)::(920,ahD)::eK
@[irreducible] def FX:a3:=bH (aI eP) [37,92] [244,228,174,274,203,202,220,219,169,178,302,300,214,213,55,6,275,242,254,279,278,167] Ck
@[irreducible] def ou:a3:=bH (aI eP) [37] [88,23] JT
@[irreducible] def Ge:a3:=bH (aI eP) [37,173,176] [23] JY
@[irreducible] def Gf:a3:=bH (aI eP) [37,192] [23] JZ
@[irreducible] def Gj:a3:=bH (aI eP) [37,97] [] Kb
@[irreducible] def wd:a3:=bH (aI eP) [37] [] Ka
def QA:a3:=bH (aI eP) [37] [] Kn
def QB:a3:=bH (aI eP) [37] [] Ko
@[irreducible] def Gy:a3:=bH (aI eP) [37] [] Kz
@[irreducible] def wh:a3:=bH (aI eP) [37,158] [115,135,6] KG
@[irreducible] def GG:a3:=bH (aI eP) [37,158] [89,6,71] xM
@[irreducible] def wi:a3:=bH (aI eP) [37] [6] KI
@[irreducible] def GI:a3:=bH (aI eP) [37,33,158] [6,89,71] xO
@[irreducible] def GJ:a3:=bH (aI eP) [37,33,158] [80,89,6] xP
@[irreducible] def GL:a3:=bH (aI eP) [37,158] [6,89,71] xR
def dr:List (Nat×a3):=(692,FX)::(728,ou)::(750,Ge)::(743,Gf)::(1190,Gj)::(1221,wd)::(1573,QA)::(1566,QB)::(1314,Gy)::(1692,wh)::(1622,GG)::(1786,wi)::(1765,GI)::(1772,GJ)::(1636,GL)::eP
@[irreducible] def FZ:a3:=bH (aI dr) [37] [] JD
@[irreducible] def F0:a3:=bH (aI dr) [37] [] JE
@[irreducible] def wb:a3:=bH (aI dr) [37,51] [192,105,87,91,173,176,120] Co
@[irreducible] def Gc:a3:=bH (aI dr) [37,41] [54,203,95,78,66,9,6,5,23] Cq
@[irreducible] def Gd:a3:=bH (aI dr) [37,41] [54,78,66,9,6,5,23] Cr
@[irreducible] def Ao:a3:=bH (aI dr) [37] [70,50] J8
def QD:a3:=bH (aI dr) [37,141] [158,117] Ks
@[irreducible] def Gw:a3:=bH (aI dr) [37] [32] Kx
@[irreducible] def Gx:a3:=bH (aI dr) [37] [32] Ky
@[irreducible] def wg:a3:=bH (aI dr) [37,88] [80,117] sf
@[irreducible] def Au:a3:=bH (aI dr) [37,158] [6] xI
@[irreducible] def tA:a3:=bH (aI dr) [37] [80,149,117] xJ
@[irreducible] def GF:a3:=bH (aI dr) [37,158] [6] xK
def QE:a3:=bH (aI dr) [37,158] [71,6] KJ
def QF:a3:=bH (aI dr) [37,158] [71,6] KL
@[irreducible] def GK:a3:=bH (aI dr) [37] [53] xQ
@[irreducible] def GN:a3:=bH (aI dr) [37,158] [59,61] xS
def g0:List (Nat×a3):=(643,FZ)::(451,F0)::(444,wb)::(781,Gc)::(788,Gd)::(1848,Ao)::(1412,QD)::(1384,Gw)::(1377,Gx)::(1713,wg)::(1699,Au)::(1706,tA)::(1664,GF)::(1650,QE)::(1657,QF)::(1608,GK)::(1629,GN)::dr
@[irreducible] def F1:a3:=bH (aI g0) [37] [] JG
@[irreducible] def Ga:a3:=bH (aI g0) [37] [65] JR
@[irreducible] def Gb:a3:=bH (aI g0) [37] [19] JS
@[irreducible] def Gz:a3:=bH (aI g0) [37,97] [] qs
@[irreducible] def Gr:a3:=bH (aI g0) [37] [] Kr
@[irreducible] def Gs:a3:=bH (aI g0) [37] [] Kt
@[irreducible] def As:a3:=bH (aI g0) [37,68] [86,80,158,115,135,150,78,149,117,88,148,257,89] xH
@[irreducible] def GH:a3:=bH (aI g0) [37,158] [87,91] xN
def pJ:List (Nat×a3):=(436,F1)::(650,Ga)::(636,Gb)::(1291,Gz)::(1405,Gr)::(1398,Gs)::(1685,As)::(1643,GH)::g0
@[irreducible] def F3:a3:=bH (aI pJ) [37] [] JI
@[irreducible] def Al:a3:=bH (aI pJ) [37,97] [] qr
def QC:a3:=bH (aI pJ) [37,68] [] Kp
@[irreducible] def GD:a3:=bH (aI pJ) [37] [158,33,71,117] KH
def pK:List (Nat×a3):=(480,F3)::(1820,Al)::(1524,QC)::(1615,GD)::pJ
@[irreducible] def F2:a3:=bH (aI pK) [37,35,121,108,157] [] JH
def Qx:a3:=OE 2029 30 Al
@[irreducible] def Gq:a3:=bH (aI pK) [37] [] Kq
@[irreducible] def Gu:a3:=bH (aI pK) [37] [] Ku
@[irreducible] def Gv:a3:=bH (aI pK) [37] [] Kv
def td:List (Nat×a3):=(466,F2)::(2029,Qx)::(1391,Gq)::(1517,Gu)::(1510,Gv)::pK
@[irreducible] def Ai:a3:=bH (aI td) [37] [] JF
@[irreducible] def rv:a3:=bH (aI td) [37] [6] Kw
def kg:List (Nat×a3):=(458,Ai)::(1328,rv)::td
@[irreducible] def md:a3:=bH (aI kg) [37,50] [] Cn
@[irreducible] def Gp:a3:=bH (aI kg) [37,102] [] Cv
@[irreducible] def GB:a3:=bH (aI kg) [37] [] KD
def iP:List (Nat×a3):=(393,md)::(1300,Gp)::(1307,GB)::kg
@[irreducible] def tv:a3:=bH (aI iP) [37] [70,158,117,118,50] J5
@[irreducible] def Gh:a3:=bH (aI iP) [37,47,283] [70,50,76,19,158,117,122,87,120] J7
@[irreducible] def Ap:a3:=bH (aI iP) [37] [70,59,61,87,91,71,13] Cs
def pL:List (Nat×a3):=(1869,tv)::(1912,Gh)::(1883,Ap)::iP
@[irreducible] def Am:a3:=bH (aI pL) [37] [] J3
@[irreducible] def ru:a3:=bH (aI pL) [37] [70,158,110,39,117,50] xG
def tc:List (Nat×a3):=(1890,Am)::(1862,ru)::pL
@[irreducible] def An:a3:=bH (aI tc) [37] [50] J4
@[irreducible] def tw:a3:=bH (aI tc) [37] [70,158,117,50] J6
def vN:List (Nat×a3):=(1876,An)::(1855,tw)::tc
@[irreducible] def tx:a3:=bH (aI vN) [37] [] J9
def pI:List (Nat×a3):=(1834,tx)::vN
theorem aV {T:cL} {a8 ex:List Nat} {b:S} {full:List ae} {hp h:b4} {r:ae} (g: ∀(G:Prop) (K:ae->b4->Prop),aB.path G (bN T b ⟨locs a8 full ex,hp,[],[]⟩ (kh K))->K r h->G):aJ (bH T a8 ex b full hp) r h:=
 λK k=>g _ K (aB.rb _ id) k
theorem b9 {t:St->(Bool->St->aB)->aB} {b:St->(cD->St->aB)->aB} {σ σ':St} {o:Option cD} (g: ∀(G:Prop) (W:Option cD->St->Prop),aB.path G (t σ λr σ=>cond r (b σ (cp W)) (.ret (W (ab .aQ) σ)))->W o σ'->G):aJ (kO t b σ) o σ':=
 λW w=>g _ W (aB.rb _ id) w
theorem fb {t:St->(Bool->St->aB)->aB} {b:St->(cD->St->aB)->aB} {σ σ₁ σ':St} {f:cD} (h:aJ (kO t b σ) af σ₁) (k:aJ (fa t b σ₁) f σ'):aJ (fa t b σ) f σ':=
 λK q=>ak (k K q) λn w=> ⟨n+1,h _ w⟩
theorem eQ {t:St->(Bool->St->aB)->aB} {b:St->(cD->St->aB)->aB} {σ σ':St} {f:cD} (h:aJ (kO t b σ) (ab f) σ'):aJ (fa t b σ) f σ':=
 λ_ q=> ⟨1,h _ q⟩
def jC (b:St->(cD->St->aB)->aB) (σ:St) (W:Option cD->St->Prop):Prop:=(b σ (cp W)).holds
theorem gT {b:St->(cD->St->aB)->aB} {σ σ':St} {o:Option cD} (g: ∀(G:Prop) (W:Option cD->St->Prop),aB.path G (b σ (cp W))->W o σ'->G):aJ (jC b σ) o σ':=λW w=>g _ W (aB.rb _ id) w
theorem k9 {n:Nat} {b:St->(cD->St->aB)->aB} {v:ae} {l:List ae} {σ σ₁ σ':St} {f:cD} (h:aJ (jC b ⟨nf n v σ.loc,σ.hp,σ.lh,σ.lu⟩) af σ₁) (k:aJ (gW n b l σ₁) f σ'):aJ (gW n b (v::l) σ) f σ':=λK q=>h _ (k K q)
theorem la {n:Nat} {b:St->(cD->St->aB)->aB} {σ:St}:aJ (gW n b [] σ) .aQ σ:=λ_ q=>q
theorem kJ {α β:Type} {W:(α->β->Prop)->Prop} {a i2:α} {b fN:β} (h:aJ W a b) (e:a=i2) (cM:b=fN):aJ W i2 fN:=e▸cM▸h
noncomputable def S.hd:S->S
 | .cons a _=>a
 |_=> .nil
noncomputable def S.aO:S->S
 | .cons _ r=>r
 |_=> .nil
noncomputable def S.bd:S->S
 | .eR _ b=>b
 | .fr _ _ b=>b
 | .sy _ _ _ b=>b
 | .ite _ b _=>b
 |_=> .nil
noncomputable def S.df:S->X
 | .eR c _=>c
 |_=> .nil
structure Ps where
 buf:List Nat
 done:Bool
 tt:Nat
 ask:Bool
 dJ:Nat
 ce:aj
 QW:aj
 FQ:ae
 st:ae
 tok:List ae
 fA:List ae
 r:b4
def DV (c:Nat):Bool:=bO [c] [10,133,8232,8233]
def bump (c d:Nat):Bool:=DV c|| (aM [c] [13]&& !aM [d] [10])
def hB (c d:Nat) (x:Nat×Nat):Nat×Nat:=cond (bump c d) (x.1+1,0) (x.1,cond (aM [c] [65279]) x.2 (x.2+1))
noncomputable def zb:Nat->List Nat->Nat×Nat->Nat×Nat
 |n+1,c::r,x=>zb n r (hB c (r.headD 0) x)
 |_,_,x=>x
theorem aaA {c:Nat} {t:List Nat}: ∀(a:List Nat) (x:Nat×Nat),zb (a.length+1) (a++c::t) x=hB c (t.headD 0) (zb a.length (a++c::t) x):=λa=>by
 induction a with
 |nil=>exact λx=>rfl
 |cons y a ai=>exact λx=>ai _
noncomputable def pos (b t:List Nat):Nat:=b.length-t.length
def cx (b t:List Nat):Nat×Nat:=zb (pos b t) b (0,0)
def bD (b t:List Nat):Prop:= ∃a,b=a++t
theorem bD.aO {b s t:List Nat} (h:bD b (s++t)):bD b t:=ak h λa e=> ⟨a++s,e.trans (bt a s t).symm⟩
theorem vM (a t:List Nat):pos (a++t) t=a.length:=(congrArg (· -t.length) bL).trans (R0 ..)
theorem bD.get {b t:List Nat} (h:bD b t) (i:Nat):b[pos b t+i]? =t[i]? :=ak h λa e=>by
 subst e;rw[vM,tN (gG ..),A9]
theorem bD.Pl {b t:List Nat} {c:Nat} (h:bD b (c::t)):pos b t=pos b (c::t)+1:=ak h λa e=>by
 subst e;rw[vM,show a++c::t=a++ [c]++t from(bt a [c] t).symm,vM,bL];rfl
theorem bD.hB {b t:List Nat} {c:Nat} (h:bD b (c::t)):cx b t=Q7.hB c (t.headD 0) (cx b (c::t)):=by
 unfold cx;rw[h.Pl];exact ak h λa e=>by subst e;rw[vM];exact aaA a _
noncomputable abbrev acj:List Nat:= [33,97,218,10,79,109,155,156,116,55,30,82,24,145,98,191,88,107,243,294,199,195,179,96,60,67]
noncomputable abbrev zV:List Nat:= [60,117,110,105,99,111,100,101,32,115,116,114,105,110,103,62]
def Ps.sF (p:Ps) (i:Nat) (x:Nat×Nat):b4:=(30,.inst 2029 acj [.f (.str zV),.f .none,.f (.int 0),.f (.bool aa),.f (.str p.buf),.f (.int (.ofNat i)),.f .none,.f .none,.f .none,.f (.int (.ofNat i)),
  .f (.int (.ofNat x.1)),.f (.int (.ofNat x.2)),.f (.bool p.done),.f (.int 0),.ap 31,.f (.int (.ofNat p.tt)),.f (.int (-1)),.ap 32,.f (.bool p.ask),.ap p.dJ,.f p.ce,.f p.QW,p.FQ,.ap 39,.ap 40,p.st])::
  (31,.list p.tok)::(32,.list [])::(33,.dict [] [])::(36,.dict [] [])::(39,.list p.fA)::(40,.list [])::p.r
def Ps.hp (p:Ps) (t:List Nat):b4:=p.sF (pos p.buf t) (cx p.buf t)
noncomputable def pY:St:=⟨[],[],[],[]⟩
theorem jJ {l:List Nat} {n:Nat} {c:Nat} (h:l[n]? =ab c):mU (.f (.str l)) (.f (.int (.ofNat n))) pY=ab (.f (.str [c])):=
 congrArg (λo=>match(o:Option Nat) with
   |some c=>ab (ae.f (.str [c]))
   |none=>af) h
theorem iQ {p:Ps} {t:List Nat} {i c:Nat} (c6:bD p.buf t) (h:t[i]? =ab c):aJ (tz [.ap 30,.f (.int (.ofNat i))] (p.hp t)) (.f (.str [c])) (p.hp t):=by
 delta tz
 refine aV λG K F k=> ?_
 exact F _ (jJ ((c6.get i).trans h)) k
theorem cY {p:Ps} {t:List Nat} {c:Nat} (c6:bD p.buf (c::t)):aJ (tz [.ap 30,.f (.int (.ofNat 0))] (p.hp (c::t))) (.f (.str [c])) (p.hp (c::t)):=iQ (i:=0) c6 rfl
def KW:S:=Cu.aO.hd.bd
noncomputable abbrev yA (n:Int) (x:Option ae):List (Nat×Option ae):= [(37,ab (.ap 30)),(89,ab (.f (.int n))),(6,x)]
theorem XM {p:Ps} {c d i n:Nat} {x:Nat×Nat} {y:Option ae} (h0:p.buf[i]? =ab c) (aq:p.buf[i+1]? =ab d):
  aJ (kO (ev (aI eK) (.lo 89)).t (bN (aI eK) KW) ⟨yA (.ofNat (n+1)) y,p.sF i x,[],[]⟩) af ⟨yA (.ofNat (n+1) - .ofNat 1) (ab (.f (.str [c]))),p.sF (i+1) (hB c d x),[],[]⟩:=by
 refine b9 λG W F w=> ?_
 unfold hB bump at w
 cases a:DV c with
 |true=>rw[a] at w;exact F aa rfl _ (jJ h0) aa a w
 |false=>
  rw[a] at w
  cases b:aM [c] [13] with
  |true=>
   rw[b] at w
   cases e:aM [d] [10] with
   |true=>
    rw[e] at w
    cases g:aM [c] [65279] with
    |true=>rw[g] at w;exact F aa rfl _ (jJ h0) ac a aa b _ (jJ (n:=i+1) aq) _ (congrArg not e) _ (congrArg not g) w
    |false=>rw[g] at w;exact F aa rfl _ (jJ h0) ac a aa b _ (jJ (n:=i+1) aq) _ (congrArg not e) _ (congrArg not g) w
   |false=>rw[e] at w;exact F aa rfl _ (jJ h0) ac a aa b _ (jJ (n:=i+1) aq) _ (congrArg not e) w
  |false=>
   rw[b] at w
   cases g:aM [c] [65279] with
    |true=>rw[g] at w;exact F aa rfl _ (jJ h0) ac a ac b _ (congrArg not g) w
    |false=>rw[g] at w;exact F aa rfl _ (jJ h0) ac a ac b _ (congrArg not g) w
theorem YL {p:Ps} {c:Nat} {t:List Nat} (h:bD p.buf (c::t)):p.sF (pos p.buf (c::t)+1) (hB c (t.headD 0) (cx p.buf (c::t)))=p.hp t:=by
 rw[<-h.Pl,<-h.hB];rfl
theorem XK {p:Ps} {t:List Nat} (ci:t≠ []): ∀(s:List Nat) (y:Option ae) (z:Int),z= .ofNat s.length->bD p.buf (s++t)-> ∃mh,aJ (fa (ev (aI eK) (.lo 89)).t (bN (aI eK) KW) ⟨yA z y,p.hp (s++t),[],[]⟩) .aQ ⟨yA 0 mh,p.hp t,[],[]⟩:=λs=>by
 induction s with
 |nil=>exact λy z e h=> ⟨y,eQ (b9 λG W F w=>by subst e;exact F ac rfl w)⟩
 |cons c s ai=>
  intro y z e h
  subst e
  have aq: ∃d,(s++t)[0]? =ab d/\(s++t).headD 0=d:=by
   cases s with
   |cons d s=>exact⟨d,rfl,rfl⟩
   |nil=>cases t with
    |nil=>exact absurd rfl ci
    |cons d t=>exact⟨d,rfl,rfl⟩
  obtain ⟨d,aq,e1⟩:=aq
  obtain ⟨mh,i⟩:=ai (ab (.f (.str [c]))) (.ofNat (s.length+1) - .ofNat 1) (Int.add_sub_cancel (s.length:Int) 1) (bD.aO (s:= [c]) h)
  refine⟨mh,fb (kJ (XM (d:=d) (h.get 0) ((h.get 1).trans aq)) rfl ?_) i⟩
  rw[<-e1];exact congrArg (λh=>St.mk _ h [] []) (YL h)
theorem PT {p:Ps} {t:List Nat} {n:Int}:aJ (Gl [.ap 30,.f (.int n)] (p.hp t)) (.f .none) (p.hp t):=by
 delta Gl
 refine aV λG K F k=> ?_
 exact F aa rfl k
theorem fH {p:Ps} (s:List Nat) {t:List Nat} (h:bD p.buf (s++t)) (ci:t≠ []):aJ (Aq [.ap 30,.f (.int (.ofNat s.length))] (p.hp (s++t))) (.f .none) (p.hp t):=by
 delta Aq
 obtain ⟨y,L⟩:=XK ci s af _ rfl h
 refine aV λG K F k=> ?_
 cases e:decide (c1 (pos p.buf (s++t))+c1 s.length+1≥(p.buf.length:Int)) with
 |true=>exact F aa e _ _ PT _ _ L k
 |false=>exact F ac e _ _ L k
theorem ki {p:Ps} (s:List Nat) {t:List Nat} (h:bD p.buf (s++t)):aJ (Gk [.ap 30,.f (.int (.ofNat s.length))] (p.hp (s++t))) (.f (.str s)) (p.hp (s++t)):=by
 delta Gk
 have e:(p.buf.drop (pos p.buf (s++t))).take (pos p.buf (s++t)+s.length-pos p.buf (s++t))=s:=by
  rw[A9]
  exact ak h λa e=>by rw[e,vM,RI,RU]
 refine kJ (aV λG K F k=> ?_) (congrArg (λx=>ae.f (.str x)) e) rfl
 cases c:decide (c1 (pos p.buf (s++t))+c1 s.length≥(p.buf.length:Int)) with
 |true=>exact F aa c _ _ PT _ rfl k
 |false=>exact F ac c _ rfl k
def Ps.je (p:Ps) (t:List Nat):aj:= .inst 53 [33,55,30,82,79,109] [.str zV,.int (.ofNat (pos p.buf t)),.int (.ofNat (cx p.buf t).1),.int (.ofNat (cx p.buf t).2),.str p.buf,.int (.ofNat (pos p.buf t))]
theorem gO {p:Ps} {t:List Nat}:aJ (wd [.ap 30] (p.hp t)) (.f (p.je t)) (p.hp t):=by
 delta wd
 refine aV λG K F k=> ?_
 exact F aa rfl _ _ (λK k=> ⟨_,rfl,rfl,k⟩) k
inductive g9:List Nat->List Nat->Prop
 |lf {r:List Nat}:g9 [10] r
 |cr {r:List Nat} (h:aM [r.headD 0] [10]=ac):g9 [13] r
 |x4 {r:List Nat}:g9 [13,10] r
 |ls {r:List Nat}:g9 [8232] r
noncomputable def dV:List Nat->List Nat
 | [8232]=> [8232]
 |_=> [10]
theorem MH (c:Nat): ∀l:List Nat,bO [c] l=aa↔c∈l:=λl=>by
 induction l with
 |nil=>exact⟨nofun,nofun⟩
 |cons b l ai=>
  show(bA c b&&aa||bO [c] l)=aa↔_
  rw[Ra,nj,ai,e5,Nat.beq_eq]
theorem qT {c:Nat} {l:List Nat} (h: ¬c∈l):bO [c] l=ac:=Hi.mpr λe=>h ((MH c l).mp e)
theorem DP {c:Nat} {l:List Nat} (h:c∈l):bO [c] l=aa:=(MH c l).mpr h
theorem h8 {a b:Nat} (h:a≠b):aM [a] [b]=ac:=Hi.mpr λe=>h (gv (gL.mp e)).1
theorem aiS {b:Bool} (h:b=ac):(!b)=aa:=congrArg not h
theorem aiR {b:Bool} (h:b=aa):(!b)=ac:=congrArg not h
noncomputable abbrev kA:List Nat:= [0,13,10,133,8232,8233,65279]
theorem OL {c:Nat} {l:List Nat} (h: ¬c∈kA) (s:l.all (λx=>kA.contains x)=aa):bO [c] l=ac:=
 qT λm=>h (rP.mp (fL.mp s c m))
def Ps.col (p:Ps) (t:List Nat):Nat:=(cx p.buf t).2
theorem Lq {b:List Nat} {c:Nat} {t:List Nat} (h:bD b (c::t)) (aD: ¬c∈kA):(cx b t).2=(cx b (c::t)).2+1:=by
 rw[h.hB];unfold hB bump DV
 rw[OL aD rfl,h8 (b:=13) λe=>aD (by rw[e];decide),h8 (b:=65279) λe=>aD (by rw[e];decide)];rfl
theorem U9 {b t:List Nat}: ∀(s:List Nat),bD b (s++t)->(∀c∈s,¬c∈kA)->(cx b t).2=(cx b (s++t)).2+s.length:=λs=>by
 induction s with
 |nil=>exact λ_ _=>rfl
 |cons c s ai=>
  intro h hs
  have aq:=Lq (c:=c) (t:=s++t) h (hs c eo)
  have aC:=ai (bD.aO (s:= [c]) h) λc aD=>hs c (eY _ aD)
  rw[aC,aq,du,p6,kV 1];rfl
theorem nM {b e t:List Nat} (h:bD b (e++t)) (he:g9 e t):(cx b t).2=0:=by
 cases he with
 |lf=>rw[bD.hB (c:=10) (t:=t) h];rfl
 |cr q=>rw[bD.hB (c:=13) (t:=t) h];unfold hB bump;rw[q];rfl
 |x4=>rw[bD.hB (c:=10) (t:=t) (bD.aO (s:= [13]) h)];rfl
 |ls=>rw[bD.hB (c:=8232) (t:=t) h];rfl
theorem vT {p:Ps} {e t:List Nat} (c6:bD p.buf (e++t)) (he:g9 e t) (aA:t≠ []):aJ (wi [.ap 30] (p.hp (e++t))) (.f (.str (dV e))) (p.hp t):=by
 delta wi
 cases t with
 |nil=>exact absurd rfl aA
 |cons d r=>cases he with
  |lf=>exact aV λ_ _ F k=>F _ _ (cY c6) aa rfl _ _ (ki [10,d] c6) ac rfl _ _ (fH [10] c6 aA) k
  |cr h=>exact aV λ_ _ F k=>F _ _ (cY c6) aa rfl _ _ (ki [13,d] c6) ac (h:aM [13,d] [13,10]=ac) _ _ (fH [13] c6 aA) k
  |x4=>exact aV λ_ _ F k=>F _ _ (cY c6) aa rfl _ _ (ki [13,10] c6) aa rfl _ _ (fH [13,10] c6 aA) k
  |ls=>exact aV λ_ _ F k=>F _ _ (cY c6) ac rfl aa rfl _ _ (fH [8232] c6 aA) k
theorem PS {p:Ps} {c:Nat} {r:List Nat} (c6:bD p.buf (c::r)) (aq:bO [c] [13,10,133]=ac) (aC:bO [c] [8232,8233]=ac):
  aJ (wi [.ap 30] (p.hp (c::r))) (.f (.str [])) (p.hp (c::r)):=by
 delta wi
 exact aV λ_ _ F k=>F _ _ (cY c6) ac aq ac aC k
theorem ip {a b:Nat} (h:a<b):decide (c1 a<c1 b)=aa:=decide_eq_true (AU.mpr h)
theorem n3 {a b:Nat} (h:b<=a):decide (c1 a<c1 b)=ac:=decide_eq_false λq=>mu.mpr h (AU.mp q)
theorem sp {a b:Nat} (h:a=b):decide (c1 a=c1 b)=aa:=decide_eq_true (congrArg _ h)
theorem LN {a b:Nat} (h:a≠b):decide (c1 a=c1 b)=ac:=decide_eq_false λq=>h (AS q)
theorem fZ {α:Type} {l:List α} (h:l.length<=1000000):cm l=aa:=mq h
theorem c9 {α:Type} (x:α) (r:List α):x::r≠ []:=nofun
theorem i4 {α:Type} {a b:List α} (h:b≠ []):a++b≠ []:=λe=>h (RF.mp e).2
def K0:St->(cD->St->Prop)->Prop:=fa (ev (aI dr) sf.aO.aO.hd.df).t (bN (aI dr) sf.aO.aO.hd.bd)
def o6 (p:Ps) (k:Nat) (m:aj) (L:List ae) (t:List Nat):St:=⟨[(37,ab (.ap 30)),(88,ab (.f (.int (.ofNat k)))),(80,ab (.ap 100)),(117,ab (.f m))],p.hp t,[(100,.list L)],[100]⟩
theorem FH {b t:List Nat} (h:bD b (32::t)) {c:Nat} (aD:(cx b (32::t)).2=c):(cx b t).2=c+1:=aD▸Lq h (by decide)
noncomputable def hU (n:Nat) (t:List Nat):List Nat:=gP n 32++t
theorem K3 {p:Ps} {k x:Nat} {m:aj} {L:List ae} {r:List Nat}: ∀(n c:Nat),bD p.buf (hU n (x::r))->(cx p.buf (hU n (x::r))).2=c->c+n<=k->(c+n=k\/x≠32)->
  aJ (K0 (o6 p k m L (hU n (x::r)))) .aQ (o6 p k m L (x::r)):=λn=>by
 induction n with
 |zero=>
  intro c h aD aS aH
  refine eQ ?_
  rcases R4 c k with q|q
  ·have aH:x≠32:=aH.resolve_left (ms q)
   exact b9 λ_ _ F k=>F aa (ip (aD.symm▸q)) _ _ (cY h) ac (h8 aH) k
  ·exact b9 λ_ _ F k=>F ac (n3 (aD.symm▸q)) k
 |succ n ai=>
  intro c h aD aS aH
  have e:c+(n+1)=c+1+n:=(RZ c 1 n).symm
  rw[e] at aS aH
  refine fb ?_ (ai (c+1) (bD.aO (s:= [32]) h) (FH h aD) aS aH)
  exact b9 λ_ _ F k=>F aa (ip (aD.symm▸p7 (nt c) (bf (gG ..) aS))) _ _ (cY h) aa rfl _ _ (fH [32] h (i4 (c9 _ _))) k
def lE:List (List Nat)->List Nat->Prop
 | [],_=>True
 |e::E,r=>g9 e (E.flatten++r)/\lE E r
theorem g9.head {e r:List Nat} (h:g9 e r): ∃c,(∃cM,e=c::cM)/\c∈ [13,10,133,8232,8233]:=by
 cases h
 ·exact⟨10,⟨[],rfl⟩,by decide⟩
 ·exact⟨13,⟨[],rfl⟩,by decide⟩
 ·exact⟨13,⟨[10],rfl⟩,by decide⟩
 ·exact⟨8232,⟨[],rfl⟩,by decide⟩
structure Tl (k n x:Nat):Prop where
 le:n<=k
 or:n=k\/x≠32
 nb: ¬x∈ [13,10,133,8232,8233]
def gu (E:List (List Nat)) (n x:Nat) (r:List Nat):List Nat:=E.flatten++hU n (x::r)
def Ag (E:List (List Nat)) (n x:Nat) (r:List Nat):List Nat:=match E with
 | []=>x::r
 |e::E=>gu (e::E) n x r
theorem Qu {b r:List Nat} {n x:Nat}: ∀{E:List (List Nat)},bD b (gu E n x r)->bD b (Ag E n x r)
 | [],h=>bD.aO (s:=gP n 32) h
 |_::_,h=>h
theorem K1 {p:Ps} {k n x:Nat} {m:aj} {L:List ae} {r:List Nat} (ci:Tl k n x): ∀(E:List (List Nat)),lE E (hU n (x::r))->bD p.buf (gu E n x r)->(cx p.buf (gu E n x r)).2=0->
  aJ (K0 (o6 p k m L (gu E n x r))) .aQ (o6 p k m L (Ag E n x r))
 | [],_,h,aD=>K3 n 0 h aD ((jt n).symm▸ci.le) ((jt n).symm▸ci.or)
 |e::E,bu,h,aD=>ak bu.1.head λc q=>ak q.1 λcM he=>by
  subst he
  exact K3 (x:=c) 0 0 h aD (fu _) (cW λe=>absurd (e▸q.2) (by decide))
def acO:St->(cD->St->Prop)->Prop:=fa (ev (aI dr) sf.aO.aO.aO.hd.df).t (bN (aI dr) sf.aO.aO.aO.hd.bd)
def nJ (E:List (List Nat)):List aj:=E.map λe=> .str (dV e)
def mI (E:List (List Nat)):List ae:=(nJ E).map .f
theorem FW {e:List Nat} {E:List (List Nat)} {n x:Nat} {r:List Nat}:gu (e::E) n x r=e++gu E n x r:=bt ..
theorem v9 {E:List (List Nat)} {n x:Nat} {r:List Nat}:gu E n x r≠ []:=i4 (i4 (c9 _ _))
theorem Fj {p:Ps} {e t:List Nat} (h:bD p.buf (e++t)) (bu:g9 e t): ∃c,aJ (tz [.ap 30,.f (.int (.ofNat 0))] (p.hp (e++t))) (.f (.str [c])) (p.hp (e++t))/\c∈ [13,10,133,8232,8233]:=
 ak bu.head λc q=> ⟨c,ak q.1 λcM he=>by subst he;exact cY h,q.2⟩
theorem Uu {p:Ps} {k n x:Nat} {r:List Nat} (ci:Tl k n x): ∀(E:List (List Nat)) (m:aj) (L:List ae),L.length+E.length<=1000000->lE E (hU n (x::r))->bD p.buf (Ag E n x r)->
  ∃aU,aJ (acO (o6 p k m L (Ag E n x r))) .aQ (o6 p k aU (L++mI E) (x::r)):=by
 intro E
 induction E with
 |nil=>exact λm L _ _ h=> ⟨m,eQ (kJ (a:=ab .aQ) (b:=o6 p k m L (x::r)) (by exact b9 λ_ _ F k=>F _ _ (cY h) ac (qT ci.nb) k) rfl (congrArg (λL=>o6 p k m L (x::r)) (dj L).symm))⟩
 |cons e E ai=>
  intro m L d6 bu h
  have aq:bD p.buf (e++gu E n x r):=FW▸h
  exact ak (ai (p.je (gu E n x r)) (L++ [ae.f (aj.str (dV e))]) (by rw[bL,p6,kV [_].length];exact d6) bu.2 (Qu aq.aO)) λaU i=>
   ⟨aU,fb (ak (Fj aq bu.1) λc q=>by
    have P:=q.1
    have Q:=vT aq bu.1 v9
    rw[<-FW] at P Q
    exact b9 λ_ _ F k=>F _ _ P aa (DP q.2) _ _ Q (fZ (bf (gG ..) d6)) _ _ gO _ _ (K1 ci E bu.2 aq.aO (nM aq bu.1)) k) (bt L _ _▸i)⟩
theorem wk (l:List aj):eL (l.map .f)=ab l:=by
 induction l with
 |nil=>rfl
 |cons a l ai=>show(match eL (l.map .f) with
   |some r=>ab (a::r)
   |none=>af)=_;rw[ai]
theorem PI {p:Ps} {k n x:Nat} {r:List Nat} {E:List (List Nat)} (ci:Tl k n x) (d6:E.length<=1000000) (bu:lE E (hU n (x::r))) (h:bD p.buf (gu E n x r)) (aD:(cx p.buf (gu E n x r)).2=0):
  ∃m,aJ (wg [.ap 30,.f (.int (.ofNat k))] (p.hp (gu E n x r))) (.f (.tup [.lst (nJ E),m])) (p.hp (x::r)):=by
 delta wg
 exact ak (Uu ci E (p.je (gu E n x r)) [] (bf (fh (jt _)) d6) bu (Qu h)) λm i=> ⟨m,by exact aV λ_ _ F k=>F _ rfl _ _ gO _ _ (K1 ci E bu h aD) _ _ i _ (wk _) k⟩
noncomputable def yS:Option Bool->List Nat
 |none=> []
 |some aa=> [43]
 |some ac=> [45]
noncomputable def yT:Option Nat->List Nat
 |none=> []
 |some d=> [48+d]
noncomputable def qF:Option Bool->aj
 |none=> .none
 |some b=> .bool b
noncomputable def yp:Option Nat->aj
 |none=> .none
 |some d=> .int (.ofNat d)
def E8 (d:Option Nat):Prop:=d=af\/d=ab 2\/d=ab 3\/d=ab 4
def il (b:Nat):Prop:=b=10\/b=13
theorem il.out {b:Nat} (h:il b) {l:List Nat} (k:(bO [10] l||bO [13] l)=ac):bO [b] l=ac:=by
 have k:=AJ.mp k
 rcases h with rfl|rfl
 ·exact k.1
 ·exact k.2
theorem il.yU {b:Nat} (h:il b) {l:List Nat} (k:(bO [10] l&&bO [13] l)=aa):bO [b] l=aa:=by
 have k:=fV.mp k
 rcases h with rfl|rfl
 ·exact k.1
 ·exact k.2
def Dy (d:Option Nat) (ch:Option Bool) (b:Nat) (r:List Nat):List Nat:=yT d++(yS ch++b::r)
def tK (p:Ps) (d:Option Nat) (ch:Option Bool) (b:Nat) (r:List Nat):Prop:= ∀m,bD p.buf (Dy d ch b r)->aJ (wh [.ap 30,m] (p.hp (Dy d ch b r))) (.f (.tup [qF ch,yp d])) (p.hp (b::r))
theorem ae3 {p:Ps} {d:Option Nat} {ch:Option Bool} {b:Nat} {r:List Nat} (hd:E8 d) (ag:il b):tK p d ch b r:=by
 have aq:=ag.out (l:= [43,45]) rfl
 have aC:=ag.out (l:= [48,49,50,51,52,53,54,55,56,57]) rfl
 have bz:=congrArg not (ag.yU (l:= [0,32,13,10,133,8232,8233]) rfl)
 have N: ∀ch,tK p af ch b r:=λch=>by
  delta tK wh
  cases ch with
  |none=>exact λm h=>by exact aV λ_ _ F k=>F _ _ (cY h) ac aq ac aC _ _ (cY h) _ bz k
  |some c=>cases c with
   |false=>exact λm h=>by exact aV λ_ _ F k=>F _ _ (cY h) aa rfl ac rfl _ _ (fH [45] h (c9 _ _)) _ _ (cY (h.aO (s:= [45]))) ac aC _ _ (cY (h.aO (s:= [45]))) _ bz k
   |true=>exact λm h=>by exact aV λ_ _ F k=>F _ _ (cY h) aa rfl aa rfl _ _ (fH [43] h (c9 _ _)) _ _ (cY (h.aO (s:= [43]))) ac aC _ _ (cY (h.aO (s:= [43]))) _ bz k
 have D: ∀d,d=2\/d=3\/d=4-> ∀ch,tK p (ab d) ch b r:=λd hd ch=>by
  have e:bO [48+d] [43,45]=ac/\bO [48+d] [48,49,50,51,52,53,54,55,56,57]=aa/\wl [48+d]=ab d/\decide (c1 d=0)=ac:=by
   rcases hd with rfl|rfl|rfl<;>exact⟨rfl,rfl,rfl,rfl⟩
  delta tK wh
  cases ch with
  |none=>exact λm h=>by exact aV λ_ _ F k=>F _ _ (cY h) ac e.1 aa e.2.1 _ e.2.2.1 ac e.2.2.2 _ _ (fH [48+d] h (c9 _ _)) _ _ (cY (h.aO (s:= [48+d]))) ac aq _ _ (cY (h.aO (s:= [48+d]))) _ bz k
  |some c=>cases c with
   |false=>exact λm h=>by exact aV λ_ _ F k=>F _ _ (cY h) ac e.1 aa e.2.1 _ e.2.2.1 ac e.2.2.2 _ _ (fH [48+d] h (c9 _ _)) _ _ (cY (h.aO (s:= [48+d]))) aa rfl ac rfl _ _ (fH [45] (h.aO (s:= [48+d])) (c9 _ _)) _ _ (cY (h.aO (s:= [48+d,45]))) _ bz k
   |true=>exact λm h=>by exact aV λ_ _ F k=>F _ _ (cY h) ac e.1 aa e.2.1 _ e.2.2.1 ac e.2.2.2 _ _ (fH [48+d] h (c9 _ _)) _ _ (cY (h.aO (s:= [48+d]))) aa rfl aa rfl _ _ (fH [43] (h.aO (s:= [48+d])) (c9 _ _)) _ _ (cY (h.aO (s:= [48+d,43]))) _ bz k
 rcases hd with rfl|h|h|h
 ·exact N ch
 ·exact h▸D 2 (d5 rfl) ch
 ·exact h▸D 3 (cW (d5 rfl)) ch
 ·exact h▸D 4 (cW (cW rfl)) ch
def Za:St->(cD->St->Prop)->Prop:=fa (ev (aI dr) xJ.aO.aO.aO.hd.df).t (bN (aI dr) xJ.aO.aO.aO.hd.bd)
def DQ (p:Ps) (mk:aj) (n:Nat) (t:List Nat):St:=⟨[(37,ab (.ap 30)),(80,ab (.ap 100)),(149,ab (.f (.int (.ofNat n)))),(117,ab (.f mk))],p.hp t,[(100,.list [])],[100]⟩
theorem Zb {p:Ps} {x:Nat} {r:List Nat} {mk:aj} (aH: ¬x∈ [32,13,10,133,8232,8233]): ∀(n c:Nat),bD p.buf (hU n (x::r))->(cx p.buf (hU n (x::r))).2=c->aJ (Za (DQ p mk c (hU n (x::r)))) .aQ (DQ p mk (c+n) (x::r)):=λn=>by
 induction n with
 |zero=>exact λc h aD=>eQ (by exact b9 λ_ _ F k=>F _ _ (cY h) ac (qT aH) k)
 |succ n ai=>
  intro c h aD
  have i:=ai (c+1) (bD.aO (s:= [32]) h) (FH h aD)
  rw[RZ] at i
  have Ml:(cx p.buf (hU n (x::r))).2=c+1:=FH h aD
  refine fb (kJ ?_ rfl (congrArg (λn=>DQ p mk n _) Ml)) i
  exact b9 λ_ _ F k=>F _ _ (cY h) aa rfl _ _ (cY h) ac rfl _ _ (fH [32] h (i4 (c9 _ _))) aa (ip (Ml.symm▸nt c)) k
theorem ae2 {p:Ps} {n x:Nat} {r:List Nat} (aH: ¬x∈ [32,13,10,133,8232,8233]) (h:bD p.buf (hU n (x::r))) (aD:(cx p.buf (hU n (x::r))).2=0):
  ∃m,aJ (tA [.ap 30] (p.hp (hU n (x::r)))) (.f (.tup [.lst [],.int (.ofNat n),m])) (p.hp (x::r)):=by
 delta tA
 refine⟨p.je (hU n (x::r)), ?_⟩
 have L:=Zb (mk:=p.je (hU n (x::r))) aH n 0 h aD
 rw[jt] at L
 exact aV λ_ _ F k=>F _ rfl _ _ gO _ _ L _ rfl k
theorem CE {c:Nat} (h:c∈ [13,10,133,8232,8233]):aM [c] [32]=ac/\aM [c] [35]=ac/\(!bO [c] [0,13,10,133,8232,8233])=ac/\aM [c] [65279]=ac:=
 ⟨h8 λe=>by subst e;revert h;decide,h8 λe=>by subst e;revert h;decide,congrArg not (DP (eY _ h)),h8 λe=>by subst e;revert h;decide⟩
theorem aeY {p:Ps} {e r:List Nat} {m:ae} (he:g9 e r) (aA:r≠ []) (h:bD p.buf (e++r)):aJ (Au [.ap 30,m] (p.hp (e++r))) (.f .none) (p.hp r):=by
 delta Au
 exact ak (Fj h he) λc q=>by
  have b:=CE q.2
  exact(λL=>by exact aV λ_ _ F k=>F _ _ L _ _ q.1 ac b.2.1 _ _ q.1 ac b.2.2.1 _ _ (vT h he aA) k) (eQ (b9 λG W F w=>by exact F _ _ q.1 ac b.1 w):aJ (fa (ev (aI dr) xI.hd.df).t (bN (aI dr) xI.hd.bd) ⟨[(37,ab (.ap 30)),(158,ab m),(6,af)],p.hp (e++r),[],[]⟩) .aQ ⟨[(37,ab (.ap 30)),(158,ab m),(6,af)],p.hp (e++r),[],[]⟩)
abbrev g7:=List (List Nat×List Nat×List (List Nat))
noncomputable def hG (k:Nat):g7->List Nat->List Nat
 | [],t=>t
 |b::B,t=>gP k 32++(b.1++(b.2.1++(b.2.2.flatten++hG k B t)))
def Tok (t:List Nat):Prop:= ∃x r,t=x::r/\ ¬x∈ [32,13,10,133,8232,8233]
structure A7 (l:List Nat):Prop where
 ne:l≠ []
 nb: ∀c∈l,¬c∈kA
def oa (k:Nat):g7->List Nat->Prop
 | [],t=>Tok t
 |b::B,t=>A7 b.1/\g9 b.2.1 (b.2.2.flatten++hG k B t)/\lE b.2.2 (hG k B t)/\oa k B t
noncomputable def cnt:g7->Nat
 | []=>0
 |b::B=>2+b.2.2.length+cnt B
def lead (l:List Nat):Bool:= !bO [l.headD 0] [32,9]
def uX (fold:Bool):g7->Prop
 | []=>True
 |b::B=> (match B with
  | []=>True
  |fN::_=>fold=aa->aM (dV b.2.1) [10]=aa->lead b.1=aa->lead fN.1=aa->b.2.2≠ [])/\uX fold B
def sep (fold:Bool) (e l cz:List Nat):List (List Nat):=cond (fold&&(aM (dV e) [10]&&(lead l&&lead cz))) [] [dV e]
noncomputable def m5 (fold:Bool):g7->List (List Nat)->List (List Nat)->List (List Nat)×List Nat×List (List Nat)
 | [],ea,C=> (C,[],ea)
 |b::B,ea,C=>match B with
  | []=> (C++ea.map dV++ [b.1],dV b.2.1,b.2.2)
  |fN::_=>m5 fold B b.2.2 (C++ea.map dV++ [b.1]++sep fold b.2.1 b.1 fN.1)
def Bd (k:Nat) (B:g7) (t:List Nat) (n x:Nat) (r:List Nat):Prop:=hG k B t=hU n (x::r)/\Tl k n x/\match B with
 | []=>n=0
 |b::B=>n=k/\x::r=b.1++(b.2.1++(b.2.2.flatten++hG k B t))/\b.1.headD 0=x
theorem oa.aO {k:Nat} {B:g7} {t:List Nat} (h:oa k B t): ∃n x r,Bd k B t n x r:=by
 cases B with
 |nil=>exact bT h λx r h=> ⟨0,x,r,h.1,⟨fu _,cW λh'=>h.2 (h'▸eo),λh'=>h.2 (eY _ h')⟩,rfl⟩
 |cons b B=>
  have N: ∀l:List Nat,A7 l-> ∃x cz,l=x::cz/\ ¬x∈ [13,10,133,8232,8233]:=λl h=>by
   cases l with
   |nil=>exact absurd rfl h.ne
   |cons x l=>exact⟨x,l,rfl,λm=>h.nb x eo (eY _ (List.mem_append_left [65279] m))⟩
  exact bT (N b.1 h.1) λx l q=> ⟨k,x,l++(b.2.1++(b.2.2.flatten++hG k B t)),by show hU k (b.1++_)=_;rw[q.1];rfl,⟨fi _,d5 rfl,q.2⟩,rfl,by rw[q.1];rfl,by rw[q.1];rfl⟩
structure lJ where
 fold:Bool
 m0:aj
 ch:aj
 inc:aj
 mY:Option ae
 k:Nat
noncomputable def bJ (fold:Bool):Nat:=cond fold 62 124
noncomputable def cf (C:List (List Nat)):List ae:=C.map λx=> .f (.str x)
def pP (v:lJ) (p:Ps) (b:List (List Nat)) (m:aj) (lb:List Nat) (y z:Option ae) (L:List ae) (t:List Nat):St:=⟨[(37,ab (.ap 30)),(68,ab (.f (.str [bJ v.fold]))),(86,ab (.f (.bool v.fold))),(80,ab (.ap 100)),(158,ab (.f v.m0)),(115,ab (.f v.ch)),(135,ab (.f v.inc)),(150,ab (.f (.int 1))),
 (78,ab (.f (.lst (nJ b)))),(149,v.mY),(117,ab (.f m)),(88,ab (.f (.int (.ofNat v.k)))),(148,ab (.f (.str lb))),(257,y),(89,z)],p.hp t,[(100,.list L)],[100]⟩
def sT:S:=xH.aO.aO.aO.aO.aO.aO.aO.aO.aO.aO
abbrev OH:=(ev (aI g0) sT.hd.df).t
abbrev OG:=bN (aI g0) sT.hd.bd
def NH:S:=sT.hd.bd.aO.aO.aO.hd
def OI:S:=sT.hd.bd.aO.aO.aO.aO.aO.aO.aO.aO
def abl:St->(cD->St->Prop)->Prop:=fa (ev (aI g0) NH.df).t (bN (aI g0) NH.bd)
theorem abm {v:lJ} {bs:List (List Nat)} {m:aj} {lb:List Nat} {y:Option ae} {C:List ae} {p:Ps} {c:Nat} {r t:List Nat} (aD:c∈ [13,10,133,8232,8233]): ∀(b a:List Nat),t=a++(b++c::r)->bD p.buf t->(∀x∈b,¬x∈kA)->
  aJ (abl (pP v p bs m lb y (ab (.f (.int (.ofNat a.length)))) C t)) .aQ (pP v p bs m lb y (ab (.f (.int (.ofNat (a.length+b.length))))) C t):=λb=>by
 induction b with
 |nil=>exact λa e h _=>eQ (by exact b9 λ_ _ F k=>F _ _ (iQ (i:=a.length) (c:=c) h (by rw[e,tN (fi _),w2];rfl)) _ (congrArg not (DP (eY _ aD))) k)
 |cons x b ai=>
  intro a e h ag
  have i:=ai (a++ [x]) (e.trans (bt a [x] _).symm) h λz cG=>ag z (eY _ cG)
  rw[bL,p6,kV [x].length] at i
  refine fb ?_ i
  exact b9 λ_ _ F k=>F _ _ (iQ (i:=a.length) (c:=x) h (by rw[e,tN (fi _),w2];rfl)) _ (congrArg not (OL (ag x eo) rfl)) k
theorem h4 (C D:List (List Nat)):cf (C++D)=cf C++cf D:=lD
theorem lN (C:List (List Nat)):(cf C).length=C.length:=ed _
theorem xW (C:List (List Nat)):(nJ C).length=C.length:=ed _
theorem Cb {a b:Bool} (h:a=ac):(a&&b)=ac:=congrArg (· &&b) h
theorem r7 {a b:Bool} (h:b=ac):(a&&b)=ac:=(congrArg (a&& ·) h).trans (ho a)
theorem Cc {a b:Bool} (h:a=aa) (k:b=aa):(a&&b)=aa:=(congrArg (· &&b) h).trans k
def Fz (fold:Bool) (e l cz:List Nat):Bool:=fold&&(aM (dV e) [10]&&(lead l&&lead cz))
theorem afA {fold:Bool} {e l cz:List Nat} (h:Fz fold e l cz=ac):sep fold e l cz= [dV e]:=congrArg (λb=>cond b [] [dV e]) h
theorem afB {fold:Bool} {e l cz:List Nat} (h:Fz fold e l cz=aa):sep fold e l cz= []:=congrArg (λb=>cond b [] [dV e]) h
abbrev vA (v:lJ) (p:Ps) (E:List (List Nat)) (m:aj) (e l:List Nat) (z:Option ae) (L:List ae) (t:List Nat):St:=pP v p E m (dV e) (ab (.f (.bool (lead l)))) z L t
theorem abP {v:lJ} {p:Ps} {E:List (List Nat)} {m:aj} {e l cz:List Nat} {z:Option ae} {L:List ae} {x:Nat} {r:List Nat} {G:Prop} {W:Option cD->St->Prop}
  (h:bD p.buf (x::r)) (aD:(cx p.buf (x::r)).2=v.k) (aH: ¬x∈kA) (aA:cz.headD 0=x) (cG:L.length<=1000000) (bu:E.length<=1000000) (hf:v.fold=aa->aM (dV e) [10]=aa->lead l=aa->lead cz=aa->E≠ [])
  (F:aB.path G (bN (aI g0) OI (vA v p E m e l z L (x::r)) (cp W))) (w:W af (vA v p E m e l z (L++cf (sep v.fold e l cz)) (x::r))):G:=by
 have hL:=sp aD
 have qu:(!aM [x] [0])=aa:=congrArg not (h8 λe=>aH (by rw[e];exact eo))
 have eA:=fZ cG
 have ui:lead cz= !bO [x] [32,9]:=congrArg (λx=> !bO [x] [32,9]) aA
 have b0:Fz v.fold e l cz=ac->W af (vA v p E m e l z (L++cf [dV e]) (x::r)):=λq=>afA q▸w
 cases a1:v.fold with
 |false=>exact F aa hL _ _ (cY h) aa qu ac a1 eA (b0 (Cb a1))
 |true=>cases a2:aM (dV e) [10] with
  |false=>exact F aa hL _ _ (cY h) aa qu aa a1 ac a2 eA (b0 (r7 (Cb a2)))
  |true=>cases nF:lead l with
   |false=>exact F aa hL _ _ (cY h) aa qu aa a1 aa a2 ac nF eA (b0 (r7 (r7 (Cb nF))))
   |true=>cases qm:bO [x] [32,9] with
    |true=>exact F aa hL _ _ (cY h) aa qu aa a1 aa a2 aa nF _ _ (cY h) _ (congrArg not qm) eA (b0 (r7 (r7 (r7 (ui.trans (congrArg not qm))))))
    |false=>
     have uj:=ui.trans (congrArg not qm)
     rw[afB (Cc a1 (Cc a2 (Cc nF uj))),show L++cf []=L from dj L] at w
     cases E with
     |nil=>exact absurd rfl (hf a1 a2 nF uj)
     |cons a E=>exact F aa hL _ _ (cY h) aa qu aa a1 aa a2 aa nF _ _ (cY h) _ (congrArg not qm) (fZ ((xW (a::E)).symm▸bu)) aa rfl w
theorem CD {b r:List Nat} {n x:Nat}: ∀{E:List (List Nat)},lE E (hU n (x::r))->bD b (gu E n x r)->(cx b (gu E n x r)).2=0->(cx b (x::r)).2=n
 | [],_,h,aD=> (U9 (gP n 32) h λc aD=>by rw[RJ aD];decide).trans (by rw[show(cx b (gP n 32++x::r)).2=0 from aD,A3,jt])
 |e::E,bu,h,_=>by
  rw[FW] at h
  exact CD bu.2 h.aO (nM h bu.1)
def mH (k:Nat) (b:List Nat×List Nat×List (List Nat)) (B:g7) (t:List Nat):List Nat:=b.1++(b.2.1++(b.2.2.flatten++hG k B t))
def OJ:St->(cD->St->Prop)->Prop:=fa OH OG
theorem OK {v:lJ} {p:Ps} {t:List Nat} {B:g7} {b:List Nat×List Nat×List (List Nat)} {ea:List (List Nat)} {L:List ae} {m:aj} {lb:List Nat} {y z:Option ae} {n x:Nat} {r:List Nat}
  (eS:oa v.k (b::B) t) (ar:L.length+ea.length+cnt (b::B)<=1000000) (h:bD p.buf (mH v.k b B t)) (aD:(cx p.buf (mH v.k b B t)).2=v.k) (N:Bd v.k B t n x r):
  ∃aU,(cx p.buf (x::r)).2=n/\bD p.buf (x::r)/\ ∀{G:Prop} {W:Option cD->St->Prop},aB.path G (OH (pP v p ea m lb y z L (mH v.k b B t)) λr σ=>cond r (OG σ (cp W)) (.ret (W (ab .aQ) σ)))->
   aB.path G (bN (aI g0) OI (vA v p b.2.2 aU b.2.1 b.1 (ab (.f (.int (.ofNat b.1.length)))) (L++mI ea++cf [b.1]) (x::r)) (cp W)):=by
 obtain ⟨l,e,E⟩:=b
 obtain ⟨aA,sD,bu,_⟩:=eS
 unfold mH at h aD⊢
 dsimp only at aA sD bu h aD⊢
 rw[N.1] at bu sD h aD⊢
 rw[show E.flatten++hU n (x::r)=gu E n x r from rfl] at sD h aD⊢
 have aq:=bD.aO h
 have aC:=aq.aO
 have cG:=nM aq sD
 unfold cnt at ar
 have kc:L.length<=1000000:=bf (bf (gG ..) (gG ..)) ar
 have gM:(nJ ea).length<=1000000:=xW ea▸bf (bf (lF ..) (gG ..)) ar
 have pF:(L++mI ea).length<=1000000:=by rw[bL];unfold mI;rw[ed,xW];exact bf (gG ..) ar
 have abW:E.length<=1000000:=bf (bf (lF ..) (gG ..)) (bf (lF ..) ar)
 exact ak (PI (k:=v.k) N.2.1 abW bu aC cG) λaU g7=> ⟨aU,CD bu aC cG,bD.aO (s:=E.flatten++gP n 32) (by rw[bt];exact aC),λF=>by
  cases l with
  |nil=>exact absurd rfl aA.ne
  |cons x0 l=>
   have aH:=aA.nb x0 eo
   exact ak sD.head λc q=>ak q.1 λcM he=>by
    have cQ:=abm (v:=v) (p:=p) (bs:=ea) (m:=m) (lb:=lb) (y:=ab (.f (.bool (lead (x0::l))))) (C:=L++mI ea) (c:=c) (r:=cM++gu E n x r) q.2 (x0::l) [] (by rw[he];rfl) h aA.nb
    rw[show([]:List Nat).length+(x0::l).length=(x0::l).length from jt _] at cQ
    exact F aa (sp aD) _ _ (cY h) _ (congrArg not (h8 λe=>aH (by rw[e];exact eo))) ⟨fZ kc,fZ gM⟩ _ _ (cY h) _ _ cQ _ _ (ki (x0::l) h) (fZ pF) _ _ (fH (x0::l) h (i4 v9)) _ _ (vT aq sD v9) _ _ g7⟩
theorem CP (C ea:List (List Nat)) (l:List Nat):cf C++mI ea++cf [l]=cf (C++ea.map dV++ [l]):=by
 rw[h4,h4];unfold mI nJ cf;rw[oH,oH];rfl
theorem Yn {l:List Nat} {x:Nat} (h:A7 l) (e:l.headD 0=x): ¬x∈kA:=by
 cases l with
 |nil=>exact absurd rfl h.ne
 |cons a l=>exact e▸h.nb a eo
def vW (v:lJ) (p:Ps) (m:aj) (R:List (List Nat)×List Nat×List (List Nat)) (y z:Option ae) (t:List Nat):St:=pP v p R.2.2 m R.2.1 y z (cf R.1) t
theorem abO {v:lJ} {p:Ps} {t:List Nat} (aS:0<v.k): ∀(B:g7) (b:List Nat×List Nat×List (List Nat)) (ea C:List (List Nat)) (m:aj) (lb:List Nat) (y z:Option ae),oa v.k (b::B) t->uX v.fold (b::B)->C.length+ea.length+cnt (b::B)<=1000000->bD p.buf (mH v.k b B t)->(cx p.buf (mH v.k b B t)).2=v.k->
  ∃aU mh AE,aJ (OJ (pP v p ea m lb y z (cf C) (mH v.k b B t))) .aQ (vW v p aU (m5 v.fold (b::B) ea C) mh AE t):=λB=>by
 induction B with
 |nil=>
  intro b ea C m lb y z eS hf ar h aD
  refine c5 eS.2.2.2.aO λn x r N=>ak (OK (lb:=lb) (y:=y) (z:=z) (m:=m) eS (lN C▸ar) h aD N) λaU q=> ⟨aU,ab (.f (.bool (lead b.1))),ab (.f (.int (.ofNat b.1.length))),eQ (kJ (b9 λG W F w=> ?_) rfl (?_:vA v p b.2.2 aU b.2.1 b.1 (ab (.f (.int (.ofNat b.1.length)))) (cf C++mI ea++cf [b.1]) (x::r)=_))⟩
  ·exact q.2.2 F ac (LN λe=>ms aS (N.2.2.symm.trans (q.1.symm.trans e))) w
  ·rw[CP,show x::r=t by have e:=N.1;rw[show n=0 from N.2.2] at e;exact e.symm];rfl
 |cons fN B ai=>
  intro b ea C m lb y z eS hf ar h aD
  refine c5 eS.2.2.2.aO λn x r N=>ak (OK (lb:=lb) (y:=y) (z:=z) (m:=m) eS (lN C▸ar) h aD N) λaU q=> ?_
  have ex:x::r=mH v.k fN B t:=N.2.2.2.1
  have hs:(sep v.fold b.2.1 b.1 fN.1).length<=1:=by unfold sep;cases _&&_<;>exact cS rfl
  have nn:C.length+ea.length+(2+b.2.2.length+cnt (fN::B))<=1000000:=ar
  have i:=ai fN b.2.2 (C++ea.map dV++ [b.1]++sep v.fold b.2.1 b.1 fN.1) aU (dV b.2.1) (ab (.f (.bool (lead b.1)))) (ab (.f (.int (.ofNat b.1.length)))) eS.2.2.2 hf.2 (by simp only[bL,ed,du,eX];omega) (ex▸q.2.1) (ex▸q.1.trans N.2.2.1)
  rw[h4,<-CP,<-ex] at i
  refine c5 i λhD G5 mi i=> ⟨hD,G5,mi,fb (b9 λG W F w=> ?_) i⟩
  exact abP q.2.1 (q.1.trans N.2.2.1) (Yn eS.2.2.2.1 N.2.2.2.2) N.2.2.2.2 (by rw[CP,lN];simp only[bL,ed,du,eX];omega) (by omega) hf.1 (q.2.2 F) w
def m3 (ch:Option Bool) (R:List (List Nat)×List Nat×List (List Nat)):List (List Nat):=match ch with
 |some ac=>R.1
 |none=>R.1++ [R.2.1]
 |some aa=>R.1++R.2.1::R.2.2.map dV
def vJ (fold:Bool) (ch:Option Bool) (B:g7) (dY:List (List Nat)):List (List Nat):=m3 ch (m5 fold B dY [])
theorem D0 (C:List (List Nat)) {loc:List (Nat×Option ae)} {hp:b4}:DZ (.ap 100) ⟨loc,hp,[(100,.list (cf C))],[100]⟩=ab C:=by
 show(match eL (cf C) with|some fs=>kM fs|none=>af)=ab C
 rw[show cf C=(C.map aj.str).map .f from(oH ..).symm,wk]
 show kM (C.map .str)=ab C
 induction C with
 |nil=>rfl
 |cons c C ai=>show(match kM (C.map .str) with
   |some l=>ab (c::l)
   |none=>af)=_;rw[ai]
noncomputable abbrev jO (val m aU y:aj):aj:= .inst 1141 [71,63,158,117,68] [val,.bool ac,m,aU,y]
theorem Vf (E:List (List Nat)):mI E=cf (E.map dV):=by unfold mI nJ cf;rw[oH,oH];rfl
def agY (v:lJ) (p:Ps) (m:aj) (x:List Nat) (t:List Nat) (K:ae->b4->Prop):Prop:=K (.f (jO (.str x) v.m0 m (.str [bJ v.fold]))) (p.hp t)
theorem afo {v:lJ} {R:List (List Nat)×List Nat×List (List Nat)} {m:aj} {y z:Option ae} {p:Ps} {t:List Nat} {ch:Option Bool} {G:Prop} {K:ae->b4->Prop} (Dx:v.ch=qF ch)
  (ar:R.1.length+R.2.2.length+1<=1000000) (hs:(aZ (m3 ch R)).length<=16777216)
  (F:aB.path G (bN (aI g0) sT.aO (vW v p m R y z t) (kh K))) (k:agY v p m (aZ (m3 ch R)) t K):G:=by
 have kc:cm (cf R.1)=aa:=fZ (lN R.1▸bf (bf (gG ..) (gG ..)) ar)
 obtain ⟨fold,m0,aiE,inc,mY,M5⟩:=v
 subst Dx
 cases ch with
 |none=>
  have J:=D0 (R.1++ [R.2.1]) (loc:=(vW ⟨fold,m0,qF af,inc,mY,M5⟩ p m R y z t).loc) (hp:=p.hp t)
  rw[h4] at J
  exact F aa rfl kc ac rfl _ J hs _ _ (λK k=> ⟨_,rfl,rfl,k⟩) k
 |some c=>cases c with
  |false=>exact F ac rfl ac rfl _ (D0 R.1) hs _ _ (λK k=> ⟨_,rfl,rfl,k⟩) k
  |true=>
   have J:=D0 (R.1++ [R.2.1]++R.2.2.map dV) (loc:=(vW ⟨fold,m0,qF (ab aa),inc,mY,M5⟩ p m R y z t).loc) (hp:=p.hp t)
   rw[h4,h4,<-Vf] at J
   rw[show m3 (ab aa) R=R.1++ [R.2.1]++R.2.2.map dV from(bt R.1 [_] _).symm] at hs k
   exact F aa rfl kc aa rfl ⟨fZ (by rw[bL,lN];exact bf (h1 (gG ..) 1) ar),fZ (xW R.2.2▸bf (bf (lF ..) (gG ..)) ar)⟩ _ J hs _ _ (λK k=> ⟨_,rfl,rfl,k⟩) k
theorem adA {fold:Bool}: ∀(B:g7) (ea C:List (List Nat)),(m5 fold B ea C).1.length+(m5 fold B ea C).2.2.length<=C.length+ea.length+cnt B:=λB=>by
 induction B with
 |nil=>exact λea C=>fi _
 |cons b B ai=>
  intro ea C
  cases B with
  |nil=>simp only[m5,cnt,bL,ed,du,eX];omega
  |cons fN B=>
   have h:=ai b.2.2 (C++ea.map dV++ [b.1]++sep fold b.2.1 b.1 fN.1)
   have dI:(sep fold b.2.1 b.1 fN.1).length<=1:=by unfold sep;cases _&&_<;>exact cS rfl
   simp only[bL,ed,du,eX] at h
   exact bf h (by show _<=C.length+ea.length+(2+b.2.2.length+cnt (fN::B));omega)
structure Hg (fold:Bool) (d:Option Nat) (ch:Option Bool) (s:Nat) (e:List Nat) (dY:List (List Nat)) (B:g7) (t:List Nat):Prop where
 hs:E8 (ab s)
 hd:d=af\/d=ab s
 he:g9 e (dY.flatten++hG s B t)
 ag:il (e.headD 0)
 h0:lE dY (hG s B t)
 eS:oa s B t
 hf:uX fold B
 ar:dY.length+cnt B<=100000
 cG:(aZ (vJ fold ch B dY)).length<=16777216
 no:d=af->dY= []/\ ∃b Hf,B=b::Hf/\b.1.headD 0≠32
def wa (d:Option Nat) (ch:Option Bool) (s:Nat) (e:List Nat) (dY:List (List Nat)) (B:g7) (t:List Nat):List Nat:=yT d++(yS ch++(e++(dY.flatten++hG s B t)))
theorem ae6 {v:lJ} {p:Ps} {t:List Nat} {B:g7} {dY:List (List Nat)} {m:aj} {n x:Nat} {r:List Nat} (aS:0<v.k) (eS:oa v.k B t) (hf:uX v.fold B) (ar:dY.length+cnt B<=100000) (N:Bd v.k B t n x r) (h:bD p.buf (x::r)) (aD:(cx p.buf (x::r)).2=n):
  ∃aU mh AE,aJ (OJ (pP v p dY m [] af af (cf []) (x::r))) .aQ (vW v p aU (m5 v.fold B dY []) mh AE t):=by
 cases B with
 |nil=>
  have e:t=x::r:=by have e:=N.1;rw[show n=0 from N.2.2] at e;exact e
  subst e
  refine⟨m,af,af,eQ ?_⟩
  exact b9 λ_ _ F k=>F ac (LN λe=>ms aS ((show n=0 from N.2.2).symm.trans (aD.symm.trans e))) k
 |cons b B=>
  have i:=abO aS B b dY [] m [] af af eS hf (bf (fh (congrArg (· +_) (jt _))) (bf ar (by decide))) (N.2.2.2.1▸h) (by rw[<-show x::r=mH v.k b B t from N.2.2.2.1];exact aD.trans N.2.2.1)
  rw[show mH v.k b B t=x::r from N.2.2.2.1.symm] at i
  exact i
def afx (p:Ps) (fold:Bool) (T:List Nat) (G:Prop) (K:ae->b4->Prop):Prop:=aB.path G (bN (aI g0) xH ⟨locs [37,68] [.ap 30,.f (.str [bJ fold])] [86,80,158,115,135,150,78,149,117,88,148,257,89],p.hp T,[],[]⟩ (kh K))
def NY (v:lJ) (p:Ps) (dY:List (List Nat)) (m:aj) (T:List Nat) (G:Prop) (K:ae->b4->Prop):Prop:=aB.path G (bN (aI g0) sT (pP v p dY m [] af af (cf []) T) (kh K))
set_option maxHeartbeats 8000000 in
theorem afy {p:Ps} {fold:Bool} {d:Option Nat} {ch:Option Bool} {s:Nat} {dY:List (List Nat)} {m:aj} {T0 lK mC qh oX:List Nat} {G:Prop} {K:ae->b4->Prop} (hs:E8 (ab s)) (hd:d=af\/d=ab s) (kR:aJ (Aq [.ap 30,.f (.int 1)] (p.hp T0)) (.f .none) (p.hp lK)) (kS:aJ (wh [.ap 30,.f (p.je T0)] (p.hp lK)) (.f (.tup [qF ch,yp d])) (p.hp mC))
  (kT:aJ (Au [.ap 30,.f (p.je T0)] (p.hp mC)) (.f .none) (p.hp qh)) (Q2:d=af->dY= []/\aJ (tA [.ap 30] (p.hp qh)) (.f (.tup [.lst [],.int (.ofNat s),m])) (p.hp oX))
  (Q3:d=ab s->aJ (wg [.ap 30,.f (.int (.ofNat s))] (p.hp qh)) (.f (.tup [.lst (nJ dY),m])) (p.hp oX)) (F:afx p fold T0 G K):NY ⟨fold,p.je T0,qF ch,yp d,cond d.isSome af (ab (.f (.int (.ofNat s)))),s⟩ p dY m oX G K:=by
 have hs:s=2\/s=3\/s=4:=by rcases hs with h|h|h|h<;>cases h<;>decide
 delta NY
 rcases hd with rfl|rfl
 ·have A:=Q2 rfl
  rw[A.1]
  rcases hs with rfl|rfl|rfl<;>cases fold
  ·exact F ac rfl _ rfl _ _ gO _ _ kR _ _ kS _ _ kT aa rfl aa rfl _ _ A.2
  ·exact F aa rfl _ rfl _ _ gO _ _ kR _ _ kS _ _ kT aa rfl aa rfl _ _ A.2
  ·exact F ac rfl _ rfl _ _ gO _ _ kR _ _ kS _ _ kT aa rfl aa rfl _ _ A.2
  ·exact F aa rfl _ rfl _ _ gO _ _ kR _ _ kS _ _ kT aa rfl aa rfl _ _ A.2
  ·exact F ac rfl _ rfl _ _ gO _ _ kR _ _ kS _ _ kT aa rfl aa rfl _ _ A.2
  ·exact F aa rfl _ rfl _ _ gO _ _ kR _ _ kS _ _ kT aa rfl aa rfl _ _ A.2
 ·have A:=Q3 rfl
  rcases hs with rfl|rfl|rfl<;>cases fold
  ·exact F ac rfl _ rfl _ _ gO _ _ kR _ _ kS _ _ kT aa rfl ac rfl _ _ A
  ·exact F aa rfl _ rfl _ _ gO _ _ kR _ _ kS _ _ kT aa rfl ac rfl _ _ A
  ·exact F ac rfl _ rfl _ _ gO _ _ kR _ _ kS _ _ kT aa rfl ac rfl _ _ A
  ·exact F aa rfl _ rfl _ _ gO _ _ kR _ _ kS _ _ kT aa rfl ac rfl _ _ A
  ·exact F ac rfl _ rfl _ _ gO _ _ kR _ _ kS _ _ kT aa rfl ac rfl _ _ A
  ·exact F aa rfl _ rfl _ _ gO _ _ kR _ _ kS _ _ kT aa rfl ac rfl _ _ A
theorem afl {p:Ps} {fold:Bool} {d:Option Nat} {ch:Option Bool} {s:Nat} {e t:List Nat} {dY:List (List Nat)} {B:g7} (b:Hg fold d ch s e dY B t) (h:bD p.buf (bJ fold::wa d ch s e dY B t)):
  ∃m aU,aJ (As [.ap 30,.f (.str [bJ fold])] (p.hp (bJ fold::wa d ch s e dY B t))) (.f (jO (.str (aZ (vJ fold ch B dY))) m aU (.str [bJ fold]))) (p.hp t):=by
 have pu:0<s:=by rcases b.hs with h|h|h|h<;>cases h<;>decide
 refine c5 b.eS.aO λn x r N=>ak b.he.head λc q=>ak q.1 λcM he=> ?_
 have T:dY.flatten++hG s B t=gu dY n x r:=congrArg (dY.flatten++ ·) N.1
 have bu:=b.h0
 have h0:=b.he
 unfold wa at h⊢
 rw[T] at h h0⊢
 rw[N.1] at bu
 have aq:=bD.aO (s:= [bJ fold]) h
 have aC:=aq.aO.aO
 have aD:=nM aC h0
 have bz:=aC.aO
 have ve:=fH [bJ fold] h (i4 (i4 (i4 v9)))
 have pw:=λm=>ae3 (p:=p) (d:=d) (ch:=ch) (b:=c) (r:=cM++gu dY n x r) (by rcases b.hd with h|h<;>rw[h];exact d5 rfl;exact b.hs) (by have:=b.ag;rw[he] at this;exact this) m
 unfold Dy at pw
 rw[show c::(cM++gu dY n x r)=e++gu dY n x r by rw[he];rfl] at pw
 have vf:=λm=>aeY (m:=m) h0 v9 aC
 obtain ⟨m,vl,vm⟩: ∃m,(d=af->dY= []/\aJ (tA [.ap 30] (p.hp (gu dY n x r))) (.f (.tup [.lst [],.int (.ofNat s),m])) (p.hp (x::r)))/\(d=ab s->aJ (wg [.ap 30,.f (.int (.ofNat s))] (p.hp (gu dY n x r))) (.f (.tup [.lst (nJ dY),m])) (p.hp (x::r))):=by
  rcases b.hd with q|q
  ·obtain ⟨z,qq,Hf,eS,aA⟩:=b.no q
   subst z
   have aH: ¬x∈ [32,13,10,133,8232,8233]/\n=s:=by
    have L:=b.eS
    rw[eS] at N L
    exact⟨λm=> (e5.mp m).elim (λe=>aA (N.2.2.2.2.trans e)) N.2.1.nb,N.2.2.1⟩
   obtain ⟨m,i⟩:=ae2 aH.1 bz aD
   exact⟨m,λ_=> ⟨rfl,Eq.subst (motive:=λs=>aJ (tA [.ap 30] (p.hp (gu [] n x r))) (.f (.tup [.lst [],.int (.ofNat s),m])) (p.hp (x::r))) aH.2 i⟩,λz=>absurd (q.symm.trans z) nofun⟩
  ·obtain ⟨m,i⟩:=PI (k:=s) N.2.1 (bf (gG ..) (bf b.ar (by decide))) bu bz aD
   exact⟨m,λz=>absurd (z.symm.trans q) nofun,λ_=>i⟩
 have aA:=adA (fold:=fold) B dY []
 have Vh:=CD bu bz aD
 have oo:bD p.buf (x::r):=bD.aO (s:=dY.flatten++gP n 32) (by rw[bt];exact bz)
 delta As
 obtain ⟨aU,y,z,L⟩:=ae6 (v:=⟨fold,p.je (bJ fold::(yT d++(yS ch++(e++gu dY n x r)))),qF ch,yp d,cond d.isSome af (ab (.f (.int (.ofNat s)))),s⟩) (m:=m) pu b.eS b.hf b.ar N oo Vh
 exact⟨_,aU,aV λG K F k=>afo (R:=m5 fold B dY []) (ch:=ch) rfl (bf (h1 (bf aA (fh (congrArg (· +_) (jt _)))) 1) (bf (h1 b.ar 1) (by decide))) b.cG (afy b.hs b.hd ve (pw _ aq) (vf _) vl vm F _ _ L) k⟩
def aiI (a:List Nat) (c:Nat):Bool:= !ek [c] a
theorem x8: ∀d,d<12->(d<10->((!ek [48+d] [48])=aa/\(!ek [57] [48+d])=aa)/\wl [48+d]=ab d)/\(10<=d->dv d= [49,48+(d-10)])/\(d<10->dv d= [48+d])/\wl (dv d)=ab d:=by decide
def Zf (c:Nat):Prop:=(!ek [c] [48])=aa/\(!ek [57] [c])=aa
theorem LB: ∀d,d<12-> ∀c∈dv d,(!ek [c] [48])=aa/\(!ek [57] [c])=aa:=by decide
theorem Vt: ∀d,d<12-> ∃c w,dv d=c::w:=λd _=>by unfold dv;split<;>exact⟨_,_,rfl⟩
def acm:St->(cD->St->Prop)->Prop:=fa (ev (aI eP) xR.aO.aO.aO.hd.df).t (bN (aI eP) xR.aO.aO.aO.hd.bd)
def O1 (p:Ps) (m:ae) (c n:Nat) (t:List Nat):St:=⟨[(37,ab (.ap 30)),(158,ab m),(6,ab (.f (.str [c]))),(89,ab (.f (.int (.ofNat n)))),(71,af)],p.hp t,[],[]⟩
theorem uw {a b:List Nat} {c:Nat}:(a++c::b)[a.length]? =ab c:=by rw[tN (fi _),w2];rfl
theorem Ug {a l:List Nat} {x:Nat}:(a++x::l)[a.length+1]? =l.head? :=by rw[tN (kx _),show a.length.succ-a.length=1 from A9 a.length 1];cases l<;>rfl
theorem acn {p:Ps} {m:ae} {x c:Nat} {r:List Nat} (aD:c=46\/il c): ∀(w a:List Nat),(∀x∈w,Zf x)->bD p.buf (a++(w++c::r))->
  aJ (acm (O1 p m x a.length (a++(w++c::r)))) .aQ (O1 p m x (a++w).length (a++(w++c::r))):=λw=>by
 induction w with
 |nil=>
  intro a _ h
  rw[dj]
  have P:=iQ h uw
  rcases aD with rfl|rfl|rfl
  ·exact eQ (by exact b9 λ_ _ F k=>F _ _ P ac rfl k)
  ·exact eQ (by exact b9 λ_ _ F k=>F _ _ P ac rfl k)
  ·exact eQ (by exact b9 λ_ _ F k=>F _ _ P ac rfl k)
 |cons y w ai=>
  intro a hw h
  have e:=bt a [y] (w++c::r)
  have i:=ai (a++ [y]) (λz cG=>hw z (eY _ cG)) (e▸h)
  rw[e,bt a [y],bL] at i
  have cO:=hw y eo
  exact fb (by exact b9 λ_ _ F k=>F _ _ (iQ h uw) aa cO.1 aa cO.2 k) i
theorem s_num {p:Ps} {d c:Nat} {r:List Nat} {m:ae} (hd:d<12) (aD:c=46\/il c) (h:bD p.buf (dv d++c::r)):
  aJ (GL [.ap 30,m] (p.hp (dv d++c::r))) (.f (.int (.ofNat d))) (p.hp (c::r)):=by
 delta GL
 obtain ⟨x,w,e⟩:=Vt d hd
 have aH:=LB d hd x (e▸eo)
 have P:aJ (tz [.ap 30,.f (.int (.ofNat 0))] (p.hp (dv d++c::r))) (.f (.str [x])) (p.hp (dv d++c::r)):=iQ (i:=0) h (by rw[e];rfl)
 exact aV λ_ _ F k=>F _ _ P aa aH.1 aa aH.2 _ _ (acn aD (dv d) [] (LB d hd) h) _ _ (ki (dv d) h) _ ((x8 d hd).2.2.2) _ _ (fH (dv d) h (c9 _ _)) k
theorem aeZ {p:Ps} {e r:List Nat} {m:aj} (he:g9 e r) (aA:r≠ []) (h:bD p.buf (e++r)):aJ (GF [.ap 30,.f m] (p.hp (e++r))) (.f .none) (p.hp r):=by
 delta GF
 exact ak (Fj h he) λc q=>by
  have b:=CE q.2
  exact(λL=>by exact aV λ_ _ F k=>F _ _ L _ _ q.1 ac b.2.1 _ _ q.1 ac b.2.2.1 _ _ (vT h he aA) k) (eQ (b9 λG W F w=>by exact F _ _ q.1 ac b.1 w):aJ (fa (ev (aI dr) xK.hd.df).t (bN (aI dr) xK.hd.bd) ⟨[(37,ab (.ap 30)),(158,ab (.f m)),(6,af)],p.hp (e++r),[],[]⟩) .aQ ⟨[(37,ab (.ap 30)),(158,ab (.f m)),(6,af)],p.hp (e++r),[],[]⟩)
theorem FG {t:St->(Bool->St->aB)->aB} {b:St->(cD->St->aB)->aB} {σ σ':St} (aq:aJ (kO t b σ) af σ') (aC:aJ (kO t b σ') (ab .aQ) σ'):aJ (fa t b σ) .aQ σ':=fb aq (eQ aC)
def QX (p:Ps) (m:aj) (t:List Nat):St:=⟨[(37,ab (.ap 30)),(158,ab (.f m)),(59,af),(61,af)],p.hp t,[],[]⟩
theorem afv {p:Ps} {d b:Nat} {r:List Nat} {m:aj} (hd:d<12) (ag:il b) (h:bD p.buf (32::49::46::(dv d++b::r))):
  aJ (GN [.ap 30,.f m] (p.hp (32::49::46::(dv d++b::r)))) (.f (.tup [.int 1,.int (.ofNat d)])) (p.hp (b::r)):=by
 delta GN
 have aq:=bD.aO (s:= [32]) h
 have aC:=bD.aO (s:= [49]) aq
 have bz:=bD.aO (s:= [46]) aC
 have L:aJ (fa (ev (aI dr) xS.hd.df).t (bN (aI dr) xS.hd.bd) (QX p m (32::49::46::(dv d++b::r)))) .aQ (QX p m (49::46::(dv d++b::r))):=
  FG (by exact b9 λ_ _ F k=>F _ _ (cY h) aa rfl _ _ (fH [32] h (c9 _ _)) k) (by exact b9 λ_ _ F k=>F _ _ (cY aq) ac rfl k)
 exact aV λ_ _ F k=>F _ _ L _ _ (s_num (d:=1) (m:= .f m) (by decide) (d5 rfl) aq) _ _ (cY aC) ac rfl _ _ (fH [46] aC (i4 (c9 _ _))) _ _ (s_num (m:= .f m) hd (cW ag) bz) _ _ (cY bz.aO) _ (congrArg not (ag.yU (l:= [0,32,13,10,133,8232,8233]) rfl)) k
def GV (x:Nat):Prop:=(!ek [x] [48])=aa/\(!ek [57] [x])=ac/\(!ek [x] [65])=aa/\(!ek [90] [x])=aa
def ab6:St->(cD->St->Prop)->Prop:=fa (ev (aI eP) xM.aO.aO.hd.df).t (bN (aI eP) xM.aO.aO.hd.bd)
def OO (p:Ps) (m:aj) (n c:Nat) (t:List Nat):St:=⟨[(37,ab (.ap 30)),(158,ab (.f m)),(89,ab (.f (.int (.ofNat n)))),(6,ab (.f (.str [c]))),(71,af)],p.hp t,[],[]⟩
theorem OQ {m:aj} {p:Ps} {r:List Nat}: ∀(w a:List Nat) (c:Nat),(w++32::r).head? =ab c->(∀x∈w,GV x)->bD p.buf (a++(w++32::r))->
  aJ (ab6 (OO p m a.length c (a++(w++32::r)))) .aQ (OO p m (a++w).length 32 (a++(w++32::r))):=λw=>by
 induction w with
 |nil=>intro a c aD _ h;cases aD;rw[dj];exact eQ (by exact b9 λ_ _ F k=>F ac rfl ac rfl ac rfl ac rfl k)
 |cons x w ai=>
  intro a c aD hw h
  cases aD
  have e:=bt a [x] (w++32::r)
  have aH:=hw x eo
  obtain ⟨d,hd⟩: ∃d,(w++32::r).head? =ab d:=by cases w<;>exact⟨_,rfl⟩
  have i:=ai (a++ [x]) d hd (λz cG=>hw z (eY _ cG)) (e▸h)
  rw[e,bt a [x],bL] at i
  have P:=iQ (i:=a.length+1) (c:=d) h (Ug.trans hd)
  exact fb (by exact b9 λ_ _ F k=>F aa aH.1 ac aH.2.1 aa aH.2.2.1 aa aH.2.2.2 _ _ P k) i
theorem PN {p:Ps} {r w:List Nat} {m:aj} (hw:w= [89,65,77,76]\/w= [84,65,71]) (h:bD p.buf (w++32::r)):
  aJ (GG [.ap 30,.f m] (p.hp (w++32::r))) (.f (.str w)) (p.hp (32::r)):=by
 delta GG
 rcases hw with rfl|rfl
 ·exact aV λ_ _ F k=>F _ _ (cY h) _ _ (OQ [89,65,77,76] [] 89 rfl (by unfold GV;decide) h) aa rfl _ _ (ki [89,65,77,76] h) _ _ (fH [89,65,77,76] h (c9 _ _)) _ _ (cY (h.aO (s:= [89,65,77,76]))) ac rfl k
 ·exact aV λ_ _ F k=>F _ _ (cY h) _ _ (OQ [84,65,71] [] 84 rfl (by unfold GV;decide) h) aa rfl _ _ (ki [84,65,71] h) _ _ (fH [84,65,71] h (c9 _ _)) _ _ (cY (h.aO (s:= [84,65,71]))) ac rfl k
def eu (h:List Nat):Prop:=h= [33]\/h= [33,101,33]
def zL (x:List Nat):Prop:=x= [33,120]\/x= [33,121]\/x= [116]
def FP (p:Ps) (nm m:aj) (n c:Nat) (t:List Nat):St:=⟨[(37,ab (.ap 30)),(33,ab (.f nm)),(158,ab (.f m)),(6,ab (.f (.str [c]))),(89,ab (.f (.int (.ofNat n)))),(71,af)],p.hp t,[],[]⟩
theorem aeW {p:Ps} {h r:List Nat} {m nm:aj} (cw:eu h) (c6:bD p.buf (h++32::r)):aJ (GI [.ap 30,.f nm,.f m] (p.hp (h++32::r))) (.f (.str h)) (p.hp (32::r)):=by
 delta GI
 rcases cw with rfl|rfl
 ·exact aV λ_ _ F k=>F _ _ (cY c6) ac rfl _ _ (iQ (i:=1) c6 rfl) ac rfl _ _ (ki [33] c6) _ _ (fH [33] c6 (c9 _ _)) k
 ·have L:aJ (fa (ev (aI eP) xO.aO.aO.aO.aO.hd.bd.hd.df).t (bN (aI eP) xO.aO.aO.aO.aO.hd.bd.hd.bd) (FP p nm m 1 101 ([33,101,33]++32::r))) .aQ (FP p nm m 2 33 ([33,101,33]++32::r)):=
   fb (by exact b9 λ_ _ F k=>F aa rfl ac rfl aa rfl ac rfl aa rfl aa rfl _ _ (iQ (i:=2) c6 rfl) k) (eQ (σ:=FP p nm m 2 33 ([33,101,33]++32::r)) (by exact b9 λ_ _ F k=>F ac rfl ac rfl ac rfl ac rfl k))
  exact aV λ_ _ F k=>F _ _ (cY c6) ac rfl _ _ (iQ (i:=1) c6 rfl) aa rfl _ _ L ac rfl _ _ (ki [33,101,33] c6) _ _ (fH [33,101,33] c6 (c9 _ _)) k
def Ax:St->(cD->St->Prop)->Prop:=fa (ev (aI eP) xP.aO.aO.aO.hd.df).t (bN (aI eP) xP.aO.aO.aO.hd.bd)
def ng (p:Ps) (nm m:aj) (n c:Nat) (t:List Nat):St:=⟨[(37,ab (.ap 30)),(33,ab (.f nm)),(158,ab (.f m)),(80,ab (.ap 100)),(89,ab (.f (.int (.ofNat n)))),(6,ab (.f (.str [c])))],p.hp t,[(100,.list [])],[100]⟩
theorem afq {p:Ps} {x r:List Nat} {b:Nat} {m nm:aj} (aH:zL x) (ag:il b) (h:bD p.buf (x++b::r)):aJ (GJ [.ap 30,.f nm,.f m] (p.hp (x++b::r))) (.f (.str x)) (p.hp (b::r)):=by
 delta GJ
 have E: ∀n,aJ (Ax (ng p nm m n b (x++b::r))) .aQ (ng p nm m n b (x++b::r)):=λn=>by
  rcases ag with rfl|rfl
  ·exact eQ (by exact b9 λ_ _ F k=>F ac rfl ac rfl ac rfl ac rfl k)
  ·exact eQ (by exact b9 λ_ _ F k=>F ac rfl ac rfl ac rfl ac rfl k)
 rcases aH with rfl|rfl|rfl
 ·have L:aJ (Ax (ng p nm m 0 33 ([33,120]++b::r))) .aQ (ng p nm m 2 b ([33,120]++b::r)):=fb (σ₁:=ng p nm m 1 120 ([33,120]++b::r)) (by exact b9 λ_ _ F k=>F ac rfl ac rfl ac rfl aa rfl ac rfl _ _ (iQ (i:=1) h rfl) k) (fb (by exact b9 λ_ _ F k=>F aa rfl ac rfl aa rfl ac rfl aa rfl aa rfl ac rfl _ _ (iQ (i:=2) h rfl) k) (E 2))
  exact aV λ_ _ F k=>F _ rfl _ _ (cY h) _ _ L aa rfl _ _ (ki [33,120] h) rfl _ _ (fH [33,120] h (c9 _ _)) rfl aa rfl _ rfl (cS rfl) k
 ·have L:aJ (Ax (ng p nm m 0 33 ([33,121]++b::r))) .aQ (ng p nm m 2 b ([33,121]++b::r)):=fb (σ₁:=ng p nm m 1 121 ([33,121]++b::r)) (by exact b9 λ_ _ F k=>F ac rfl ac rfl ac rfl aa rfl ac rfl _ _ (iQ (i:=1) h rfl) k) (fb (by exact b9 λ_ _ F k=>F aa rfl ac rfl aa rfl ac rfl aa rfl aa rfl ac rfl _ _ (iQ (i:=2) h rfl) k) (E 2))
  exact aV λ_ _ F k=>F _ rfl _ _ (cY h) _ _ L aa rfl _ _ (ki [33,121] h) rfl _ _ (fH [33,121] h (c9 _ _)) rfl aa rfl _ rfl (cS rfl) k
 ·have L:aJ (Ax (ng p nm m 0 116 ([116]++b::r))) .aQ (ng p nm m 1 b ([116]++b::r)):=fb (by exact b9 λ_ _ F k=>F aa rfl ac rfl aa rfl ac rfl aa rfl aa rfl ac rfl _ _ (iQ (i:=1) h rfl) k) (E 1)
  exact aV λ_ _ F k=>F _ rfl _ _ (cY h) _ _ L aa rfl _ _ (ki [116] h) rfl _ _ (fH [116] h (c9 _ _)) rfl aa rfl _ rfl (cS rfl) k
def tq (p:Ps) (m:aj) (h:Option ae) (t:List Nat):St:=⟨[(37,ab (.ap 30)),(158,ab (.f m)),(87,h),(91,af)],p.hp t,[],[]⟩
def FV:St->(cD->St->Prop)->Prop:=fa (ev (aI g0) xN.hd.df).t (bN (aI g0) xN.hd.bd)
theorem Qt {p:Ps} {m:aj} {o:Option ae} {c:Nat} {r:List Nat} (aD:c≠32) (h:bD p.buf (32::c::r)):aJ (FV (tq p m o (32::c::r))) .aQ (tq p m o (c::r)):=
 FG (by exact b9 λ_ _ F k=>F _ _ (cY h) aa rfl _ _ (fH [32] h (c9 _ _)) k) (by exact b9 λ_ _ F k=>F _ _ (cY (bD.aO (s:= [32]) h)) ac (h8 aD) k)
theorem afn {p:Ps} {h x r:List Nat} {b:Nat} {m:aj} (cw:eu h) (aH:zL x) (ag:il b) (c6:bD p.buf (32::(h++32::(x++b::r)))):
  aJ (GH [.ap 30,.f m] (p.hp (32::(h++32::(x++b::r))))) (.f (.tup [.str h,.str x])) (p.hp (b::r)):=by
 delta GH
 have aq:=bD.aO (s:= [32]) c6
 have aC:=aq.aO
 have bz:=bD.aO (s:= [32]) aC
 obtain ⟨c,h',e,aD⟩: ∃c h',h=c::h'/\c≠32:=by rcases cw with rfl|rfl<;>exact⟨_,_,rfl,by decide⟩
 obtain ⟨d,be,cM,hd⟩: ∃c h',x=c::h'/\c≠32:=by rcases aH with rfl|rfl|rfl<;>exact⟨_,_,rfl,by decide⟩
 have Rz:aJ (FV (tq p m af (32::(h++32::(x++b::r))))) .aQ (tq p m af (h++32::(x++b::r))):=by rw[e] at c6⊢;exact Qt aD c6
 have tM:aJ (FV (tq p m (ab (.f (.str h))) (32::(x++b::r)))) .aQ (tq p m (ab (.f (.str h))) (x++b::r)):=by rw[cM] at aC⊢;exact Qt hd aC
 have H:aJ (QE [.ap 30,.f m] (p.hp (h++32::(x++b::r)))) (.f (.str h)) (p.hp (32::(x++b::r))):=by exact aV λ_ _ F k=>F _ _ (aeW cw aq) _ _ (cY aC) ac rfl k
 have X:aJ (QF [.ap 30,.f m] (p.hp (x++b::r))) (.f (.str x)) (p.hp (b::r)):=by exact aV λ_ _ F k=>F _ _ (afq aH ag bz) _ _ (cY bz.aO) _ (congrArg not (ag.yU (l:= [0,32,13,10,133,8232,8233]) rfl)) k
 exact aV λ_ _ F k=>F _ _ Rz _ _ H _ _ tM _ _ X k
noncomputable def Ps.hk (p:Ps) (n:Nat):Ps:={p with dJ:=n}
noncomputable def Ps.aO (p:Ps) (l:List ae):Ps:={p with tok:=l}
noncomputable def Ps.eh (p:Ps) (a:Bool):Ps:={p with ask:=a}
noncomputable def Ps.cp (p:Ps) (a:Bool) (t:aj):Ps:={p with ask:=a,tok:= [.f t]}
theorem Ps.zN {p:Ps} (h:p.dJ=33):p=p.hk 33:=by cases p;cases h;rfl
theorem Ps.m9 {p:Ps} {l:List ae} (h:p.tok=l):p=p.aO l:=by cases p;cases h;rfl
theorem vV {p:Ps} {t:List Nat} {c:Int} (h:decide (-1>c)=ac):aJ (Av [.ap 30,.f (.int c)] (p.hp t)) (.f .none) (p.hp t):=by
 delta Av
 have L:aJ (fa (ev (aI []) xT.aO.hd.df).t (bN (aI []) xT.aO.hd.bd) ⟨[(37,ab (.ap 30)),(82,ab (.f (.int c))),(32,af)],p.hp t,[],[]⟩) .aQ ⟨[(37,ab (.ap 30)),(82,ab (.f (.int c))),(32,af)],p.hp t,[],[]⟩:=eQ (by exact b9 λ_ _ F k=>F ac h k)
 exact aV λ_ _ F k=>F ac rfl _ _ L k
theorem zY {p:Ps} {t:List Nat} (hp:p.dJ=33):aJ (GC [.ap 30] (p.hp t)) (.f .none) (p.hp t):=by
 delta GC
 rw[p.zN hp];exact aV λ_ _ F k=>F ac rfl k
theorem rj {p:Ps} {t:List Nat} (hp:p.dJ=33):aJ (GO [.ap 30] (p.hp t)) (.f .none) (p.hp t):=by
 delta GO
 rw[p.zN hp];exact aV λ_ _ F k=>F k
theorem afb {p:Ps} {t:List Nat} (hp:p.dJ=33):aJ (GA [.ap 30] (p.hp t)) (.f .none) (p.hp t):=by
 delta GA
 rw[p.zN hp];exact aV λ_ _ F k=>F _ _ (λK k=>k) k
theorem ae7 {p:Ps} {t:List Nat} (hd:p.done=ac) (ci:p.tok= []):aJ (we [.ap 30] (p.hp t)) (.f (.bool aa)) (p.hp t):=by
 delta we
 rw[p.m9 ci];exact aV λ_ _ F k=>F ac hd rfl ac rfl k
structure jX (p:Ps) (t:aj):Prop where
 tok:p.tok= [.f t]
 st:p.done=aa\/p.dJ=33
theorem ae8 {p:Ps} {t:List Nat} {k:aj} (h:jX p k): ∃v,(v= .bool ac\/v= .none)/\aJ (we [.ap 30] (p.hp t)) (.f v) (p.hp t):=by
 delta we
 cases hd:p.done with
 |true=>exact⟨_,d5 rfl,by exact aV λ_ _ F k=>F aa hd k⟩
 |false=>
  have hs:=h.st.resolve_left (hd▸oB)
  have S:=rj (t:=t) hs
  have N:=afb (t:=t) hs
  rw[p.m9 h.tok] at hd S N⊢
  exact⟨_,cW rfl,by exact aV λ_ _ F k=>F ac hd rfl aa rfl _ _ S _ _ N ac rfl k⟩
structure BX (c:Nat):Prop where
 eg:c≠32
 cB:c≠35
 bo:c≠65279
 c0: ¬c∈ [13,10,133]
 ls: ¬c∈ [8232,8233]
def zD:S:=xQ.aO.aO.hd
def O3:St->(cD->St->Prop)->Prop:=fa (ev (aI dr) zD.df).t (bN (aI dr) zD.bd)
def O2:St->(cD->St->Prop)->Prop:=fa (ev (aI dr) zD.bd.hd.df).t (bN (aI dr) zD.bd.hd.bd)
def m1 (p:Ps) (b:Bool) (t:List Nat):St:=⟨[(37,ab (.ap 30)),(53,ab (.f (.bool b)))],p.hp t,[],[]⟩
theorem O4 {p:Ps} {c:Nat} {r:List Nat} {b:Bool} (aD:c≠32) (h:bD p.buf (c::r)):aJ (O2 (m1 p b (c::r))) .aQ (m1 p b (c::r)):=eQ (by exact b9 λ_ _ F k=>F _ _ (cY h) ac (h8 aD) k)
theorem acA {p:Ps} {c:Nat} {r:List Nat} {b:Bool} (aD:c≠32) (h:bD p.buf (32::c::r)):aJ (O2 (m1 p b (32::c::r))) .aQ (m1 p b (c::r)):=
 FG (by exact b9 λ_ _ F k=>F _ _ (cY h) aa rfl _ _ (fH [32] h (c9 _ _)) k) (by exact b9 λ_ _ F k=>F _ _ (cY (bD.aO (s:= [32]) h)) ac (h8 aD) k)
theorem O5 {p:Ps} {c:Nat} {r:List Nat} (aD:BX c) (h:bD p.buf (c::r)):aJ (O3 (m1 p ac (c::r))) .aQ (m1 p aa (c::r)):=
 fb (by exact b9 λ_ _ F k=>F ac rfl _ _ (O4 aD.eg h) _ _ (cY h) ac (h8 aD.cB) _ _ (PS h (qT aD.c0) (qT aD.ls)) ac rfl k) (eQ (σ:=m1 p aa (c::r)) (by exact b9 λ_ _ F k=>F aa rfl k))
inductive mn (t:List Nat):List Nat->Bool->Prop
 |no:mn t t ac
 |eg:mn t (32::t) ac
 |nl {e:List Nat} (h:g9 e t):mn t (e++t) aa
theorem vU {p:Ps} {c:Nat} {r u:List Nat} {b:Bool} (g:mn (c::r) u b) (aD:BX c) (h:bD p.buf u): ∃a,aJ (GK [.ap 30] (p.hp u)) (.f .none) ((p.eh a).hp (c::r))/\bD p.buf (c::r):=by
 delta GK
 have hd: ∀(a:Bool) (d:Nat) (g4:List Nat),bD p.buf (d::g4)->aM [d] [65279]=ac->aJ (O3 (m1 p ac (d::g4))) .aQ (m1 (p.eh a) aa (c::r))->aJ (bH (aI dr) [37] [53] xQ [.ap 30] (p.hp (d::g4))) (.f .none) ((p.eh a).hp (c::r)):=λa d g4 h hd L=>by
  cases e:decide (c1 (pos p.buf (d::g4))=0) with
  |true=>exact aV λ_ _ F k=>F aa e _ _ (cY h) ac hd _ _ L k
  |false=>exact aV λ_ _ F k=>F ac e _ _ L k
 cases g with
 |no=>exact⟨p.ask,hd _ _ _ h (h8 aD.bo) (O5 aD h),h⟩
 |eg=>
  have aq:=bD.aO (s:= [32]) h
  refine⟨p.ask,hd _ _ _ h (h8 (by decide)) (fb ?_ (eQ (σ:=m1 p aa (c::r)) (by exact b9 λ_ _ F k=>F aa rfl k))),aq⟩
  exact b9 λ_ _ F k=>F ac rfl _ _ (acA aD.eg h) _ _ (cY aq) ac (h8 aD.cB) _ _ (PS aq (qT aD.c0) (qT aD.ls)) ac rfl k
 | @nl e he=>
  have aq:=h.aO
  have ag:sZ (dV e)=aa:=by cases he<;>rfl
  have S:=vT h he (c9 _ _)
  obtain ⟨d,cM,yK,Ms⟩: ∃d cM,e=d::cM/\d∈ [13,10,133,8232,8233]:=ak he.head λc q=>ak q.1 λcM x=> ⟨c,cM,x,q.2⟩
  have b:=CE Ms
  rw[yK] at h S⊢
  refine⟨aa,hd aa d _ h b.2.2.2 (fb ?_ (O5 (p:=p.eh aa) aD aq)),aq⟩
  exact b9 λ_ _ F k=>F ac rfl _ _ (O4 (λe=>absurd (e▸Ms) (by decide)) h) _ _ (cY h) ac b.2.1 _ _ S aa (yK▸ag) ac rfl k
noncomputable abbrev lO (n v m aU:aj):aj:= .inst 876 [33,71,158,117] [n,v,m,aU]
noncomputable abbrev mO (m aU:aj):aj:= .inst 888 [158,117] [m,aU]
noncomputable abbrev uM (m aU:aj):aj:= .inst 900 [158,117] [m,aU]
noncomputable abbrev z0 (m aU:aj):aj:= .inst 932 [158,117] [m,aU]
inductive rI:List Nat->aj->aj->Prop
 |y (d:Nat) (h:d<12):rI ([89,65,77,76]++32::49::46::dv d) (.str [89,65,77,76]) (.tup [.int 1,.int (.ofNat d)])
 |t (h x:List Nat) (cw:eu h) (aH:zL x):rI ([84,65,71]++32::(h++32::x)) (.str [84,65,71]) (.tup [.str h,.str x])
theorem aeN {p:Ps} {e r w:List Nat} {n v:aj} (hw:rI w n v) (he:g9 e r) (aC:il (e.headD 0)) (aA:r≠ []) (h:bD p.buf (37::(w++(e++r)))):
  ∃m aU,aJ (GD [.ap 30] (p.hp (37::(w++(e++r))))) (.f (lO n v m aU)) (p.hp r):=by
 delta GD
 obtain ⟨b,cM,rfl⟩: ∃b cM,e=b::cM:=ak he.head λc q=>ak q.1 λcM x=> ⟨c,cM,x⟩
 have yF:=λm=>aeZ (m:=m) he aA (bD.aO (s:= [37]) h).aO
 cases hw with
 |y d hd=>
  rw[show([89,65,77,76]++32::49::46::dv d)++(b::cM++r)= [89,65,77,76]++32::49::46::(dv d++b::(cM++r)) from bt ..] at h⊢
  have aq:=bD.aO (s:= [37]) h
  refine⟨p.je (37::([89,65,77,76]++32::49::46::(dv d++b::(cM++r)))),p.je (b::(cM++r)), ?_⟩
  exact aV λ_ _ F k=>F _ _ gO _ _ (fH [37] h (c9 _ _)) _ _ (PN (d5 rfl) aq) aa rfl _ _ (afv hd aC (aq.aO (s:= [89,65,77,76]))) _ _ gO _ _ (yF _) _ _ (λK k=> ⟨_,rfl,rfl,k⟩) k
 |t x y cw aH=>
  rw[show([84,65,71]++32::(x++32::y))++(b::cM++r)= [84,65,71]++32::(x++32::(y++b::(cM++r))) by simp] at h⊢
  have aq:=bD.aO (s:= [37]) h
  refine⟨p.je (37::([84,65,71]++32::(x++32::(y++b::(cM++r))))),p.je (b::(cM++r)), ?_⟩
  exact aV λ_ _ F k=>F _ _ gO _ _ (fH [37] h (c9 _ _)) _ _ (PN (cW rfl) aq) ac rfl aa rfl _ _ (afn cw aH aC (aq.aO (s:= [84,65,71]))) _ _ gO _ _ (yF _) _ _ (λK k=> ⟨_,rfl,rfl,k⟩) k
structure lA (p:Ps):Prop where
 dJ:p.dJ=33
 tok:p.tok= []
 done:p.done=ac
theorem aeT {p:Ps} {e r w:List Nat} {n v:aj} (E:lA p) (hw:rI w n v) (he:g9 e r) (aC:il (e.headD 0)) (aA:r≠ []) (h:bD p.buf (37::(w++(e++r)))):
  ∃m aU,aJ (Gq [.ap 30] (p.hp (37::(w++(e++r))))) (.f .none) ((p.cp ac (lO n v m aU)).hp r):=by
 delta Gq
 obtain ⟨m,aU,D⟩:=aeN (p:=(p.aO []).eh ac) hw he aC aA h
 refine⟨m,aU, ?_⟩
 have R:=zY (p:=p.aO []) (t:=37::(w++(e++r))) E.dJ
 rw[p.m9 E.tok]
 exact aV λ_ _ F k=>F _ _ (vV rfl) _ _ R _ _ D rfl k
theorem aeJ {p:Ps} {b:Nat} {r:List Nat} (ag:b=32) (aD:(cx p.buf (45::45::45::b::r)).2=0) (h:bD p.buf (45::45::45::b::r)):aJ (QB [.ap 30] (p.hp (45::45::45::b::r))) (.f (.bool aa)) (p.hp (45::45::45::b::r)):=by
 subst ag
 exact aV λ_ _ F k=>F aa (sp aD) _ _ (ki [45,45,45] h) aa rfl _ _ (iQ (i:=3) h rfl) aa rfl k
theorem aeI {p:Ps} {b:Nat} {r:List Nat} (ag:il b) (aD:(cx p.buf (46::46::46::b::r)).2=0) (h:bD p.buf (46::46::46::b::r)):aJ (QA [.ap 30] (p.hp (46::46::46::b::r))) (.f (.bool aa)) (p.hp (46::46::46::b::r)):=by
 exact aV λ_ _ F k=>F aa (sp aD) _ _ (ki [46,46,46] h) aa rfl _ _ (iQ (i:=3) h rfl) aa (ag.yU (l:= [0,32,9,13,10,133,8232,8233]) rfl) k
theorem aeH {p:Ps} {t:List Nat} (aD:(cx p.buf t).2=0):aJ (Qz [.ap 30] (p.hp t)) (.f (.bool aa)) (p.hp t):=by
 exact aV λ_ _ F k=>F aa (sp aD) k
theorem PL {p:Ps} {x y z b C:Nat} {r:List Nat} (E:lA p) (f7:C=888\/C=900) (h:bD p.buf (x::y::z::b::r)):
  ∃m aU,aJ (QD [.ap 30,.f (.st C)] (p.hp (x::y::z::b::r))) (.f .none) ((p.cp ac (.inst C [158,117] [m,aU])).hp (b::r)):=by
 refine⟨p.je (x::y::z::b::r),p.je (b::r), ?_⟩
 have R:=zY (p:=p.aO []) (t:=x::y::z::b::r) E.dJ
 have W:=fH (p:=(p.aO []).eh ac) [x,y,z] h (c9 _ _)
 rw[p.m9 E.tok]
 rcases f7 with rfl|rfl
 ·exact aV λ_ _ F k=>F _ _ (vV rfl) _ _ R _ _ (gO (p:=(p.aO []).eh ac) (t:=x::y::z::b::r)) _ _ W _ _ gO _ _ (λK k=> ⟨_,rfl,rfl,k⟩) rfl k
 ·exact aV λ_ _ F k=>F _ _ (vV rfl) _ _ R _ _ (gO (p:=(p.aO []).eh ac) (t:=x::y::z::b::r)) _ _ W _ _ gO _ _ (λK k=> ⟨_,rfl,rfl,k⟩) rfl k
def BT (fold:Bool) (s:Nat) (w t val:List Nat):Prop:=
 ∃(d:Option Nat) (ch:Option Bool) (e:List Nat) (dY:List (List Nat)) (B:g7),Hg fold d ch s e dY B t/\w++t=wa d ch s e dY B t/\aZ (vJ fold ch B dY)=val
theorem BT.run {fold:Bool} {s:Nat} {w t val:List Nat} (b:BT fold s w t val) {p:Ps} (h:bD p.buf (bJ fold::(w++t))):
  ∃m aU,aJ (As [.ap 30,.f (.str [bJ fold])] (p.hp (bJ fold::(w++t)))) (.f (jO (.str val) m aU (.str [bJ fold]))) (p.hp t):=by
 obtain ⟨d,ch,e,dY,B,aq,aC,rfl⟩:=b
 rw[aC] at h⊢
 exact afl aq h
theorem aeS {p:Ps} {fold:Bool} {s:Nat} {w t val:List Nat} (b:BT fold s w t val) (E:lA p) (h:bD p.buf (bJ fold::(w++t))):
  ∃m aU,aJ (QC [.ap 30,.f (.str [bJ fold])] (p.hp (bJ fold::(w++t)))) (.f .none) ((p.cp aa (jO (.str val) m aU (.str [bJ fold]))).hp t):=by
 obtain ⟨m,aU,D⟩:=b.run (p:=(p.aO []).eh aa) h
 refine⟨m,aU, ?_⟩
 have R:=zY (p:=(p.aO []).eh aa) (t:=bJ fold::(w++t)) E.dJ
 rw[p.m9 E.tok]
 exact aV λ_ _ F k=>F _ _ R _ _ D rfl k
theorem ahL {α:Type} {n:Nat} {v:α}: ∀{r:List (Nat×α)},aL n r=af->up n v r=r++ [(n,v)]
 | [],_=>rfl
 |p::r,h=>by
  unfold aL at h
  unfold up
  cases e:bA p.1 n with
  |true=>rw[e] at h;cases h
  |false=>rw[e] at h;exact congrArg (p:: ·) (ahL h)
def Ps.G7 (p:Ps) (m:aj):Ps:={p with ask:=ac,dJ:=34,done:=aa,tok:= [.f (z0 m m)],r:=up 34 (.dict [] []) p.r}
def Ps.lx (p:Ps):Ps:={p with dJ:=34,ask:=ac,tok:= [],r:=up 34 (.dict [] []) p.r}
theorem aeU {p:Ps} {t:List Nat} (E:lA p) (aS:aL 34 p.r=af):
  ∃m,aJ (Gw [.ap 30] (p.hp t)) (.f .none) ((p.G7 m).hp t):=by
 delta Gw
 refine⟨p.je t, ?_⟩
 have R:=zY (p:=(p.aO []).hk 33) (t:=t) rfl
 rw[p.m9 E.tok,Ps.zN (p:=p.aO []) E.dJ]
 have N: ∀loc,newId ⟨loc,(((p.aO []).hk 33).eh ac).hp t,[],[]⟩ 33=ab 34:=λloc=>by
  show(match(match aL 34 p.r with|some _=>ac|none=>aa) with|true=>ab 34|false=>_)=ab 34
  rw[aS]
 exact aV λ_ _ F k=>F _ _ (vV rfl) _ _ R _ (N _) _ _ (gO (p:=p.lx)) _ _ (λK k=> ⟨_,rfl,rfl,k⟩) rfl k
def kr (p:Ps) (u:List Nat) (q:Ps) (r:List Nat):Prop:=aJ (rv [.ap 30] (p.hp u)) (.f .none) (q.hp r)
theorem te {p:Ps} {t dR:List Nat}:aJ (Av [.ap 30,.f (.int (.ofNat (cx p.buf dR).2))] (p.hp t)) (.f .none) (p.hp t):=vV rfl
theorem v5 {c:Nat} (h:c=37\/c=45\/c=46\/c=124\/c=62\/c=0):BX c:=by
 rcases h with rfl|rfl|rfl|rfl|rfl|rfl<;>exact⟨by decide,by decide,by decide,by decide,by decide⟩
theorem abq {p:Ps} {u e r w:List Nat} {n v:aj} {b:Bool} (E:lA p) (g:mn (37::(w++(e++r))) u b) (aD:(cx p.buf (37::(w++(e++r)))).2=0) (hw:rI w n v) (he:g9 e r) (aC:il (e.headD 0)) (aA:r≠ []) (h:bD p.buf u):
  ∃m aU,kr p u (p.cp ac (lO n v m aU)) r:=by
 obtain ⟨a,R,aq⟩:=vU g (v5 (d5 rfl)) h
 obtain ⟨m,aU,D⟩:=aeT (p:=p.eh a) ⟨E.dJ,E.tok,E.done⟩ hw he aC aA aq
 refine⟨m,aU, ?_⟩
 delta kr rv
 exact aV λ_ _ F k=>F _ _ R _ _ (rj (p:=p.eh a) E.dJ) _ _ (te (p:=p.eh a)) _ _ (cY (p:=p.eh a) aq) ac rfl aa rfl _ _ (aeH (p:=p.eh a) aD) aa rfl _ _ D k
theorem abt {p:Ps} {u r:List Nat} {b:Bool} (E:lA p) (g:mn (45::45::45::32::r) u b) (aD:(cx p.buf (45::45::45::32::r)).2=0) (h:bD p.buf u): ∃m aU,kr p u (p.cp ac (mO m aU)) (32::r):=by
 obtain ⟨a,R,aq⟩:=vU g (v5 (by decide)) h
 obtain ⟨m,aU,D⟩:=PL (p:=p.eh a) ⟨E.dJ,E.tok,E.done⟩ (d5 rfl) aq
 refine⟨m,aU, ?_⟩
 have fe:aJ (Gs [.ap 30] ((p.eh a).hp (45::45::45::32::r))) (.f .none) ((p.cp ac (mO m aU)).hp (32::r)):=by
  delta Gs
  exact aV λ_ _ F k=>F _ _ D k
 delta kr rv
 exact aV λ_ _ F k=>F _ _ R _ _ (rj (p:=p.eh a) E.dJ) _ _ (te (p:=p.eh a)) _ _ (cY (p:=p.eh a) aq) ac rfl ac rfl aa rfl _ _ (aeJ (p:=p.eh a) rfl aD aq) aa rfl _ _ fe k
theorem abr {p:Ps} {u r:List Nat} {b:Bool} {c:Nat} (E:lA p) (ag:il c) (g:mn (46::46::46::c::r) u b) (aD:(cx p.buf (46::46::46::c::r)).2=0) (h:bD p.buf u): ∃m aU,kr p u (p.cp ac (uM m aU)) (c::r):=by
 obtain ⟨a,R,aq⟩:=vU g (v5 (by decide)) h
 obtain ⟨m,aU,D⟩:=PL (p:=p.eh a) ⟨E.dJ,E.tok,E.done⟩ (cW rfl) aq
 refine⟨m,aU, ?_⟩
 have fe:aJ (Gr [.ap 30] ((p.eh a).hp (46::46::46::c::r))) (.f .none) ((p.cp ac (uM m aU)).hp (c::r)):=by
  delta Gr
  exact aV λ_ _ F k=>F _ _ D k
 delta kr rv
 exact aV λ_ _ F k=>F _ _ R _ _ (rj (p:=p.eh a) E.dJ) _ _ (te (p:=p.eh a)) _ _ (cY (p:=p.eh a) aq) ac rfl ac rfl ac rfl aa rfl _ _ (aeI (p:=p.eh a) ag aD aq) aa rfl _ _ fe k
theorem NW {p:Ps} {u w t val:List Nat} {s:Nat} {b fold:Bool} (B:BT fold s w t val) (E:lA p) (g:mn (bJ fold::(w++t)) u b) (h:bD p.buf u): ∃m aU,kr p u (p.cp aa (jO (.str val) m aU (.str [bJ fold]))) t:=by
 obtain ⟨a,R,aq⟩:=vU g (v5 (by cases fold<;>decide)) h
 obtain ⟨m,aU,D⟩:=aeS (p:=p.eh a) B ⟨E.dJ,E.tok,E.done⟩ aq
 refine⟨m,aU, ?_⟩
 delta kr rv
 cases fold with
 |false=>
  have fe:aJ (Gv [.ap 30] ((p.eh a).hp (124::(w++t)))) (.f .none) ((p.cp aa (jO (.str val) m aU (.str [124]))).hp t):=by
   delta Gv
   exact aV λ_ _ F k=>F _ _ D k
  exact aV λ_ _ F k=>F _ _ R _ _ (rj (p:=p.eh a) E.dJ) _ _ (te (p:=p.eh a)) _ _ (cY (p:=p.eh a) aq) ac rfl ac rfl ac rfl ac rfl ac rfl ac rfl ac rfl ac rfl ac rfl ac rfl ac rfl ac rfl ac rfl ac rfl ac rfl aa rfl ac rfl _ _ fe k
 |true=>
  have fe:aJ (Gu [.ap 30] ((p.eh a).hp (62::(w++t)))) (.f .none) ((p.cp aa (jO (.str val) m aU (.str [62]))).hp t):=by
   delta Gu
   exact aV λ_ _ F k=>F _ _ D k
  exact aV λ_ _ F k=>F _ _ R _ _ (rj (p:=p.eh a) E.dJ) _ _ (te (p:=p.eh a)) _ _ (cY (p:=p.eh a) aq) ac rfl ac rfl ac rfl ac rfl ac rfl ac rfl ac rfl ac rfl ac rfl ac rfl ac rfl ac rfl ac rfl ac rfl ac rfl ac rfl aa rfl ac rfl _ _ fe k
theorem NX {p:Ps} {u r:List Nat} {b:Bool} (E:lA p) (aS:aL 34 p.r=af) (g:mn (0::r) u b) (h:bD p.buf u): ∃m,kr p u (p.G7 m) (0::r):=by
 obtain ⟨a,R,aq⟩:=vU g (v5 (by decide)) h
 obtain ⟨m,D⟩:=aeU (p:=p.eh a) (t:=0::r) ⟨E.dJ,E.tok,E.done⟩ aS
 refine⟨m, ?_⟩
 delta kr rv
 exact aV λ_ _ F k=>F _ _ R _ _ (rj (p:=p.eh a) E.dJ) _ _ (te (p:=p.eh a)) _ _ (cY (p:=p.eh a) aq) aa rfl _ _ D k
structure hZ (p:Ps) (u:List Nat) (q:Ps) (r:List Nat) (t:aj):Prop where
 hT:jX q t
 or:(q=p/\r=u)\/(p.tok= []/\p.done=ac/\kr p u q r)
theorem jX.aL {p:Ps} {u:List Nat} {t:aj} (h:jX p t):hZ p u p u t:=⟨h,d5 ⟨rfl,rfl⟩⟩
def zr:S:=Cv.hd
def sY (loc:List (Nat×Option ae)) (p:Ps) (u:List Nat):St:=⟨(37,ab (.ap 30))::loc,p.hp u,[],[]⟩
theorem EX {p:Ps} {u:List Nat} {t:aj} {loc:List (Nat×Option ae)} (h:jX p t) {b:St->(cD->St->aB)->aB}:aJ (fa (ev (aI kg) zr.df).t b (sY loc p u)) .aQ (sY loc p u)/\aJ (fa (ev (aI eP) zr.df).t b (sY loc p u)) .aQ (sY loc p u):=by
 obtain ⟨v,aW,N⟩:=ae8 (t:=u) h
 rcases aW with rfl|rfl
 ·exact⟨eQ (by exact b9 λ_ _ F k=>F _ _ N ac rfl k),eQ (by exact b9 λ_ _ F k=>F _ _ N ac rfl k)⟩
 ·exact⟨eQ (by exact b9 λ_ _ F k=>F _ _ N ac rfl k),eQ (by exact b9 λ_ _ F k=>F _ _ N ac rfl k)⟩
theorem OM {p q:Ps} {u r:List Nat} {t:aj} {loc:List (Nat×Option ae)} (h:hZ p u q r t):aJ (fa (ev (aI kg) zr.df).t (bN (aI kg) zr.bd) (sY loc p u)) .aQ (sY loc q r):=by
 rcases h.or with⟨e1,e2⟩ | ⟨aq,aC,hX⟩
 ·subst e1;subst e2;exact(EX h.hT).1
 ·exact fb (by exact b9 λ_ _ F k=>F _ _ (ae7 aC aq) aa rfl _ _ hX k) (EX h.hT).1
theorem pO {p q:Ps} {u r:List Nat} {t:aj} (h:hZ p u q r t):aJ (GB [.ap 30] (p.hp u)) (.f t) (q.hp r):=by
 delta GB
 have L:=OM (loc:= []) h
 rw[q.m9 h.hT.tok] at L⊢
 exact aV λ_ _ F k=>F _ _ L rfl aa rfl _ rfl k
noncomputable def Ps.gt (p:Ps):Ps:={p with tok:= [],tt:=p.tt+1}
theorem oh {p:Ps} {u:List Nat} {t:aj} (h:jX p t):aJ (Gy [.ap 30] (p.hp u)) (.f t) (p.gt.hp u):=by
 delta Gy
 have L:=λb=> (EX (loc:= []) (u:=u) (b:=b) h).2
 rw[p.m9 h.tok] at L⊢
 exact aV λ_ _ F k=>F _ _ (L _) rfl aa rfl rfl k
noncomputable abbrev px:List Nat:= [60,100,105,114,101,99,116,105,118,101,62]
noncomputable abbrev sM:List Nat:= [60,100,111,99,117,109,101,110,116,32,115,116,97,114,116,62]
noncomputable abbrev sL:List Nat:= [60,100,111,99,117,109,101,110,116,32,101,110,100,62]
noncomputable abbrev sN:List Nat:= [60,115,116,114,101,97,109,32,101,110,100,62]
noncomputable abbrev MB:List Nat:= [60,115,99,97,108,97,114,62]
inductive Tk:aj->List Nat->Prop
 |dir (n v m aU:aj):Tk (lO n v m aU) px
 |ds (m aU:aj):Tk (mO m aU) sM
 |nN (m aU:aj):Tk (uM m aU) sL
 |kk (m aU:aj):Tk (z0 m aU) sN
 |sc (x m aU y:aj):Tk (jO x m aU y) MB
theorem kK {p q:Ps} {u r:List Nat} {t c:aj} {cs:List aj} {id:List Nat} {b:Bool} (h:hZ p u q r t) (bj:Tk t id) (ag:kH (.str id) (c::cs)=ab b) (aA:cs.length<=100):aJ (Gp [.ap 30,.f (.tup (c::cs))] (p.hp u)) (.f (.bool b)) (q.hp r):=by
 delta Gp
 have L:=OM (loc:= [(102,ab (.f (.tup (c::cs))))]) h
 have hm:cm (c::cs)=aa:=fZ (bf (iX aA) (by decide))
 rw[q.m9 h.hT.tok] at L⊢
 cases b with
 |false=>cases bj<;>exact aV λ_ _ F k=>F _ _ L rfl aa rfl hm aa rfl _ rfl ac ag ac rfl k
 |true=>cases bj<;>exact aV λ_ _ F k=>F _ _ L rfl aa rfl hm aa rfl _ rfl aa ag aa rfl k
noncomputable abbrev zZ (val m aU y:aj):aj:= .inst 280 [76,19,120,71,158,117,68] [.none,.none,.tup [.bool ac,.bool aa],val,m,aU,y]
noncomputable abbrev kB (m aU:aj) (b:Bool):aj:= .inst 248 [158,117,118] [m,aU,.bool b]
noncomputable abbrev ol (m aU e:aj):aj:= .inst 196 [158,117,116] [m,aU,e]
noncomputable abbrev gU (m aU:aj) (b:Bool) (v t:aj):aj:= .inst 228 [158,117,118,110,39] [m,aU,.bool b,v,t]
noncomputable abbrev l9 (m aU:aj):aj:= .inst 208 [158,117] [m,aU]
noncomputable abbrev Vq:aj:=(.ei [[33],[33,33]] [(.str [33]),(.str [116,97,103,58,121,97,109,108,46,111,114,103,44,50,48,48,50,58])])
noncomputable def Ps.bX (p:Ps):Ps:={p with tok:= [],tt:=p.tt+1,st:= .dy 30 1869,fA:= []}
noncomputable def Ps.ss (p:Ps) (l:List ae):Ps:={p with fA:=l}
noncomputable def Ps.to (p:Ps) (s:Nat):Ps:={p with st:= .dy 30 s}
theorem Ps.z5 {p:Ps} {l:List ae} (h:p.fA=l):p=p.ss l:=by cases p;cases h;rfl
theorem hR {C:Nat} {ns:List Nat} {full:List ae} {hp:b4} {l:List aj} (h:eL full=ab l) (aA:bA l.length ns.length=aa):aJ (jK C ns full hp) (.f (.inst C ns l)) hp:=λ_ k=> ⟨l,h,aA,k⟩
set_option maxHeartbeats 4000000 in
theorem PH {p:Ps} {t:List Nat} {val m aU y:aj} (h:jX p (jO val m aU y)) (hs:p.fA= [.dy 30 1869]):aJ (Am [.ap 30] (p.hp t)) (.f (zZ val m aU y)) (p.bX.hp t):=by
 have c:=λ{c:aj} {b:Bool} (ag:kH (.str MB) [c]=ab b)=>kK (u:=t) h.aL (.sc _ _ _ _) ag (fu _)
 have P:=pO (u:=t) h.aL
 have g:=oh (u:=t) h
 delta Am
 rw[p.z5 hs] at c P g⊢
 have N:aJ (Gh [.ap 30,.f (.bool aa),.f (.bool ac)] ((p.ss [.dy 30 1869]).hp t)) (.f (zZ val m aU y)) (p.bX.hp t):=by
  delta Gh
  exact aV λ_ _ F k=>F _ _ (c rfl) ac rfl _ _ (c rfl) ac rfl _ _ (c rfl) ac rfl ac rfl aa rfl _ _ P aa rfl ac rfl _ _ (c rfl) aa rfl _ _ g ac rfl ac rfl aa rfl _ _ (hR rfl rfl) _ rfl rfl k
 exact aV λ_ _ F k=>F _ _ N k
theorem aeK {p q:Ps} {u r:List Nat} {val m aU y:aj} (h:hZ p u q r (jO val m aU y)) (hs:q.fA= [.dy 30 1869]):aJ (An [.ap 30] (p.hp u)) (.f (zZ val m aU y)) (q.bX.hp r):=by
 delta An
 exact aV λ_ _ F k=>F _ _ (kK h (.sc _ _ _ _) (cs:= [.str sM,.str sL,.str sN]) (c:= .str px) (b:=ac) rfl (by decide)) ac rfl _ _ (PH h.hT hs) k
theorem aeM {p q:Ps} {u r:List Nat} {m aU:aj} (h:hZ p u q r (uM m aU)):aJ (tv [.ap 30] (p.hp u)) (.f (kB m aU aa)) ((q.gt.to 1862).hp r):=by
 delta tv
 exact aV λ_ _ F k=>F _ _ (pO h) _ _ (kK (u:=r) h.hT.aL (.nN _ _) (cs:= []) (c:= .str sL) (b:=aa) rfl (by decide)) aa rfl _ _ (oh h.hT) _ _ (hR rfl rfl) k
theorem PJ {p q:Ps} {u r id:List Nat} {t:aj} (h:hZ p u q r t) (dQ:Tk t id) (hx:kH (.str id) [.str sL]=ab ac): ∃m,aJ (tv [.ap 30] (p.hp u)) (.f (kB m m ac)) ((q.to 1862).hp r):=by
 delta tv
 have c:=kK (u:=r) h.hT.aL dQ hx (fu _)
 cases dQ with
 |nN=>cases hx
 |dir _ _ m=>exact⟨m,by exact aV λ_ _ F k=>F _ _ (pO h) _ _ c ac rfl _ _ (hR rfl rfl) k⟩
 |ds m=>exact⟨m,by exact aV λ_ _ F k=>F _ _ (pO h) _ _ c ac rfl _ _ (hR rfl rfl) k⟩
 |kk m=>exact⟨m,by exact aV λ_ _ F k=>F _ _ (pO h) _ _ c ac rfl _ _ (hR rfl rfl) k⟩
 |sc _ m=>exact⟨m,by exact aV λ_ _ F k=>F _ _ (pO h) _ _ c ac rfl _ _ (hR rfl rfl) k⟩
theorem afh {p:Ps} {u:List Nat} {m aU e:aj} (h:jX p (.inst 920 [158,117,116] [m,aU,e])):aJ (Ao [.ap 30] (p.hp u)) (.f (ol m aU e)) ((p.gt.to 1855).hp u):=by
 delta Ao
 exact aV λ_ _ F k=>F _ _ (oh h) _ _ (hR rfl rfl) k
def Ps.im (p:Ps):Ps:={p with FQ:= .f Vq,fA:= [.dy 30 1869],st:= .dy 30 1890}
theorem ae0 {p q:Ps} {u r:List Nat} {val m aU y:aj} (h:hZ p u q r (jO val m aU y)) (hs:q.fA= []):aJ (tw [.ap 30] (p.hp u)) (.f (gU m m ac .none .none)) (q.im.hp r):=by
 delta tw
 have c:=kK h (.sc _ _ _ _) (cs:= [.str sM,.str sN]) (c:= .str px) (b:=ac) rfl (by decide)
 have P:=pO (p:={q.im with fA:= [],st:=q.st}) (u:=r) (t:=jO val m aU y) (jX.aL ⟨h.hT.tok,h.hT.st⟩)
 rw[q.z5 hs] at c
 exact aV λ_ _ F k=>F _ _ c ac rfl _ _ P _ _ (hR rfl rfl) rfl k
set_option genCtorIdx true in
inductive eH|no|one|two
noncomputable abbrev me (d:Nat):aj:= .tup [.int 1,.int (.ofNat d)]
noncomputable abbrev Az (h x:List Nat):aj:= .tup [.str h,.str x]
def c4:Option Nat->aj
 |none=> .none
 |some d=>me d
noncomputable def eH.bI:eH->aj
 | .no=> .none
 | .one=> .ei [[33,101,33]] [.str [33,120]]
 | .two=> .ei [[33],[33,101,33]] [.str [33,121],.str [116]]
set_option genCtorIdx true in
inductive gR|a|b|c
noncomputable def io (v:Nat->cb):gR->b4
 | .a=> [(10,v 0),(14,v 1),(20,v 2),(15,v 3),(11,v 4),(12,v 5),(13,v 6),(16,v 7)]
 | .b=> [(10,v 0),(14,v 1),(20,v 2),(15,v 3),(11,v 4),(12,v 5),(13,v 6),(16,v 7),(17,v 8)]
 | .c=> [(10,v 0),(14,v 1),(20,v 2),(15,v 3),(11,v 4),(12,v 5),(13,v 6),(16,v 7),(17,v 8),(37,v 9)]
noncomputable def gR.y:gR->Nat
 | .a=>37
 | .b=>37
 | .c=>38
def pA (v:Nat->cb) (s:gR) (ks:List (List Nat)) (l:List ae):b4:=io v s++ [(s.y,.dict ks l)]
def oc:S:=Cs.aO.aO
def ac4:St->(cD->St->Prop)->Prop:=fa (ev (aI iP) oc.hd.df).t (bN (aI iP) oc.hd.bd)
structure qa where
 a:Option ae
 b:Option ae
 c:Option ae
 d:Option ae
 e:Option ae
def pH (x:qa) (p:Ps) (u:List Nat):St:=⟨[(37,ab (.ap 30)),(70,x.a),(59,x.b),(61,x.c),(87,x.d),(91,x.e),(71,af),(13,af)],p.hp u,[],[]⟩
def Ps.ob (p:Ps) (a:Bool) (n:Nat) (y:aj) (v:Nat->cb) (s:gR) (ks:List (List Nat)) (l:List ae) (t:List ae):Ps:={p with ask:=a,tt:=n,QW:=y,FQ:= .ap s.y,tok:=t,r:=pA v s ks l}
theorem ac6 {p c7:Ps} {a:Bool} {n d:Nat} {v:Nat->cb} {s:gR} {ks:List (List Nat)} {l:List ae} {m aU:aj} {g5 u:List Nat} {x:qa} (h:hZ c7 g5 (p.ob a n .none v s ks l [.f (lO (.str [89,65,77,76]) (me d) m aU)]) u (lO (.str [89,65,77,76]) (me d) m aU)):
  ∃be,aJ (kO (ev (aI iP) oc.hd.df).t (bN (aI iP) oc.hd.bd) (pH x c7 g5)) af (pH be (p.ob a (n+1) (me d) v s ks l []) u):=by
 refine⟨⟨ab (.f (lO (.str [89,65,77,76]) (me d) m aU)),ab (.f (.int 1)),ab (.f (.int (.ofNat d))),x.d,x.e⟩, ?_⟩
 have c:=kK h (.dir _ _ _ _) (cs:= []) (c:= .str px) (b:=aa) rfl (by decide)
 exact b9 λ_ _ F k=>F _ _ c aa rfl _ _ (oh h.hT) aa rfl ac rfl ac rfl k
def aiY (ks:List (List Nat)) (h:List Nat):Prop:=ik h ks=ac/\cm ks=aa
theorem ac5 {p c7:Ps} {a:Bool} {n:Nat} {y:aj} {v:Nat->cb} {s:gR} {ks:List (List Nat)} {l:List ae} {m aU:aj} {g5 u h z:List Nat} {x:qa} (cw:ik h ks=ac) (aA:cm l=aa) (L:hZ c7 g5 (p.ob a n y v s ks l [.f (lO (.str [84,65,71]) (Az h z) m aU)]) u (lO (.str [84,65,71]) (Az h z) m aU)):
  ∃be,aJ (kO (ev (aI iP) oc.hd.df).t (bN (aI iP) oc.hd.bd) (pH x c7 g5)) af (pH be (p.ob a (n+1) y v s (fX h (.f (.str z)) ks l).1 (fX h (.f (.str z)) ks l).2 []) u):=by
 refine⟨⟨ab (.f (lO (.str [84,65,71]) (Az h z) m aU)),x.b,x.c,ab (.f (.str h)),ab (.f (.str z))⟩, ?_⟩
 have c:=kK L (.dir _ _ _ _) (cs:= []) (c:= .str px) (b:=aa) rfl (by decide)
 cases s with
 |a=>exact b9 λ_ _ F k=>F _ _ c aa rfl _ _ (oh L.hT) ac rfl aa rfl ac cw aA k
 |b=>exact b9 λ_ _ F k=>F _ _ c aa rfl _ _ (oh L.hT) ac rfl aa rfl ac cw aA k
 |c=>exact b9 λ_ _ F k=>F _ _ c aa rfl _ _ (oh L.hT) ac rfl aa rfl ac cw aA k
def el (e:List Nat):Prop:=e= [10]\/e= [13]\/e= [13,10]
theorem el.nl {e:List Nat} (h:el e) {c:Nat} {r:List Nat} (aD:c≠10):g9 e (c::r):=by
 rcases h with rfl|rfl|rfl
 ·exact .lf
 ·exact .cr (h8 aD)
 ·exact .x4
theorem el.hd {e:List Nat} (h:el e):il (e.headD 0):=by
 rcases h with rfl|rfl|rfl
 ·exact d5 rfl
 ·exact cW rfl
 ·exact cW rfl
inductive f3|y (d:Nat) |t (h x:List Nat)
def f3.w:f3->List Nat
 | .y d=> [89,65,77,76]++32::49::46::dv d
 | .t h x=> [84,65,71]++32::(h++32::x)
noncomputable def f3.n:f3->aj
 | .y _=> .str [89,65,77,76]
 | .t _ _=> .str [84,65,71]
def f3.v:f3->aj
 | .y d=>me d
 | .t h x=>Az h x
def f3.ok:f3->Prop
 | .y d=>d<12
 | .t h x=>eu h/\zL x
theorem f3.VB: ∀{d:f3},d.ok->rI d.w d.n d.v
 | .y _,h=> .y _ h
 | .t _ _,h=> .t _ _ h.1 h.2
noncomputable def gV (e:List Nat):List f3->List Nat->List Nat
 | [],r=>45::45::45::32::r
 |d::ds,r=>37::(d.w++(e++gV e ds r))
theorem VS (e:List Nat) (ds:List f3) (r:List Nat): ∃c x,gV e ds r=c::x/\c≠10:=by
 cases ds with
 |nil=>exact⟨45,_,rfl,by decide⟩
 |cons d ds=>exact⟨37,_,rfl,by decide⟩
theorem yc {e r:List Nat} {ds:List f3} (bu:el e):g9 e (gV e ds r)/\gV e ds r≠ []:=
 bT (VS e ds r) λc x q=> ⟨q.1▸bu.nl q.2,q.1▸c9 _ _⟩
def li:List f3->aj->aj->aj
 | [],m,aU=>mO m aU
 |d::_,m,aU=>lO d.n d.v m aU
def jH (e:List Nat):List f3->List Nat->List Nat
 | [],r=>32::r
 |_::ds,r=>gV e ds r
theorem yL {p:Ps} {e r u:List Nat} {b:Bool}: ∀{ds:List f3},el e->(∀d∈ds,d.ok)->lA p->mn (gV e ds r) u b->(cx p.buf (gV e ds r)).2=0->bD p.buf u-> ∃m aU,kr p u (p.cp ac (li ds m aU)) (jH e ds r)
 | [],_,_,E,g,aD,h=>abt E g aD h
 |d::ds,bu,bV,E,g,aD,h=>abq E g aD (f3.VB (bV d eo)) (yc bu).1 bu.hd (yc bu).2 h
noncomputable def m8:eH->List f3
 | .no=> []
 | .one=> [.t [33,101,33] [33,120]]
 | .two=> [.t [33] [33,121],.t [33,101,33] [116]]
noncomputable def ib:List f3->aj×List (List Nat)×List ae->aj×List (List Nat)×List ae
 | [],z=>z
 | .y d::ds,z=>ib ds (me d,z.2)
 | .t h x::ds,z=>ib ds (z.1,fX h (.f (.str x)) z.2.1 z.2.2)
def s8:List f3->aj×List (List Nat)×List ae->Prop
 | [],_=>True
 | .y d::ds,z=>z.1= .none/\s8 ds (me d,z.2)
 | .t h x::ds,z=> (ik h z.2.1=ac/\cm z.2.2=aa)/\s8 ds (z.1,fX h (.f (.str x)) z.2.1 z.2.2)
def Ps.rg (p:Ps) (a:Bool) (n:Nat) (v:Nat->cb) (s:gR) (z:aj×List (List Nat)×List ae) (t:List ae):Ps:=p.ob a n z.1 v s z.2.1 z.2.2 t
theorem yM {p:Ps} {e r:List Nat} (bu:el e): ∀{ds:List f3},bD p.buf (gV e ds r)->bD p.buf (jH e ds r)/\(ds≠ []->(cx p.buf (jH e ds r)).2=0)
 | [],h=> ⟨h.aO (s:= [45,45,45]),λq=>absurd rfl q⟩
 |d::ds,h=>have aq:=bD.aO (s:=37::d.w) h;⟨aq.aO,λ_=>nM aq (yc bu).1⟩
theorem ac8 {p:Ps} {e r:List Nat} {v:Nat->cb} {s:gR} (bu:el e) (hp:p.dJ=33) (hd:p.done=ac): ∀(ds:List f3) (a:Bool) (n:Nat) (z:aj×List (List Nat)×List ae) (c7:Ps) (g5:List Nat) (x:qa) (m aU:aj),(∀d∈ds,d.ok)->s8 ds z->
  hZ c7 g5 (p.rg a n v s z [.f (li ds m aU)]) (jH e ds r) (li ds m aU)->bD p.buf (jH e ds r)->(ds≠ []->(cx p.buf (jH e ds r)).2=0)->
  ∃i2 fy m aU be,aJ (ac4 (pH x c7 g5)) .aQ (pH be (p.rg i2 fy v s (ib ds z) [.f (mO m aU)]) (32::r)):=λds=>by
 induction ds with
 |nil=>exact λa n z c7 g5 x m aU _ _ L _ _=> ⟨a,n,m,aU,x,eQ (by exact b9 λ_ _ F k=>F _ _ (kK L (.ds _ _) (cs:= []) (c:= .str px) (b:=ac) rfl (by decide)) ac rfl k)⟩
 |cons d ds ai=>
  intro a n z c7 g5 x m aU bV aw L h aD
  have st: ∃be,aJ (kO (ev (aI iP) oc.hd.df).t (bN (aI iP) oc.hd.bd) (pH x c7 g5)) af (pH be (p.rg a (n+1) v s (ib [d] z) []) (gV e ds r))/\s8 ds (ib [d] z)/\ib (d::ds) z=ib ds (ib [d] z):=by
   cases d with
   |y d=>
    obtain ⟨y,z⟩:=z
    cases aw.1
    exact ak (ac6 (x:=x) L) λbe R=> ⟨be,R,aw.2,rfl⟩
   |t h' AE=>exact ak (ac5 (x:=x) aw.1.1 aw.1.2 L) λbe R=> ⟨be,R,aw.2,rfl⟩
  refine ak st λbe q=> ?_
  rw[q.2.2]
  exact bT (yL (p:=p.rg a (n+1) v s (ib [d] z) []) bu (λd hd=>bV d (eY _ hd)) ⟨hp,rfl,hd⟩ .no (aD (c9 _ _)) h) λm aU hX=>
   have k:=yM (p:=p) bu h
   have i:=ai ac (n+1) (ib [d] z) (p.rg a (n+1) v s (ib [d] z) []) (gV e ds r) be m aU (λd hd=>bV d (eY _ hd)) q.2.1 ⟨⟨rfl,cW hp⟩,cW ⟨rfl,hd,hX⟩⟩ k.1 k.2
   wt i λa n m aU x i=> ⟨a,n,m,aU,x,fb q.1 i⟩
def Pg:S:=oc.aO.aO.hd
def zJ (x:qa) (w k:Option ae) (p:Ps) (u:List Nat):St:=⟨[(37,ab (.ap 30)),(70,x.a),(59,x.b),(61,x.c),(87,x.d),(91,x.e),(71,w),(13,k)],p.hp u,[],[]⟩
noncomputable def o9 (b:Bool):List Nat×aj:=cond b ([33],.str [33]) ([33,33],.str [116,97,103,58,121,97,109,108,46,111,114,103,44,50,48,48,50,58])
def qB (b:Bool) (z:List (List Nat)×List ae):List (List Nat)×List ae:=cond (ik (o9 b).1 z.1) z (fX (o9 b).1 (.f (o9 b).2) z.1 z.2)
theorem Ph {p:Ps} {v:Nat->cb} {s:gR} {x:qa} {a b:Bool} {n:Nat} {y:aj} {t:List ae} {u:List Nat} {w:Option ae} {z:List (List Nat)×List ae} (cG:cm z.2=aa):
  aJ (jC (bN (aI iP) Pg.bd) (zJ x w (ab (.f (.str (o9 b).1))) (p.ob a n y v s z.1 z.2 t) u)) af (zJ x w (ab (.f (.str (o9 b).1))) (p.ob a n y v s (qB b z).1 (qB b z).2 t) u):=by
 cases h:ik (o9 b).1 z.1 with
 |true=>
  rw[show qB b z=z from congrArg (λc=>cond c z _) h]
  cases s with
  |a=>exact gT λ_ _ F k=>F _ (congrArg not h) k
  |b=>exact gT λ_ _ F k=>F _ (congrArg not h) k
  |c=>exact gT λ_ _ F k=>F _ (congrArg not h) k
 |false=>
  rw[show qB b z=fX (o9 b).1 (.f (o9 b).2) z.1 z.2 from congrArg (λc=>cond c z _) h]
  cases b<;>cases s
  ·exact gT λ_ _ F k=>F _ (congrArg not h) _ rfl cG k
  ·exact gT λ_ _ F k=>F _ (congrArg not h) _ rfl cG k
  ·exact gT λ_ _ F k=>F _ (congrArg not h) _ rfl cG k
  ·exact gT λ_ _ F k=>F _ (congrArg not h) _ rfl cG k
  ·exact gT λ_ _ F k=>F _ (congrArg not h) _ rfl cG k
  ·exact gT λ_ _ F k=>F _ (congrArg not h) _ rfl cG k
def zK (z:aj×List (List Nat)×List ae):List (List Nat)×List ae:=qB ac (qB aa z.2)
theorem ac7 {p:Ps} {v:Nat->cb} {s:gR} {x:qa} {a:Bool} {n:Nat} {t:List ae} {u:List Nat} {w k:Option ae} {z:aj×List (List Nat)×List ae} (aq:cm z.2.2=aa) (aC:cm (qB aa z.2).2=aa):
  aJ (gW 13 (bN (aI iP) Pg.bd) (y6 [[33],[33,33]]) (zJ x w k (p.rg a n v s z t) u)) .aQ (zJ x w (ab (.f (.str [33,33]))) (p.ob a n z.1 v s (zK z).1 (zK z).2 t) u):=
 k9 (Ph (b:=aa) aq) (k9 (Ph (b:=ac) aC) la)
def Ps.Fi (p:Ps) (a:Bool) (n:Nat) (v:Nat->cb) (s:gR) (z:aj×List (List Nat)×List ae) (t:aj):Ps:=p.ob a n z.1 v s (zK z).1 (zK z).2 [.f t]
def eN (cZ:Option Nat) (tg:eH):List f3:=(match cZ with
 |none=> []
 |some d=> [.y d])++m8 tg
noncomputable def lx:aj×List (List Nat)×List ae:=(.none,[],[])
theorem ya {cZ:Option Nat} {tg:eH} (aW: ∀d,cZ=ab d->d<12):(∀d∈eN cZ tg,d.ok)/\s8 (eN cZ tg) lx/\ib (eN cZ tg) lx=(c4 cZ,(ib (m8 tg) lx).2):=by
 have A: ∀d∈m8 tg,d.ok:=by
  cases tg with
  |no=>exact nofun
  |one=>exact λd h=> (jU.mp h)▸⟨cW rfl,d5 rfl⟩
  |two=>exact λd h=> (e5.mp h).elim (λe=>e▸⟨d5 rfl,cW (d5 rfl)⟩) λh=> (jU.mp h)▸⟨cW rfl,cW (cW rfl)⟩
 have B: ∀y,s8 (m8 tg) (y,[],[])/\ib (m8 tg) (y,[],[])=(y,(ib (m8 tg) lx).2):=λy=>by
  cases tg with
  |no=>exact⟨trivial,rfl⟩
  |one=>exact⟨⟨⟨rfl,rfl⟩,trivial⟩,rfl⟩
  |two=>exact⟨⟨⟨rfl,rfl⟩,⟨rfl,rfl⟩,trivial⟩,rfl⟩
 cases cZ with
 |none=>exact⟨A,B .none⟩
 |some d=>exact⟨λx h=> (e5.mp h).elim (λe=>e▸aW d rfl) (A x),⟨rfl,(B (me d)).1⟩,(B (me d)).2⟩
noncomputable def Ps.Py (p:Ps) (r:b4):Ps:={p with r:=r}
theorem Ps.zR {p:Ps} {r:b4} (h:p.r=r):p=p.Py r:=by cases p;cases h;rfl
theorem afd {p:Ps} {e r:List Nat} {v:Nat->cb} {s:gR} {cZ:Option Nat} {tg:eH} {m aU:aj} (bu:el e) (aW: ∀d,cZ=ab d->d<12) (hp:p.dJ=33) (hd:p.done=ac) (c6:p.r=io v s) (ci:p.tok= [.f (li (eN cZ tg) m aU)]) (h:bD p.buf (jH e (eN cZ tg) r)) (aD:eN cZ tg≠ []->(cx p.buf (jH e (eN cZ tg) r)).2=0):
  ∃a n m aU,aJ (Ap [.ap 30] (p.hp (jH e (eN cZ tg) r))) (.f (.tup [c4 cZ,tg.bI])) ((p.Fi a n v s (c4 cZ,(ib (m8 tg) lx).2) (mO m aU)).hp (32::r)):=by
 have D:=ya (tg:=tg) aW
 have L:=ac8 (p:=p) (v:=v) (s:=s) bu hp hd (eN cZ tg) p.ask p.tt lx (p.rg p.ask p.tt v s lx [.f (li (eN cZ tg) m aU)]) (jH e (eN cZ tg) r) ⟨af,af,af,af,af⟩ m aU D.1 D.2.1 (jX.aL ⟨rfl,cW hp⟩) h aD
 rw[D.2.2] at L
 rw[p.zR c6,(p.Py (io v s)).m9 ci]
 clear ci aD h D
 revert L
 generalize li (eN cZ tg) m aU=cp
 generalize jH e (eN cZ tg) r=u
 delta Ap
 refine λL=>wt L λa n m aU x L=> ⟨a,n,m,aU, ?_⟩
 have nq:=λw k=>ac7 (p:=p) (v:=v) (s:=s) (x:=x) (a:=a) (n:=n) (t:= [.f (mO m aU)]) (u:=32::r) (w:=w) (k:=k) (z:=(c4 cZ,(ib (m8 tg) lx).2)) (by cases tg<;>rfl) (by cases tg<;>rfl)
 cases tg<;>cases s
 ·exact aV λ_ _ F k=>F _ rfl _ _ L rfl ac rfl _ _ (nq _ _) k
 ·exact aV λ_ _ F k=>F _ rfl _ _ L rfl ac rfl _ _ (nq _ _) k
 ·exact aV λ_ _ F k=>F _ rfl _ _ L rfl ac rfl _ _ (nq _ _) k
 ·exact aV λ_ _ F k=>F _ rfl _ _ L rfl aa rfl _ rfl rfl _ _ (nq _ _) k
 ·exact aV λ_ _ F k=>F _ rfl _ _ L rfl aa rfl _ rfl rfl _ _ (nq _ _) k
 ·exact aV λ_ _ F k=>F _ rfl _ _ L rfl aa rfl _ rfl rfl _ _ (nq _ _) k
 ·exact aV λ_ _ F k=>F _ rfl _ _ L rfl aa rfl _ rfl rfl _ _ (nq _ _) k
 ·exact aV λ_ _ F k=>F _ rfl _ _ L rfl aa rfl _ rfl rfl _ _ (nq _ _) k
 ·exact aV λ_ _ F k=>F _ rfl _ _ L rfl aa rfl _ rfl rfl _ _ (nq _ _) k
theorem Dz (ds:List f3) (m aU:aj): ∃id,Tk (li ds m aU) id/\kH (.str id) [.str sL]=ab ac/\kH (.str id) [.str sN]=ab ac/\kH (.str id) [.str px,.str sM,.str sN]=ab aa:=by
 cases ds with
 |nil=>exact⟨sM,.ds _ _,rfl,rfl,rfl⟩
 |cons d ds=>exact⟨px,.dir _ _ _ _,rfl,rfl,rfl⟩
noncomputable def Ps.x8 (p:Ps):Ps:={p with tok:= [],tt:=p.tt+1,fA:= [.dy 30 1869],st:= .dy 30 1876}
def VD:St->(cD->St->Prop)->Prop:=fa (ev (aI pL) xG.hd.df).t (bN (aI pL) xG.hd.bd)
def LG (p:Ps) (u:List Nat):St:=⟨[(37,ab (.ap 30)),(70,af),(158,af),(110,af),(39,af),(117,af),(50,af)],p.hp u,[],[]⟩
theorem LH {p q:Ps} {u r id:List Nat} {t:aj} (h:hZ p u q r t) (dQ:Tk t id) (ag:kH (.str id) [.str sL]=ab ac):aJ (VD (LG p u)) .aQ (LG q r):=eQ (by exact b9 λ_ _ F k=>F _ _ (kK h dQ ag (by decide)) ac rfl k)
theorem VL {p c7 q:Ps} {u g5 g4:List Nat} {ds:List f3} {m aU fY hD y t:aj} (h:hZ c7 g5 p u (li ds m aU)) (P:aJ (Ap [.ap 30] (p.hp u)) (.f (.tup [y,t])) (q.hp g4)) (dC:jX q (mO fY hD)) (hs:q.fA= []):
  ∃vz,aJ (ru [.ap 30] (c7.hp g5)) (.f (gU vz hD aa y t)) (q.x8.hp g4):=by
 delta ru
 obtain ⟨id,dQ,pw,vf,_⟩:=Dz ds m aU
 have W:=LH h dQ pw
 have c:=kK (u:=u) h.hT.aL dQ vf (by decide)
 have Pk:=pO (u:=u) h.hT.aL
 have d:=kK (u:=g4) dC.aL (.ds _ _) (cs:= []) (c:= .str sM) (b:=aa) rfl (by decide)
 have g:=oh (u:=g4) dC
 rw[q.z5 hs] at P d g⊢
 clear h dQ
 cases ds with
 |nil=>exact⟨m,by exact aV λ_ _ F k=>F _ _ W _ _ c ac rfl _ _ Pk _ _ P _ _ d aa rfl _ _ g _ _ (hR rfl rfl) rfl k⟩
 |cons x ds=>exact⟨m,by exact aV λ_ _ F k=>F _ _ W _ _ c ac rfl _ _ Pk _ _ P _ _ d aa rfl _ _ g _ _ (hR rfl rfl) rfl k⟩
noncomputable def Ps.kk (p:Ps):Ps:={p with tok:= [],tt:=p.tt+1,st:= .f .none}
theorem afz {p c7:Ps} {u g5:List Nat} {m aU:aj} (h:hZ c7 g5 p u (z0 m aU)) (hs:p.fA= []):aJ (ru [.ap 30] (c7.hp g5)) (.f (l9 m aU)) (p.kk.hp u):=by
 delta ru
 have W:=LH h (.kk _ _) rfl
 have c:=kK (u:=u) h.hT.aL (.kk _ _) (cs:= []) (c:= .str sN) (b:=aa) rfl (by decide)
 have g:=oh (u:=u) h.hT
 rw[p.z5 hs] at W c g⊢
 exact aV λ_ _ F k=>F _ _ W _ _ c aa rfl _ _ g _ _ (hR rfl rfl) rfl ac rfl rfl ac rfl k
theorem Y5 {p c7 q:Ps} {u g5 g4:List Nat} {ds:List f3} {m aU ev:aj} (h:hZ c7 g5 p u (li ds m aU)) (D:aJ (ru [.ap 30] (p.hp u)) (.f ev) (q.hp g4)):aJ (tw [.ap 30] (c7.hp g5)) (.f ev) (q.hp g4):=by
 delta tw
 obtain ⟨id,dQ,_,_,Y0⟩:=Dz ds m aU
 exact aV λ_ _ F k=>F _ _ (kK h dQ Y0 (by decide)) aa rfl _ _ D k
noncomputable def Ps.ev (p:Ps) (e:aj):Ps:={p with ce:=e}
noncomputable def Ps.cs (p:Ps) (s:ae):Ps:={p with ce:= .none,st:=s}
theorem Ps.Lv {p:Ps} {s:ae} (h:p.ce= .none) (hs:p.st=s):p=p.cs s:=by cases p;cases h;cases hs;rfl
inductive oM:Nat->a3->Prop
 |a:oM 1848 Ao
 |b:oM 1855 tw
 |c:oM 1862 ru
 |d:oM 1869 tv
 |e:oM 1876 An
 |f:oM 1890 Am
theorem afe {p q:Ps} {u r:List Nat} {ev:aj} {s:Nat} {P:a3} (ay:oM s P) (aD:p.ce= .none) (hs:p.st= .dy 30 s) (f:aJ (P [.ap 30] (p.hp u)) (.f ev) (q.hp r)):aJ (tx [.ap 30] (p.hp u)) (.f ev) ((q.ev ev).hp r):=by
 delta tx
 rw[p.Lv aD hs] at f⊢
 cases ay
 ·exact aV λ_ _ F k=>F aa rfl aa rfl _ _ f k
 ·exact aV λ_ _ F k=>F aa rfl aa rfl _ _ f k
 ·exact aV λ_ _ F k=>F aa rfl aa rfl _ _ f k
 ·exact aV λ_ _ F k=>F aa rfl aa rfl _ _ f k
 ·exact aV λ_ _ F k=>F aa rfl aa rfl _ _ f k
 ·exact aV λ_ _ F k=>F aa rfl aa rfl _ _ f k
theorem aff {p:Ps} {u:List Nat} (h:p.ce= .none) (hs:p.st= .f .none):aJ (tx [.ap 30] (p.hp u)) (.f .none) (p.hp u):=by
 delta tx
 rw[p.Lv h hs]
 exact aV λ_ _ F k=>F aa rfl ac rfl k
theorem aeV {p:Ps} {u:List Nat} {C:Nat} {ns:List Nat} {vs:List aj}:aJ (Gg [.ap 30] ((p.ev (.inst C ns vs)).hp u)) (.f (.inst C ns vs)) ((p.ev .none).hp u):=by
 delta Gg
 exact aV λ_ _ F k=>F ac rfl k
inductive Told:aj->aj->Prop
 |ss (m aU e:aj):Told (ol m aU e) (.tup [.str [115,116,114,101,97,109]])
 |ds (m aU:aj) (b:Bool) (x y:aj):Told (gU m aU b x y) (.tup [.str [100,111,99,117,109,101,110,116],.bool b,x,y])
 |sc (val m aU y:aj):Told (zZ val m aU y) (.tup [.str [116,101,120,116],val,y])
 |nN (m aU:aj) (b:Bool):Told (kB m aU b) (.tup [.str [100,111,99,117,109,101,110,116,32,101,110,100],.bool b])
 |kk (m aU:aj):Told (l9 m aU) (.tup [.str [115,116,114,101,97,109,32,101,110,100]])
theorem Told.run {ev v:aj} (h:Told ev v) {hp:b4}:aJ (GS [.f ev] hp) (.f v) hp:=by
 delta GS
 cases h
 ·exact aV λ_ _ F k=>F ac rfl ac rfl ac rfl aa rfl k
 ·exact aV λ_ _ F k=>F ac rfl aa rfl k
 ·exact aV λ_ _ F k=>F aa rfl k
 ·exact aV λ_ _ F k=>F ac rfl ac rfl aa rfl k
 ·exact aV λ_ _ F k=>F ac rfl ac rfl ac rfl ac rfl aa rfl k
noncomputable abbrev iS:aj:= .tup [.str [115,116,114,101,97,109,32,101,110,100]]
noncomputable abbrev fI (b:Bool):aj:= .tup [.str [100,111,99,117,109,101,110,116,32,101,110,100],.bool b]
abbrev ko (val:List Nat) (fold:Bool):aj:= .tup [.str [116,101,120,116],.str val,.str [bJ fold]]
noncomputable abbrev kP (b:Bool) (x y:aj):aj:= .tup [.str [100,111,99,117,109,101,110,116],.bool b,x,y]
noncomputable abbrev lr:aj:= .tup [.str [115,116,114,101,97,109]]
def Run:List aj->Ps->List Nat->Prop
 | [],p,_=>p.ce= .none/\p.st= .f .none
 |v::vs,p,u=> ∃ev q r,Told ev v/\Run vs q r/\q.ce= .none/\aJ (tx [.ap 30] (p.hp u)) (.f ev) ((q.ev ev).hp r)
structure Rf (b:List Nat) (r:b4) (l:List ae) (dJ:Nat) (done:Bool) (ce:aj) (fA:List ae) (ir:b4) (buf:List Nat):Prop where
 dJ:dJ=33
 done:done=ac
 ce:ce= .none
 fA:fA=l
 r:ir=r
 buf:buf=b
abbrev tH (b:List Nat) (r:b4) (l:List ae) (q:Ps):Prop:=Rf b r l q.dJ q.done q.ce q.fA q.r q.buf
structure jS (b:List Nat) (r:b4) (l:List ae) (s:Nat) (t:List Nat) (q:Ps):Prop where
 bs:tH b r l q
 tok:q.tok= []
 st:q.st= .dy 30 s
 fT:bD b t
theorem jS.em {b:List Nat} {r:b4} {l:List ae} {s:Nat} {t:List Nat} {q:Ps} (h:jS b r l s t q):lA q:=⟨h.bs.dJ,h.tok,h.bs.done⟩
theorem jS.z1 {b:List Nat} {r:b4} {l:List ae} {s:Nat} {t:List Nat} {q:Ps} (h:jS b r l s t q):bD q.buf t:=h.bs.buf.symm▸h.fT
theorem jS.aL {b:List Nat} {r:b4} {l:List ae} {s:Nat} {t dR:List Nat} {q e9:Ps} {k:aj} (h:jS b r l s t q) (F:kr q t e9 dR) (Q:jX e9 k):hZ q t e9 dR k:=⟨Q,cW ⟨h.tok,h.bs.done,F⟩⟩
theorem Xf {b t:List Nat} (E:List (List Nat)):lE E t->bD b (E.flatten++t)->(cx b (E.flatten++t)).2=0->(cx b t).2=0:=by
 induction E with
 |nil=>exact λ_ _ aD=>aD
 |cons e E ai=>
  rw[HJ,bt]
  exact λbu h _=>ai bu.2 h.aO (nM h bu.1)
theorem Uw {b t:List Nat} {k:Nat} (B:g7): ∀E,oa k B t->lE E (hG k B t)->bD b (E.flatten++hG k B t)->(cx b (E.flatten++hG k B t)).2=0->(cx b t).2=0:=by
 induction B with
 |nil=>exact λE _=>Xf E
 |cons x B ai=>exact λE eS _ h _=>have aq:=(bD.aO (bD.aO h)).aO;ai x.2.2 eS.2.2.2 eS.2.2.1 aq.aO (nM aq eS.2.1)
theorem BT.col {fold:Bool} {s:Nat} {w t val b:List Nat} (B:BT fold s w t val) (h:bD b (w++t)):(cx b t).2=0:=by
 obtain ⟨d,ch,e,dY,K,k,e1,_⟩:=B
 rw[e1] at h
 have aq:=(bD.aO h).aO
 exact Uw K dY k.eS k.h0 aq.aO (nM aq k.he)
theorem Run.go {p q:Ps} {u r:List Nat} {ev v:aj} {vs:List aj} {s:Nat} {P:a3} (aD:p.ce= .none) (hs:p.st= .dy 30 s) (ay:oM s P) (f:aJ (P [.ap 30] (p.hp u)) (.f ev) (q.hp r)) (t:Told ev v) (adl:q.ce= .none) (k:Run vs q r):Run (v::vs) p u:=
 ⟨ev,q,r,t,k,adl,afe ay aD hs f⟩
def jk (b:List Nat) (r:b4) (t:List Nat) (q:Ps):Prop:=jS b r [] 1869 t q/\(cx b t).2=0
theorem ad7 {b:List Nat} {r:b4} {p:Ps} {fold:Bool} {n:Nat} {w t val:List Nat} {vs:List aj} (B:BT fold n w t val) (h:jS b r [.dy 30 1869] 1876 (32::bJ fold::(w++t)) p) (k: ∀q,jk b r t q->Run vs q t):Run (ko val fold::vs) p (32::bJ fold::(w++t)):=
 bT (NW B h.em .eg h.z1) λm aU hX=>
  Run.go (q:=(p.cp aa (jO (.str val) m aU (.str [bJ fold]))).bX) h.bs.ce h.st .e (aeK (h.aL hX ⟨rfl,cW h.bs.dJ⟩) h.bs.fA) (.sc _ _ _ _) h.bs.ce
   (k _ ⟨⟨⟨h.bs.dJ,h.bs.done,h.bs.ce,rfl,h.bs.r,h.bs.buf⟩,rfl,rfl,bD.aO (s:=32::bJ fold::w) h.fT⟩,B.col (bD.aO (s:= [32,bJ fold]) h.fT)⟩)
theorem ad0 {b:List Nat} {r:b4} {p:Ps} {fold:Bool} {n:Nat} {w t val:List Nat} {vs:List aj} (B:BT fold n w t val) (h:jS b r [] 1855 (bJ fold::(w++t)) p) (k: ∀q,jk b r t q->Run vs q t):Run (kP ac .none .none::ko val fold::vs) p (bJ fold::(w++t)):=
 bT (NW B h.em .no h.z1) λm aU hX=>
  Run.go (q:=(p.cp aa (jO (.str val) m aU (.str [bJ fold]))).im) h.bs.ce h.st .b (ae0 (h.aL hX ⟨rfl,cW h.bs.dJ⟩) h.bs.fA) (.ds _ _ _ _ _) h.bs.ce
   (Run.go (q:=(p.cp aa (jO (.str val) m aU (.str [bJ fold]))).im.bX) h.bs.ce rfl .f (PH ⟨rfl,cW h.bs.dJ⟩ rfl) (.sc _ _ _ _) h.bs.ce
    (k _ ⟨⟨⟨h.bs.dJ,h.bs.done,h.bs.ce,rfl,h.bs.r,h.bs.buf⟩,rfl,rfl,bD.aO (s:=bJ fold::w) h.fT⟩,B.col (bD.aO (s:= [bJ fold]) h.fT)⟩))
theorem Fx {b:List Nat} {v:Nat->cb} {s:gR} {c7 p:Ps} {fold:Bool} {n ri:Nat} {e g5 w t val:List Nat} {cZ:Option Nat} {tg:eH} {m aU:aj} {vs:List aj} (bu:el e) (aW: ∀d,cZ=ab d->d<12) (B:BT fold n w t val) (L:hZ c7 g5 p (jH e (eN cZ tg) (bJ fold::(w++t))) (li (eN cZ tg) m aU)) (de:c7.ce= .none) (s0:c7.st= .dy 30 ri) (X8:ri=1855\/ri=1862)
  (h:tH b (io v s) [] p) (hf:bD b (jH e (eN cZ tg) (bJ fold::(w++t)))) (aD:eN cZ tg≠ []->(cx b (jH e (eN cZ tg) (bJ fold::(w++t)))).2=0) (k: ∀q ks l,jk b (pA v s ks l) t q->Run vs q t):Run (kP aa (c4 cZ) tg.bI::ko val fold::vs) c7 g5:=by
 have ag:=h.buf
 subst ag
 refine nh (afd bu aW h.dJ h.done h.r L.hT.tok hf aD) λa c fY hD P=> ?_
 have Yq:bD p.buf (32::bJ fold::(w++t)):=by
  revert hf
  cases eN cZ tg with
  |nil=>exact id
  |cons d ds=>
   intro hf
   induction ds with
   |nil=>exact bD.aO (s:= [45,45,45]) hf
   |cons d ds ai=>exact ai (bD.aO (s:=37::d.w++e) (by rw[bt];exact hf))
 have N:Run (ko val fold::vs) (p.Fi a c v s (c4 cZ,(ib (m8 tg) lx).2) (mO fY hD)).x8 (32::bJ fold::(w++t)):=ad7 B ⟨⟨h.dJ,h.done,h.ce,rfl,rfl,rfl⟩,rfl,rfl,Yq⟩ λq dC=>k q _ _ dC
 have G:=λ{e8 ts} (L:hZ e8 ts p (jH e (eN cZ tg) (bJ fold::(w++t))) (li (eN cZ tg) m aU))=>VL (q:=p.Fi a c v s (c4 cZ,(ib (m8 tg) lx).2) (mO fY hD)) L P ⟨rfl,cW h.dJ⟩ h.fA
 rcases X8 with rfl|rfl
 ·exact ak (G L.hT.aL) λvz D=>Run.go de s0 .b (Y5 L D) (.ds _ _ _ _ _) h.ce N
 ·exact ak (G L) λvz D=>Run.go de s0 .c D (.ds _ _ _ _ _) h.ce N
theorem el.cons {e:List Nat} (h:el e): ∃c cM,e=c::cM/\il c:=by
 rcases h with rfl|rfl|rfl
 ·exact⟨_,_,rfl,d5 rfl⟩
 ·exact⟨_,_,rfl,cW rfl⟩
 ·exact⟨_,_,rfl,cW rfl⟩
theorem PA {b e t:List Nat} {r:b4} {p:Ps} {vs:List aj} (bu:el e) (h:jS b r [] 1869 (46::46::46::(e++t)) p) (aD:(cx b (46::46::46::(e++t))).2=0) (k: ∀q,jS b r [] 1862 (e++t) q->Run vs q (e++t)):Run (fI aa::vs) p (46::46::46::(e++t)):=by
 have ag:=h.bs.buf
 subst ag
 refine ak bu.cons λc x=>ak x λcM q=> ?_
 have hs:=bD.aO (s:= [46,46,46]) h.fT
 rw[q.1] at h aD k hs⊢
 exact bT (abr h.em q.2 .no aD h.fT) λm aU hX=>
  Run.go (q:=(p.cp ac (uM m aU)).gt.to 1862) h.bs.ce h.st .d (aeM (h.aL hX ⟨rfl,cW h.bs.dJ⟩)) (.nN _ _ _) h.bs.ce
   (k _ ⟨⟨h.bs.dJ,h.bs.done,h.bs.ce,h.bs.fA,h.bs.r,rfl⟩,rfl,rfl,hs⟩)
theorem tH.aiK {b:List Nat} {r:b4} {l:List ae} {q:Ps} (h:tH b r l q) (t:aj):tH b r l (q.cp ac t):=⟨h.dJ,h.done,h.ce,h.fA,h.r,h.buf⟩
theorem ad4 {b:List Nat} {v:Nat->cb} {s:gR} {p:Ps} {fold:Bool} {n:Nat} {e w t val:List Nat} {cZ:Option Nat} {tg:eH} {vs:List aj} (bu:el e) (aW: ∀d,cZ=ab d->d<12) (B:BT fold n w t val) (h:jk b (io v s) (46::46::46::(e++gV e (eN cZ tg) (bJ fold::(w++t)))) p)
  (k: ∀q ks l,jk b (pA v s ks l) t q->Run vs q t):Run (fI aa::kP aa (c4 cZ) tg.bI::ko val fold::vs) p (46::46::46::(e++gV e (eN cZ tg) (bJ fold::(w++t)))):=
 PA bu h.1 h.2 λq g=>by
  have ag:=g.bs.buf
  subst ag
  have nl:=yc (ds:=eN cZ tg) (r:=bJ fold::(w++t)) bu
  have r:=yM (p:=q) bu g.fT.aO
  exact bT (yL bu (ya aW).1 g.em (.nl nl.1) (nM g.fT nl.1) g.fT) λm aU hX=>
   Fx bu aW B (g.aL hX ⟨rfl,cW g.bs.dJ⟩) g.bs.ce g.st (cW rfl) ⟨g.bs.dJ,g.bs.done,g.bs.ce,g.bs.fA,g.bs.r,rfl⟩ r.1 r.2 k
theorem ad5 {b:List Nat} {v:Nat->cb} {s:gR} {p:Ps} {fold:Bool} {n:Nat} {e w t val:List Nat} {cZ:Option Nat} {tg:eH} {vs:List aj} (bu:el e) (aW: ∀d,cZ=ab d->d<12) (B:BT fold n w t val) (h:jk b (io v s) (gV e (eN cZ tg) (bJ fold::(w++t))) p)
  (k: ∀q ks l,jk b (pA v s ks l) t q->Run vs q t):Run (fI ac::kP aa (c4 cZ) tg.bI::ko val fold::vs) p (gV e (eN cZ tg) (bJ fold::(w++t))):=by
 have ag:=h.1.bs.buf
 subst ag
 have r:=yM (p:=p) bu h.1.fT
 exact bT (yL bu (ya aW).1 h.1.em .no h.2 h.1.fT) λm aU hX=>ak (Dz (eN cZ tg) m aU) λid T=>
  ak (PJ (h.1.aL hX ⟨rfl,cW h.1.bs.dJ⟩) T.1 T.2.1) λvz D=>Run.go (q:=(p.cp ac (li (eN cZ tg) m aU)).to 1862) h.1.bs.ce h.1.st .d D (.nN _ _ _) h.1.bs.ce
   (Fx bu aW B (jX.aL ⟨rfl,cW h.1.bs.dJ⟩) h.1.bs.ce rfl (cW rfl) ⟨h.1.bs.dJ,h.1.bs.done,h.1.bs.ce,h.1.bs.fA,h.1.bs.r,rfl⟩ r.1 r.2 k)
theorem ad3 {b:List Nat} {v:Nat->cb} {s:gR} {p:Ps} {fold:Bool} {n:Nat} {e w t val:List Nat} {cZ:Option Nat} {tg:eH} {vs:List aj} (bu:el e) (aW: ∀d,cZ=ab d->d<12) (B:BT fold n w t val) (h:jS b (io v s) [] 1855 (gV e (eN cZ tg) (bJ fold::(w++t))) p) (aD:(cx b (gV e (eN cZ tg) (bJ fold::(w++t)))).2=0)
  (k: ∀q ks l,jk b (pA v s ks l) t q->Run vs q t):Run (kP aa (c4 cZ) tg.bI::ko val fold::vs) p (gV e (eN cZ tg) (bJ fold::(w++t))):=by
 have ag:=h.bs.buf
 subst ag
 have r:=yM (p:=p) bu h.fT
 exact bT (yL bu (ya aW).1 h.em .no aD h.fT) λm aU hX=>
  Fx bu aW B (h.aL hX ⟨rfl,cW h.bs.dJ⟩) h.bs.ce h.st (d5 rfl) ⟨h.bs.dJ,h.bs.done,h.bs.ce,h.bs.fA,h.bs.r,rfl⟩ r.1 r.2 k
theorem PD {b u vP:List Nat} {r:b4} {p e8:Ps} {m:aj} (L:hZ p u e8 vP (z0 m m)) (de:p.ce= .none) (s0:p.st= .dy 30 1862) (hs:e8.fA= []) (aD:e8.ce= .none):Run [iS] p u:=
 Run.go (q:=e8.kk) de s0 .c (afz L hs) (.kk _ _) aD ⟨aD,rfl⟩
theorem ad1 {b e:List Nat} {r:b4} {p:Ps} (bu:el e) (aS:aL 34 r=af) (h:jk b r (46::46::46::(e++ [0])) p):Run [fI aa,iS] p (46::46::46::(e++ [0])):=
 PA bu h.1 h.2 λq g=>ak (NX g.em (g.bs.r.symm▸aS) (.nl (bu.nl (by decide))) g.z1) λm hX=>PD (b:=b) (r:=r) (g.aL hX ⟨rfl,d5 rfl⟩) g.bs.ce g.st g.bs.fA g.bs.ce
theorem ad2 {b:List Nat} {r:b4} {p:Ps} (aS:aL 34 r=af) (h:jk b r [0] p):Run [fI ac,iS] p [0]:=
 ak (NX h.1.em (h.1.bs.r.symm▸aS) .no h.1.z1) λm hX=>ak (PJ (h.1.aL hX ⟨rfl,d5 rfl⟩) (.kk _ _) rfl) λvz D=>
  Run.go (q:=(p.G7 m).to 1862) h.1.bs.ce h.1.st .d D (.nN _ _ _) h.1.bs.ce (PD (b:=b) (r:=r) (jX.aL ⟨rfl,d5 rfl⟩) h.1.bs.ce rfl h.1.bs.fA h.1.bs.ce)
noncomputable abbrev k0:List Nat:= [97,32,98,99,100,45,101,35,102,58,103,46,124,233,8232,37,89,65,77,76,48,49,50,51,52,53,54,55,56,57,84,71,33,120,121,116,62,43,10,13]
inductive Se (c:Nat):Prop
 |a (h:bO [c] [9,10,13,133]=aa)
 |b (h0:bO [c] [9,10,13,133]=ac) (aq:(!ek [c] [32])=aa) (aC:(!ek [126] [c])=aa)
 |c (h0:bO [c] [9,10,13,133]=ac) (aq:(!ek [c] [32])=aa) (aC:(!ek [126] [c])=ac) (bz:(!ek [c] [160])=aa) (ee:(!ek [55295] [c])=aa)
theorem ade {c:Nat} (h:c∈k0):Se c:=by
 have:=fL.mp (show k0.all (λc=>bO [c] [9,10,13,133] || (!bO [c] [9,10,13,133]&&((!ek [c] [32])&&((!ek [126] [c]) || (ek [126] [c]&&((!ek [c] [160])&&(!ek [55295] [c])))))))=aa by decide) c h
 cases h0:bO [c] [9,10,13,133] with
 |true=>exact .a h0
 |false=>
  rw[h0,oC,Rc,Hj] at this
  have q:=fV.mp this
  cases aC:ek [126] [c] with
  |false=>exact .b h0 q.1 (congrArg not aC)
  |true=>
   have gN:=q.2
   rw[aC,wG,oC,Hj] at gN
   exact .c h0 q.1 (congrArg not aC) (fV.mp gN).1 (fV.mp gN).2
theorem ae4 {c:Nat} {hp:b4} (h:c∈k0):aJ (GP [.f (.str [c])] hp) (.f (.bool aa)) hp:=by
 delta GP
 cases ade h with
 |a h=>exact kJ (a:= .f (.bool (bO [c] [9,10,13,133]))) (b:=hp) (by exact aV λ_ _ F k=>F aa h k) (congrArg (λb=>ae.f (.bool b)) h) rfl
 |b h0 aq aC=>exact kJ (a:= .f (.bool (!ek [126] [c]))) (b:=hp) (by exact aV λ_ _ F k=>F ac h0 aa aq aa aC k) (congrArg (λb=>ae.f (.bool b)) aC) rfl
 |c h0 aq aC bz ee=>exact kJ (a:= .f (.bool (!ek [55295] [c]))) (b:=hp) (by exact aV λ_ _ F k=>F ac h0 aa aq ac aC aa bz aa ee k) (congrArg (λb=>ae.f (.bool b)) ee) rfl
def Lu:S:=Ct.hd
noncomputable def x3 (t:List Nat) (hp:b4) (x y:Option ae):St:=⟨[(37,ab (.ap 30)),(23,ab (.f (.str t))),(66,x),(130,y)],hp,[],[]⟩
theorem Vd {t:List Nat} {hp:b4} {c:Nat} {x:Option ae} (h:c∈k0):aJ (jC (bN (aI eK) Lu.bd) (x3 t hp x (ab (.f (.str [c]))))) af (x3 t hp x (ab (.f (.str [c])))):=by exact gT λ_ _ F k=>F _ _ (ae4 h) aa rfl k
theorem Ve {t:List Nat} {hp:b4}: ∀(l:List Nat) (n:Nat) (x y:Option ae),(∀c∈l,c∈k0)-> ∃be mh,aJ (pe 66 130 (bN (aI eK) Lu.bd) (pd n l) (x3 t hp x y)) .aQ (x3 t hp be mh):=λl=>by
 induction l with
 |nil=>exact λn x y _=> ⟨x,y,λ_ q=>q⟩
 |cons c l ai=>exact λn x y h=>bT (ai (n+1) _ _ λd hd=>h d (eY _ hd)) λbe mh i=> ⟨be,mh,λK q=>Vd (h c eo) _ (i K q)⟩
theorem aeG {t:List Nat} {hp:b4} (h: ∀c∈t,c∈k0) (hs:t.length<=16777216):aJ (Gi [.ap 30,.f (.str t)] hp) (.f .none) hp:=by
 delta Gi
 exact bT (Ve t 0 af af h) λx y i=>by exact aV λ_ _ F k=>F hs _ _ i k
noncomputable abbrev E5:List Nat:= [33,97,218,10,79,109,155,156,116,55,30,82]
abbrev GZ (t:List Nat):List ae:= [.f (.str zV),.f .none,.f (.int 0),.f (.bool aa),.f (.str (t++ [0])),.f (.int 0),.f .none,.f .none,.f .none,.f (.int 0),.f (.int 0),.f (.int 0)]
theorem afk {t:List Nat} (h: ∀c∈t,c∈k0) (hs:(t++ [0]).length<=16777216):aJ (Gj [.ap 30,.f (.str t)] [(30,.inst 2029 [] [])]) (.f .none) [(30,.inst 2029 E5 (GZ t))]:=by
 delta Gj
 exact aV λ_ _ F k=>F aa rfl _ _ (aeG h (bf (bL▸gG ..) hs)) hs k
abbrev yR (t:List Nat) (l:List ae):b4:= [(30,.inst 2029 (E5++ [24,145,98]) (GZ t++ [.f (.bool ac),.f (.int 0),.ap 31])),(31,.list l)]
theorem aeR {t:List Nat}: ∃m,aJ (Gx [.ap 30] (yR t [])) (.f .none) (yR t [.f (.inst 920 [158,117,116] [m,m,.none])]):=by
 have M: ∃m,aJ (wd [.ap 30] (yR t [])) (.f m) (yR t []):=⟨.inst 53 [33,55,30,82,79,109] [.str zV,.int 0,.int 0,.int 0,.str (t++ [0]),.int 0],by
  delta wd
  exact aV λ_ _ F k=>F aa rfl _ _ (hR rfl rfl) k⟩
 delta Gx
 exact ak M λm M=> ⟨m,by exact aV λ_ _ F k=>F _ _ M _ _ (hR rfl rfl) rfl k⟩
noncomputable def kf (t:List Nat) (m:aj) (r:b4):Ps:=⟨t++ [0],ac,0,aa,33,.none,.none,.ap 36,.dy 30 1848,[.f (.inst 920 [158,117,116] [m,m,.none])],[],r⟩
theorem Pm (b:List Nat):pos b b=0:=w2 _
theorem afc {t:List Nat} {hp:b4} (h: ∀c∈t,c∈k0) (hs:(t++ [0]).length<=16777216) (hd: ∀m,nP ((kf t m []).hp (t++ [0])) hp=aa): ∃m,aJ (Qx [.f (.str t)] hp) (.ap 30) ((kf t m hp).hp (t++ [0])):=by
 refine ak (aeR (t:=t)) λm M=> ⟨m, ?_⟩
 have e: ∀r,(kf t m r).hp (t++ [0])=(kf t m r).sF 0 (0,0):=λr=>by
  unfold Ps.hp cx
  rw[show(kf t m r).buf=t++ [0] from rfl,Pm];rfl
 have Tn: ∃dn,aJ (Gz [.ap 30,.f (.str t)] [(30,.inst 2029 [] [])]) (.f .none) dn/\dn= [(30,.inst 2029 (E5++ [24,145,98,191,88,107,243,294]) (GZ t++ [.f (.bool ac),.f (.int 0),.ap 31,.f (.int 0),.f (.int (-1)),.ap 32,.f (.bool aa),.ap 33])),(31,.list [.f (.inst 920 [158,117,116] [m,m,.none])]),(32,.list []),(33,.dict [] [])]:=⟨_,by
  delta Gz
  exact aV λ_ _ F k=>F _ _ (afk h hs) _ rfl _ _ M _ rfl _ rfl k,rfl⟩
 obtain ⟨dn,jy,e1⟩:=Tn
 subst e1
 have P:aJ (Al [.ap 30,.f (.str t)] [(30,.inst 2029 [] [])]) (.f .none) ((kf t m []).sF 0 (0,0)):=by
  delta Al
  exact aV λ_ _ F k=>F _ _ jy _ rfl _ rfl _ rfl k
 rw[e]
 exact λK k=> ⟨rfl,P _ ⟨rfl,e []▸hd m,rfl,k⟩⟩
structure aF where
 st:ae
 ev:aj
 ind:aj
 root:Bool
 seq:Bool
 map:Bool
 hk:Bool
 col:Nat
 ws:Bool
 iI:Bool
 dW:Bool
 dE:Bool
 dd:Nat
 lb:List Nat
 d2:ae
 an:aj
 ro:aj
 fA:List ae
 yn:List ae
 DS:List ae
 out:List ae
 Qo:cb
 r:b4
noncomputable abbrev OZ:List Nat:= [97,116,96,67,84,50,107,88,145,188,250,230,273,30,82,160,136,151,129,198,168,144,224,190,233,187,114,68]
def aF.hp (p:aF) (ln:Nat):b4:=(10,.inst 799 OZ [.ap 14,.f .none,.ap 11,p.st,.ap 12,.f p.ev,.ap 13,.f p.ind,.f (.int 0),.f (.bool p.root),.f (.bool p.seq),.f (.bool p.map),.f (.bool p.hk),.f (.int (.ofNat ln)),.f (.int (.ofNat p.col)),.f (.bool p.ws),.f (.bool p.iI),.f (.bool p.dW),
  .f .none,.f (.bool p.dE),.f (.int (.ofNat p.dd)),.f (.int 80),.f (.str p.lb),p.d2,.f .none,.f .none,.f p.an,.f p.ro])::
  (14,.inst 834 [36] [.ap 15])::(20,p.Qo)::(15,.list p.out)::(11,.list p.fA)::(12,.list p.yn)::(13,.list p.DS)::p.r
def aF.o (p:aF) (l:List (List Nat)):aF:={p with out:=p.out++cf l}
noncomputable def aF.qq (p:aF):aF:={p with ws:=aa,iI:=aa,col:=0}
def aF.w (p:aF) (l:List (List Nat)):aF:={p with ws:=aa,iI:=aa,col:=0,out:=p.out++cf l}
noncomputable def aF.ve (p:aF) (c:Nat):aF:={p with ws:=ac,iI:=ac,col:=p.col+c,dW:=ac}
def aF.kG (p:aF) (d:List Nat):aF:=(p.ve d.length).o [d]
noncomputable def aF.s0 (p:aF) (n:Nat):aF:={p with ws:=aa,col:=n}
noncomputable def aF.afD (p:aF) (b:Bool):aF:={p with iI:=b}
theorem aF.MC {p:aF} {b:Bool} (h:p.iI=b):p=p.afD b:=by cases p;cases h;rfl
def b8 (p:aF) (k:Nat):Prop:=p.out.length+k<=1000000
theorem b8.eA {p:aF} {k:Nat} (h:b8 p k):cm p.out=aa:=fZ (bf (gG ..) h)
theorem b8.le {p:aF} {k j:Nat} (h:b8 p k) (e:j<=k):b8 p j:=bf (iW e _) h
theorem b8.o {p q:aF} {k:Nat} (l:List (List Nat)) (e:q.out=p.out++cf l) (h:b8 p (l.length+k)):b8 q k:=by
 show q.out.length+k<=1000000
 rw[e,bL,lN,p6];exact h
theorem kL {p:aF} {x:List Nat} {ln:Nat} (ar:cm p.out=aa):aJ (Gn [.ap 14,.f (.str x)] (p.hp ln)) (.f .none) ((p.o [x]).hp ln):=by
 delta Gn
 exact aV λ_ _ F k=>F ar k
theorem oi {p:aF} {ln:Nat} (ar:cm p.out=aa):aJ (tu [.ap 10,.f .none] (p.hp ln)) (.f .none) ((p.w [p.lb]).hp (ln+1)):=by
 delta tu
 exact aV λ_ _ F k=>F aa rfl _ _ (kL (p:=p.qq) ar) k
theorem PM {p:aF} {b:List Nat} {ln:Nat} (ar:cm p.out=aa):aJ (tu [.ap 10,.f (.str b)] (p.hp ln)) (.f .none) ((p.w [b]).hp (ln+1)):=by
 delta tu
 exact aV λ_ _ F k=>F ac rfl _ _ (kL (p:=p.qq) ar) k
noncomputable def mT (ws:Bool) (x:List Nat):List Nat:=cond ws x (32::x)
theorem vS {p:aF} {x:List Nat} {ln:Nat} (ar:cm p.out=aa) (aH:x.length<=1000):aJ (Ak [.ap 10,.f (.str x),.f (.bool aa),.f (.bool ac),.f (.bool ac)] (p.hp ln)) (.f .none) ((p.kG (mT p.ws x)).hp ln):=by
 delta Ak
 cases hw:p.ws with
 |true=>
  have R:=kL (p:=p.ve x.length) (x:=x) (ln:=ln) ar
  cases bj:p.iI with
  |true=>exact aV λ_ _ F k=>F aa hw aa bj _ _ R k
  |false=>rw[p.MC bj] at R hw⊢;exact aV λ_ _ F k=>F aa hw ac rfl _ _ R k
 |false=>
  have R:=kL (p:=p.ve (32::x).length) (x:=32::x) (ln:=ln) ar
  have z:(32::x).length<=16777216:=bf (iX aH) (by decide)
  cases bj:p.iI with
  |true=>exact aV λ_ _ F k=>F ac hw aa rfl z aa bj _ _ R k
  |false=>rw[p.MC bj] at R hw⊢;exact aV λ_ _ F k=>F ac hw aa rfl z ac rfl _ _ R k
noncomputable def aF.sin (p:aF) (i:aj):aF:={p with ind:=i}
theorem aF.DR {p:aF} {i:aj} (h:p.ind=i):p=p.sin i:=by cases p;cases h;rfl
theorem PU {p:aF} {ln:Nat} (aq:p.ind= .none) (aC:p.ws=aa) (bz:p.iI=aa) (ee:p.col=0):aJ (ou [.ap 10] (p.hp ln)) (.f .none) (p.hp ln):=by
 delta ou
 rw[p.DR aq]
 exact aV λ_ _ F k=>F ac rfl aa bz ac (n3 (a:=0) (fh ee)) aa (sp (b:=0) ee) aa aC ac rfl k
theorem PV {p:aF} {ln:Nat} (ar:cm p.out=aa) (aq:p.ind= .none) (bz:p.iI=ac):aJ (ou [.ap 10] (p.hp ln)) (.f .none) ((p.w [p.lb]).hp (ln+1)):=by
 delta ou
 have L:=oi (ln:=ln) ar
 rw[p.DR aq] at L⊢
 exact aV λ_ _ F k=>F ac rfl ac bz _ _ L ac rfl k
def fp (n:Nat):Prop:=n=2\/n=3\/n=4
def aF.fS (p:aF) (n:Nat):aF:=(p.s0 n).o [gP n 32]
noncomputable def aF.PX (p:aF) (n:Nat):aF:={p with col:=n}
theorem aF.U8 {p:aF} {n:Nat} (h:p.col=n):p=p.PX n:=by cases p;cases h;rfl
theorem PW {p:aF} {n ln:Nat} (ar:cm p.out=aa) (h0:fp n) (aq:p.ind= .int (.ofNat n)) (bz:p.iI=aa) (ee:p.col=0) (fE:p.ws=aa):aJ (ou [.ap 10] (p.hp ln)) (.f .none) ((p.fS n).hp ln):=by
 delta ou
 have R:=λx=>kL (p:=p.s0 n) (ln:=ln) (x:=x) ar
 rw[p.U8 ee,(p.PX 0).DR aq] at R⊢
 rcases h0 with rfl|rfl|rfl
 ·exact aV λ_ _ F k=>F aa rfl aa bz ac rfl ac rfl aa rfl (by decide:(-1000:Int)<2/\(2:Int)<1000) _ _ (R _) k
 ·exact aV λ_ _ F k=>F aa rfl aa bz ac rfl ac rfl aa rfl (by decide:(-1000:Int)<3/\(3:Int)<1000) _ _ (R _) k
 ·exact aV λ_ _ F k=>F aa rfl aa bz ac rfl ac rfl aa rfl (by decide:(-1000:Int)<4/\(4:Int)<1000) _ _ (R _) k
noncomputable abbrev dA:List Nat:= [10,133,8232,8233]
def lV (n a:Nat):List Nat:=cond (bO [a] [32,10,133,8232,8233]) (dv n) []
def iF (x:List Nat) (z y:Nat):List Nat:=cond (bO [z] dA) (cond (decide (c1 x.length=1)) [43] (cond (bO [y] dA) [43] [])) [45]
theorem sQ {l:List Nat} {i:Int} {c:Nat} (h:gd l i=ab c):mU (.f (.str l)) (.f (.int i)) pY=ab (.f (.str [c])):=
 congrArg (λo=>match(o:Option Nat) with
   |some c=>ab (ae.f (.str [c]))
   |none=>af) h
def YC:S:=Cm.aO.hd.bd.aO.hd
def DG (p:aF) (x h:List Nat) (ln:Nat):St:=⟨[(37,ab (.ap 10)),(41,ab (.f (.str x))),(54,ab (.f (.str h)))],p.hp ln,[],[]⟩
theorem Mv {p:aF} {x h:List Nat} {z y ln:Nat} {G:Prop} {K:cD->St->aB} (aq:gd x (-1)=ab z) (aC:x.length≠1->gd x (-2)=ab y) (aA:h.length<=1000) (F:aB.path G (bN (aI []) YC (DG p x h ln) K)):aB.path G (K .aQ (DG p x (h++iF x z y) ln)):=by
 have cF: ∀c:Nat,(h++ [c]).length<=16777216:=λc=>bL▸bf (h1 aA 1) (by decide)
 unfold iF
 cases cG:bO [z] dA with
 |false=>exact F _ (sQ aq) _ (congrArg not cG) (cF 45)
 |true=>cases pq:decide (c1 x.length=1) with
  |true=>exact F _ (sQ aq) _ (congrArg not cG) aa pq (cF 43)
  |false=>cases cO:bO [y] dA with
   |true=>exact F _ (sQ aq) _ (congrArg not cG) ac pq _ (sQ (aC λe=>absurd (e▸pq) (by decide))) aa cO (cF 43)
   |false=>
    show aB.path G (K .aQ (DG p x (h++ []) ln))
    rw[dj]
    exact F _ (sQ aq) _ (congrArg not cG) ac pq _ (sQ (aC λe=>absurd (e▸pq) (by decide))) ac cO
theorem aeX {p:aF} {x be:List Nat} {a z y ln:Nat} (ag:fp p.dd) (aH:x=a::be) (aq:gd x (-1)=ab z) (aC:x.length≠1->gd x (-2)=ab y):aJ (Ah [.ap 10,.f (.str x)] (p.hp ln)) (.f (.str (lV p.dd a++iF x z y))) (p.hp ln):=by
 delta Ah
 unfold lV
 have hd:(dv p.dd).length<=1000/\p.dd<100:=by rcases ag with h|h|h<;>rw[h]<;>decide
 cases aE:bO [a] [32,10,133,8232,8233] with
 |true=>
  subst aH
  refine aV λG K F k=> ?_
  exact Mv aq aC hd.1 (F aa rfl _ rfl aa aE hd.2 (bf hd.1 (by decide))) k
 |false=>
  subst aH
  refine aV λG K F k=> ?_
  exact Mv (h:= []) aq aC (by decide) (F aa rfl _ rfl ac aE) k
theorem Yw: ∀d∈ [[],[50],[51],[52]],∀c∈ [[],[45],[43]],(d++c).length<=10/\(iu (d++c) (.int (-1)) .none).map (aM · [43])=ab (aM c [43]):=by decide
theorem Yv {n a z y:Nat} {x:List Nat} (ar:fp n):(lV n a++iF x z y).length<=10/\ ∃s,iu (lV n a++iF x z y) (.int (-1)) .none=ab s/\aM s [43]=aM (iF x z y) [43]:=by
 have D:lV n a∈ [[],[50],[51],[52]]:=by
  unfold lV
  cases bO [a] [32,10,133,8232,8233] with
  |false=>exact eo
  |true=>rcases ar with rfl|rfl|rfl<;>decide
 have C:iF x z y∈ [[],[45],[43]]:=by
  unfold iF
  cases bO [z] dA<;>cases decide (c1 x.length=1)<;>cases bO [y] dA<;>decide
 have T:=Yw _ D _ C
 exact⟨T.1,p9.mp T.2⟩
def fl (lb:List Nat) (c:Nat):List Nat:=cond (aM [c] [10]) lb [c]
noncomputable def h9 (lb ind:List Nat):Bool->List Nat->List Nat->List (List Nat)
 |b,bs,[]=>cond b (bs.map (fl lb)) [bs,lb]
 |b,bs,c::r=>cond b (cond (bO [c] dA) (h9 lb ind aa (bs++ [c]) r) (bs.map (fl lb)++ind::h9 lb ind ac [c] r))
   (cond (bO [c] dA) (bs::h9 lb ind aa [c] r) (h9 lb ind ac (bs++ [c]) r))
theorem gk {α:Type} {b:Bool} {x y:α} (h:b=aa):cond b x y=x:=congrArg (cond · x y) h
theorem fm {α:Type} {b:Bool} {x y:α} (h:b=ac):cond b x y=y:=congrArg (cond · x y) h
theorem kl {x pre acc r:List Nat} (h:x=pre++(acc++r)):ti (.f (.str x)) (.f (.int (.ofNat pre.length))) (.f (.int (.ofNat (pre++acc).length))) pY=ab (.f (.str acc)):=by
 have e:(x.drop pre.length).take ((pre++acc).length-pre.length)=acc:=by
  subst h
  rw[RI,bL,A9,RU]
 exact congrArg (λl=>ab (ae.f (.str l))) e
theorem ka {x pre acc r:List Nat} {c:Nat} (h:x=pre++(acc++c::r)):mU (.f (.str x)) (.f (.int (.ofNat (pre++acc).length))) pY=ab (.f (.str [c])):=
 jJ (by rw[h,<-bt];exact uw)
def AB:S:=Cr.aO.aO.aO.aO.aO.aO.hd
def ah7:St->(cD->St->Prop)->Prop:=fa (ev (aI dr) AB.df).t (bN (aI dr) AB.bd)
noncomputable def uB:S:= .cons (.ite (.cmp .Eq (.lo 5) (.ks [10])) (.cons (.exp (.aG (.lo 37) 251 .nil .nil)) .nil) (.cons (.exp (.aG (.lo 37) 251 (.cons (.lo 5) .nil) .nil)) .nil)) .nil
structure oZ where
 x:List Nat
 h:aj
 c:Option ae
 c0:Option ae
 d:Option ae
def ox (l:oZ) (b:Bool) (s e:Nat) (p:aF) (ln:Nat):St:=⟨[(37,ab (.ap 10)),(41,ab (.f (.str l.x))),(54,ab (.f l.h)),(78,ab (.f (.bool b))),(66,ab (.f (.int (.ofNat s)))),(9,ab (.f (.int (.ofNat e)))),(6,l.c),(5,l.c0),(23,l.d)],p.hp ln,[],[]⟩
structure rF (p:aF):Prop where
 ws:p.ws=aa
 iI:p.iI=aa
 col:p.col=0
theorem aF.AC {p:aF} {a b:List (List Nat)}:(p.w a).w b=p.w (a++b):=congrArg (aF.mk _ _ _ _ _ _ _ _ _ _ _ _ _ _ _ _ _ _ _ _ · _ _) ((bt p.out _ _).trans (congrArg (p.out++ ·) (h4 a b).symm))
theorem UA {l:oZ} {b:Bool} {s e a ln:Nat} {p:aF} (ar:cm p.out=aa):aJ (jC (bN (aI dr) uB) (ox {l with c0:=ab (.f (.str [a]))} b s e p ln)) af (ox {l with c0:=ab (.f (.str [a]))} b s e (p.w [fl p.lb a]) (ln+1)):=by
 unfold fl
 cases h:aM [a] [10] with
 |true=>exact gT λ_ _ F k=>F aa h _ _ (oi ar) k
 |false=>exact gT λ_ _ F k=>F ac h _ _ (PM ar) k
theorem K8 {l:oZ} {b:Bool} {s e:Nat}: ∀(bs:List Nat) (p:aF) (c0:Option ae) (ln:Nat),b8 p (bs.length+1)-> ∃fO bw,aJ (gW 5 (bN (aI dr) uB) (qy bs) (ox {l with c0:=c0} b s e p ln)) .aQ (ox {l with c0:=fO} b s e (cond bs.isEmpty p (p.w (bs.map (fl p.lb)))) bw):=λbs=>by
 induction bs with
 |nil=>exact λp c0 ln _=> ⟨c0,ln,la⟩
 |cons a bs ai=>
  intro p c0 ln ar
  refine bT (ai (p.w [fl p.lb a]) (ab (.f (.str [a]))) (ln+1) (b8.o [fl p.lb a] rfl (ar.le (by rw[du,du,eX];omega)))) λfO bw i=> ⟨fO,bw,k9 (UA ar.eA) ?_⟩
  cases bs with
  |nil=>exact i
  |cons i2 bs=>exact kJ i rfl (congrArg (λq=>ox {l with c0:=fO} b s e q bw) aF.AC)
def j0 (p:aF) (bs:List Nat):aF:=cond bs.isEmpty p (p.w (bs.map (fl p.lb)))
theorem aF.M0 {p:aF} {n:Nat} {l:List (List Nat)}:(p.fS n).w l=p.w (gP n 32::l):=congrArg (aF.mk _ _ _ _ _ _ _ _ _ _ _ _ _ _ _ _ _ _ _ _ · _ _) ((bt p.out _ _).trans (congrArg (p.out++ ·) (h4 [gP n 32] l).symm))
theorem aF.hj {p:aF} {a l:List (List Nat)}:(p.o a).w l=p.w (a++l):=congrArg (aF.mk _ _ _ _ _ _ _ _ _ _ _ _ _ _ _ _ _ _ _ _ · _ _) ((bt p.out _ _).trans (congrArg (p.out++ ·) (h4 a l).symm))
theorem K7 {p:aF} {n:Nat} {l:List (List Nat)} (bs:List Nat):((j0 p bs).fS n).w l=p.w (bs.map (fl p.lb)++gP n 32::l):=by
 cases bs with
 |nil=>exact aF.M0
 |cons a bs=>exact aF.M0.trans aF.AC
theorem K5 {p:aF} {bs:List Nat} (h:bs= []->rF p):rF (j0 p bs)/\(j0 p bs).ind=p.ind:=by
 cases bs with
 |nil=>exact⟨h rfl,rfl⟩
 |cons a bs=>exact⟨⟨rfl,rfl,rfl⟩,rfl⟩
theorem CB {p:aF} {k:Nat} (bs:List Nat) (h:b8 p (bs.length+k)):b8 (j0 p bs) k:=by
 cases bs with
 |nil=>exact h.le (lF ..)
 |cons a bs=>exact b8.o _ rfl (by rw[ed];exact h)
theorem ja {a b:Nat} (h:a<=b):decide (c1 a<=c1 b)=aa:=decide_eq_true (oG.mpr h)
theorem Nx {a b:Nat} (h:b<a):decide (c1 a<=c1 b)=ac:=decide_eq_false λx=>absurd (oG.mp x) (HZ h)
structure hI (x pre acc r:List Nat):Prop where
 eq:x=pre++(acc++r)
theorem hI.len {x pre acc r:List Nat} (h:hI x pre acc r):x.length=(pre++acc).length+r.length:=by rw[h.eq,<-bt,bL]
theorem hI.on {x pre acc r:List Nat} {a:Nat} (h:hI x pre acc (a::r)):hI x pre (acc++ [a]) r/\(pre++(acc++ [a])).length=(pre++acc).length+1:=⟨⟨h.eq.trans (by rw[bt];rfl)⟩,by rw[<-bt,bL];rfl⟩
theorem hI.cut {x pre acc r:List Nat} {a:Nat} (h:hI x pre acc (a::r)):hI x (pre++acc) [a] r/\((pre++acc)++ [a]).length=(pre++acc).length+1:=⟨⟨h.eq.trans (bt ..).symm⟩,bL⟩
noncomputable abbrev ind (n:Nat):List Nat:=gP n 32
def jR (l:oZ) (b:Bool) (s e:Nat) (p:aF) (ln:Nat) (q:aF):Prop:= ∃cz fN s' cM bw,aJ (ah7 (ox l b s e p ln)) .aQ (ox cz fN s' cM q bw)
theorem jR.go {l l1:oZ} {b b1:Bool} {s e s1 e1 ln vv:Nat} {p e8 q e9:aF} (h:aJ (kO (ev (aI dr) AB.df).t (bN (aI dr) AB.bd) (ox l b s e p ln)) af (ox l1 b1 s1 e1 e8 vv)) (k:jR l1 b1 s1 e1 e8 vv q) (dC:q=e9):jR l b s e p ln e9:=
 wt k λcz fN s' cM bw k=> ⟨cz,fN,s',cM,bw,dC▸fb h k⟩
theorem jR.fin {l:oZ} {b:Bool} {s e ln:Nat} {p:aF} (h:l.x.length<e):jR l b s e p ln p:=⟨l,b,s,e,ln,eQ (by exact b9 λ_ _ F k=>F ac (Nx h) k)⟩
theorem ah8 {n:Nat} (h0:fp n): ∀(r pre acc:List Nat) (b:Bool) (l:oZ) (p:aF) (ln:Nat),hI l.x pre acc r->p.ind= .int (.ofNat n)->(b=aa->acc= []->rF p/\r≠ [])->b8 p (acc.length+3*r.length+5)->
  jR l b pre.length (pre++acc).length p ln (p.w (h9 p.lb (ind n) b acc r)):=λr=>by
 induction r with
 |nil=>
  intro pre acc b l p ln m bj ag ar
  have dw:(pre++acc).length=l.x.length:=m.len.symm
  cases b with
  |true=>
   cases acc with
   |nil=>exact absurd rfl (ag rfl rfl).2
   |cons a acc=>
    exact ak (K8 (l:={l with c:=ab (.f .none)}) (b:=aa) (s:=pre.length) (e:=(pre++a::acc).length) (a::acc) p l.c0 ln (ar.le (by omega))) λfO y=>ak y λbw i=>
     jR.go (l1:={l with c:=ab (.f .none),c0:=fO}) (by exact b9 λ_ _ F k=>F aa (ja (fh dw)) ac (n3 (fh dw.symm)) aa rfl aa rfl _ (kl m.eq) _ _ i ac rfl ac rfl k) (jR.fin (tS (fh dw.symm))) rfl
  |false=>
   have hw:=oi (p:=p.o [acc]) (ln:=ln) (b8.eA (b8.o (k:=1) [acc] rfl (ar.le (by rw[du,eX];omega))))
   exact jR.go (l1:={l with c:=ab (.f .none),d:=ab (.f (.str acc))}) (b1:=ac) (by exact b9 λ_ _ F k=>F aa (ja (fh dw)) ac (n3 (fh dw.symm)) ac rfl aa rfl _ (kl m.eq) _ _ (kL ar.eA) aa rfl _ _ hw ac rfl k) (jR.fin (tS (fh dw.symm))) aF.hj
 |cons a r ai=>
  intro pre acc b l p ln m bj ag ar
  rw[du] at ar
  have dw:=m.len
  have aA:(pre++acc).length<l.x.length:=by rw[dw,du];omega
  have aG:=m.cut
  have q2:=m.on
  have keep: ∀b,bO [a] dA=b->jR {l with c:=ab (.f (.str [a]))} (bO [a] dA) pre.length ((pre++acc).length+1) p ln (p.w (h9 p.lb (ind n) b (acc++ [a]) r)):=λb ag=>by
   rw[ag,<-q2.2]
   exact ai pre (acc++ [a]) b {l with c:=ab (.f (.str [a]))} p ln q2.1 bj (λ_ h=>absurd h (i4 (c9 _ _))) (ar.le (by rw[bL,du,eX];omega))
  cases b with
  |true=>cases aE:bO [a] dA with
   |true=>exact jR.go (by exact b9 λ_ _ F k=>F aa (ja (kv aA)) aa (ip aA) _ (ka m.eq) aa rfl ac rfl _ (congrArg not aE) aa rfl k) (keep aa aE) (congrArg p.w (gk aE).symm)
   |false=>
    have dC:=K5 (bs:=acc) λh=> (ag rfl h).1
    have Px:=CB (k:=3*r.length+7) acc (ar.le (by omega))
    have W:=λln=>PW (ln:=ln) Px.eA h0 (dC.2.trans bj) dC.1.iI dC.1.col dC.1.ws
    refine bT (K8 (l:={l with c:=ab (.f (.str [a]))}) (b:=aa) (s:=pre.length) (e:=(pre++acc).length) acc p l.c0 ln (ar.le (by omega))) λfO bw i=> ?_
    have j:=ai (pre++acc) [a] ac {l with c:=ab (.f (.str [a])),c0:=fO} ((j0 p acc).fS n) bw aG.1 (dC.2.trans bj) nofun (b8.o [ind n] rfl (Px.le (by simp only[du,eX];omega)))
    rw[aG.2,<-aE] at j
    exact jR.go (by exact b9 λ_ _ F k=>F aa (ja (kv aA)) aa (ip aA) _ (ka m.eq) aa rfl ac rfl _ (congrArg not aE) _ (kl m.eq) _ _ i aa rfl _ _ (W _) aa rfl k) j ((K7 acc).trans (congrArg p.w (by rw[aE,show((j0 p acc).fS n).lb=p.lb by cases acc<;>rfl];exact(fm aE).symm)))
  |false=>cases aE:bO [a] dA with
   |true=>
    have j:=ai (pre++acc) [a] aa {l with c:=ab (.f (.str [a])),d:=ab (.f (.str acc))} (p.o [acc]) ln aG.1 bj (λ_ h=>absurd h (c9 _ _)) (b8.o [acc] rfl (ar.le (by simp only[du,eX];omega)))
    rw[aG.2,<-aE] at j
    exact jR.go (by exact b9 λ_ _ F k=>F aa (ja (kv aA)) aa (ip aA) _ (ka m.eq) ac rfl ac rfl aa aE _ (kl m.eq) _ _ (kL ar.eA) ac rfl aa rfl k) j (aF.hj.trans (congrArg p.w (by rw[aE];exact(gk aE).symm)))
   |false=>exact jR.go (by exact b9 λ_ _ F k=>F aa (ja (kv aA)) aa (ip aA) _ (ka m.eq) ac rfl ac rfl ac aE aa rfl k) (keep ac aE) (congrArg p.w (fm aE).symm)
noncomputable def aF.eJ (p:aF) (b:Bool):aF:={p with dW:=b}
def aF.qP (p:aF) (d:List Nat) (b:Bool):aF:=((p.kG d).eJ b).w [p.lb]
theorem aF.Mp {p:aF} {d:List Nat} {b:Bool} {l:List (List Nat)}:(p.qP d b).w l=(p.eJ b).w (d::p.lb::l):=
 congrArg (aF.mk _ _ _ _ _ _ _ _ _ _ _ _ _ _ _ _ _ _ _ _ · _ _) ((bt (p.out++cf [d]) (cf [p.lb]) (cf l)).trans (bt p.out (cf [d]) _))
theorem Mq {p:aF} {d:List Nat} {b:Bool} {k:Nat} (h:b8 p (2+k)):b8 (p.qP d b) k:=b8.o (p:=p) [d,p.lb] (bt p.out _ _) h
structure wN (p:aF) (x:List Nat) (a z y:Nat):Prop where
 dd:fp p.dd
 hd: ∃be,x=a::be
 aq:gd x (-1)=ab z
 aC:x.length≠1->gd x (-2)=ab y
theorem Mo {p:aF} {x:List Nat} {a z y c ln:Nat} (H:wN p x a z y) (ar:b8 p 10): ∃h,h=lV p.dd a++iF x z y/\aJ (Ah [.ap 10,.f (.str x)] (p.hp ln)) (.f (.str h)) (p.hp ln)/\(c::h).length<=16777216/\
  aJ (Ak [.ap 10,.f (.str (c::h)),.f (.bool aa),.f (.bool ac),.f (.bool ac)] (p.hp ln)) (.f .none) ((p.kG (mT p.ws (c::h))).hp ln)/\(∀b,aJ (tu [.ap 10,.f .none] (((p.kG (mT p.ws (c::h))).eJ b).hp ln)) (.f .none) ((p.qP (mT p.ws (c::h)) b).hp (ln+1)))/\
  ∃s,ti (.f (.str h)) (.f (.int (-1))) (.f .none) pY=ab (.f (.str s))/\aM s [43]=aM (iF x z y) [43]:=
 have T:=Yv (a:=a) (z:=z) (y:=y) (x:=x) H.dd
 ak H.hd λ_ aH=> ⟨_,rfl,aeX H.dd aH H.aq H.aC,bf (iX T.1) (by decide),vS ar.eA (bf (iX T.1) (by decide)),λ_=>oi (b8.eA (b8.o (k:=1) (p:=p) [_] rfl (ar.le (by rw[du];decide)))),
  ak T.2 λs q=> ⟨s,congrArg (λo=>match(o:Option (List Nat)) with|some r=>ab (ae.f (.str r)) |none=>af) q.1,q.2⟩⟩
theorem afs {p:aF} {x:List Nat} {a z y n ln:Nat} (H:wN p x a z y) (ar:b8 p (3*x.length+10)) (h0:fp n) (bj:p.ind= .int (.ofNat n)):
  ∃bw,aJ (Gd [.ap 10,.f (.str x)] (p.hp ln)) (.f .none) (((p.qP (mT p.ws (124::(lV p.dd a++iF x z y))) (aM (iF x z y) [43])).w (h9 p.lb (ind n) aa [] x)).hp bw):=by
 delta Gd
 refine ak (Mo (c:=124) (ln:=ln) H (ar.le (lF ..))) λh T=> ?_
 rw[<-T.1]
 refine ak T.2.2.2.2.2 λs q=> ?_
 rw[<-q.2]
 refine wt (ah8 h0 x [] [] aa ⟨x,.str h,af,af,af⟩ (p.qP (mT p.ws (124::h)) (aM s [43])) (ln+1) ⟨rfl⟩ bj (λ_ _=> ⟨⟨rfl,rfl,rfl⟩,ak H.hd λ_ aH=>aH▸c9 _ _⟩) (Mq (ar.le (by rw[eX];omega)))) λcz fN s' cM bw W=> ⟨bw, ?_⟩
 revert W
 cases hs:aM s [43] with
 |true=>exact λW=>by exact aV λ_ _ F k=>F _ _ T.2.1 T.2.2.1 _ _ T.2.2.2.1 _ q.1 aa hs _ _ (T.2.2.2.2.1 aa) _ _ W k
 |false=>exact λW=>by exact aV λ_ _ F k=>F _ _ T.2.1 T.2.2.1 _ _ T.2.2.2.1 _ q.1 ac hs _ _ (T.2.2.2.2.1 ac) _ _ W k
noncomputable abbrev pQ:List Nat:= [32,10,133,8232,8233]
def sq (lb bs:List Nat) (ls:Bool) (c:Nat):List (List Nat):=cond (!ls&&(!aM [c] [32]&&aM [bs.headD 0] [10])) [lb] []
noncomputable def gp (lb ind:List Nat):Bool->Bool->Bool->List Nat->List Nat->List (List Nat)
 |b,s,_,bs,[]=>cond b (bs.map (fl lb)) (cond s [bs] [bs,lb])
 |b,s,ls,bs,c::r=>cond b (cond (bO [c] dA) (gp lb ind (bO [c] dA) (aM [c] [32]) ls (bs++ [c]) r) (sq lb bs ls c++(bs.map (fl lb)++ind::gp lb ind (bO [c] dA) (aM [c] [32]) (aM [c] [32]) [c] r)))
   (cond s (cond (aM [c] [32]) (gp lb ind (bO [c] dA) (aM [c] [32]) ls (bs++ [c]) r) (bs::gp lb ind (bO [c] dA) (aM [c] [32]) ls [c] r))
    (cond (bO [c] pQ) (bs::gp lb ind (bO [c] dA) (aM [c] [32]) ls [c] r) (gp lb ind (bO [c] dA) (aM [c] [32]) ls (bs++ [c]) r)))
def AA:S:=Cq.aO.aO.aO.aO.aO.aO.aO.aO.hd
def ahW:St->(cD->St->Prop)->Prop:=fa (ev (aI dr) AA.df).t (bN (aI dr) AA.bd)
structure jA where
 l:oZ
 ls:Bool
 s:Bool
 b:Bool
def gg (l:jA) (s e:Nat) (p:aF) (ln:Nat):St:=⟨[(37,ab (.ap 10)),(41,ab (.f (.str l.l.x))),(54,ab (.f l.l.h)),(203,ab (.f (.bool l.ls))),(95,ab (.f (.bool l.s))),(78,ab (.f (.bool l.b))),(66,ab (.f (.int (.ofNat s)))),(9,ab (.f (.int (.ofNat e)))),(6,l.l.c),(5,l.l.c0),(23,l.l.d)],p.hp ln,[],[]⟩
abbrev ow (σ σ':St):Prop:=aJ (kO (ev (aI dr) AA.df).t (bN (aI dr) AA.bd) σ) af σ'
theorem Uj {l:jA} {s e a ln:Nat} {p:aF} (ar:cm p.out=aa):aJ (jC (bN (aI dr) uB) (gg {l with l:={l.l with c0:=ab (.f (.str [a]))}} s e p ln)) af (gg {l with l:={l.l with c0:=ab (.f (.str [a]))}} s e (p.w [fl p.lb a]) (ln+1)):=by
 unfold fl
 cases h:aM [a] [10] with
 |true=>exact gT λ_ _ F k=>F aa h _ _ (oi ar) k
 |false=>exact gT λ_ _ F k=>F ac h _ _ (PM ar) k
noncomputable def jA.c0 (l:jA) (c0:Option ae):jA:={l with l:={l.l with c0:=c0}}
theorem KX {l:jA} {s e:Nat}: ∀(bs:List Nat) (p:aF) (c0:Option ae) (ln:Nat),b8 p (bs.length+1)-> ∃fO bw,aJ (gW 5 (bN (aI dr) uB) (qy bs) (gg (l.c0 c0) s e p ln)) .aQ (gg (l.c0 fO) s e (j0 p bs) bw):=λbs=>by
 induction bs with
 |nil=>exact λp c0 ln _=> ⟨c0,ln,la⟩
 |cons a bs ai=>
  intro p c0 ln ar
  refine bT (ai (p.w [fl p.lb a]) (ab (.f (.str [a]))) (ln+1) (b8.o [fl p.lb a] rfl (ar.le (by rw[du,du,eX];omega)))) λfO bw i=> ⟨fO,bw,k9 (Uj (l:=l) ar.eA) ?_⟩
  cases bs with
  |nil=>exact i
  |cons i2 bs=>exact kJ i rfl (congrArg (λq=>gg (l.c0 fO) s e q bw) aF.AC)
def jA.on (l:jA) (ls:Bool) (a:Nat) (c0 d:Option ae):jA:=⟨⟨l.l.x,l.l.h,ab (.f (.str [a])),c0,d⟩,ls,aM [a] [32],bO [a] dA⟩
theorem M3 {x pre acc r:List Nat} (h:x=pre++(acc++r)) (ps:acc≠ []):mU (.f (.str x)) (.f (.int (.ofNat pre.length))) pY=ab (.f (.str [acc.headD 0])):=by
 cases acc with
 |nil=>exact absurd rfl ps
 |cons a acc=>exact jJ (by rw[h];exact uw)
noncomputable def aF.cl (p:aF) (k:Nat):aF:={p with col:=p.col+k}
section
variable {l:jA} {pre acc r:List Nat} {a ln:Nat} {p:aF}
theorem ahX (m:hI l.l.x pre acc (a::r)) (ag:l.b=aa) (aE:bO [a] dA=aa):ow (gg l pre.length (pre++acc).length p ln) (gg (l.on l.ls a l.l.c0 l.l.d) pre.length ((pre++acc).length+1) p ln):=by
 have aA:(pre++acc).length<l.l.x.length:=by rw[m.len,du];omega
 exact b9 λ_ _ F k=>F aa (ja (kv aA)) aa (ip aA) _ (ka m.eq) aa ag ac rfl _ (congrArg not aE) aa rfl k
theorem ah2 (m:hI l.l.x pre acc (a::r)) (ag:l.b=ac) (hs:l.s=aa) (aE:aM [a] [32]=aa):ow (gg l pre.length (pre++acc).length p ln) (gg (l.on l.ls a l.l.c0 l.l.d) pre.length ((pre++acc).length+1) p ln):=by
 have aA:(pre++acc).length<l.l.x.length:=by rw[m.len,du];omega
 exact b9 λ_ _ F k=>F aa (ja (kv aA)) aa (ip aA) _ (ka m.eq) ac ag aa hs _ (congrArg not aE) aa rfl k
theorem ah5 (m:hI l.l.x pre acc (a::r)) (ag:l.b=ac) (hs:l.s=ac) (aE:bO [a] pQ=ac):ow (gg l pre.length (pre++acc).length p ln) (gg (l.on l.ls a l.l.c0 l.l.d) pre.length ((pre++acc).length+1) p ln):=by
 have aA:(pre++acc).length<l.l.x.length:=by rw[m.len,du];omega
 exact b9 λ_ _ F k=>F aa (ja (kv aA)) aa (ip aA) _ (ka m.eq) ac ag ac hs ac rfl ac aE aa rfl k
theorem ah3 (m:hI l.l.x pre acc (a::r)) (ag:l.b=ac) (hs:l.s=aa) (aE:aM [a] [32]=ac) (ar:cm p.out=aa) (aD:p.col<=80):ow (gg l pre.length (pre++acc).length p ln) (gg (l.on l.ls a l.l.c0 (ab (.f (.str acc)))) (pre++acc).length ((pre++acc).length+1) ((p.cl acc.length).o [acc]) ln):=by
 have aA:(pre++acc).length<l.l.x.length:=by rw[m.len,du];omega
 cases h:decide (c1 (pre.length+1)=c1 (pre++acc).length) with
 |true=>exact b9 λ_ _ F k=>F aa (ja (kv aA)) aa (ip aA) _ (ka m.eq) ac ag aa hs _ (congrArg not aE) aa h ac (n3 (a:=80) aD) _ (kl m.eq) _ _ (kL (p:=p.cl acc.length) ar) aa rfl k
 |false=>exact b9 λ_ _ F k=>F aa (ja (kv aA)) aa (ip aA) _ (ka m.eq) ac ag aa hs _ (congrArg not aE) ac h _ (kl m.eq) _ _ (kL (p:=p.cl acc.length) ar) aa rfl k
theorem ah4 (m:hI l.l.x pre acc (a::r)) (ag:l.b=ac) (hs:l.s=ac) (aE:bO [a] pQ=aa) (ar:cm p.out=aa):ow (gg l pre.length (pre++acc).length p ln) (gg (l.on l.ls a l.l.c0 (ab (.f (.str acc)))) (pre++acc).length ((pre++acc).length+1) ((p.cl acc.length).o [acc]) ln):=by
 have aA:(pre++acc).length<l.l.x.length:=by rw[m.len,du];omega
 exact b9 λ_ _ F k=>F aa (ja (kv aA)) aa (ip aA) _ (ka m.eq) ac ag ac hs ac rfl aa aE _ (kl m.eq) _ _ (kL (p:=p.cl acc.length) ar) ac rfl aa rfl k
def e1 (p:aF) (ls:Bool) (acc:List Nat) (a:Nat):aF:=cond (!ls&&(!aM [a] [32]&&aM [acc.headD 0] [10])) (p.w [p.lb]) p
theorem V0 {ls:Bool} (h:(!ls&&(!aM [a] [32]&&aM [acc.headD 0] [10]))=ac):e1 p ls acc a=p:=fm h
theorem cJ (b:Bool):b=aa\/b=ac:=by cases b<;>decide
theorem ahY {n:Nat} (h0:fp n) (bj:p.ind= .int (.ofNat n)) (m:hI l.l.x pre acc (a::r)) (ag:l.b=aa) (aE:bO [a] dA=ac) (cI:acc= []->rF p/\l.ls=aa) (ar:b8 p (acc.length+3)):
  ∃fO bw,ow (gg l pre.length (pre++acc).length p ln) (gg (l.on (aM [a] [32]) a fO l.l.d) (pre++acc).length ((pre++acc).length+1) ((j0 (e1 p l.ls acc a) acc).fS n) bw):=by
 have aA:(pre++acc).length<l.l.x.length:=by rw[m.len,du];omega
 have G: ∀(q:aF) (ln:Nat),q.ind=p.ind->(acc= []->rF q)->b8 q (acc.length+2)-> ∃fO bw,aJ (gW 5 (bN (aI dr) uB) (qy acc) (gg ⟨⟨l.l.x,l.l.h,ab (.f (.str [a])),l.l.c0,l.l.d⟩,aM [a] [32],l.s,l.b⟩ pre.length (pre++acc).length q ln)) .aQ (gg ⟨⟨l.l.x,l.l.h,ab (.f (.str [a])),fO,l.l.d⟩,aM [a] [32],l.s,l.b⟩ pre.length (pre++acc).length (j0 q acc) bw)/\aJ (ou [.ap 10] ((j0 q acc).hp bw)) (.f .none) (((j0 q acc).fS n).hp bw):=λq ln aq aC bz=>
  have dC:=K5 aC
  bT (KX (l:=⟨⟨l.l.x,l.l.h,ab (.f (.str [a])),l.l.c0,l.l.d⟩,aM [a] [32],l.s,l.b⟩) (s:=pre.length) (e:=(pre++acc).length) acc q l.l.c0 ln (bz.le (kx _))) λfO bw i=> ⟨fO,bw,i,PW (CB (k:=1) acc (bz.le (kx _))).eA h0 (dC.2.trans (aq.trans bj)) dC.1.iI dC.1.col dC.1.ws⟩
 have g:=G p ln rfl (λh=> (cI h).1) (ar.le (kx _))
 have L:=ja (kv aA)
 have E:=λq=>V0 (p:=p) (acc:=acc) (a:=a) (ls:=l.ls) q
 rcases cJ l.ls with hs|hs
 ·rw[E (by rw[hs];rfl)]
  exact bT g λfO bw g=> ⟨fO,bw,by exact b9 λ_ _ F k=>F aa L aa (ip aA) _ (ka m.eq) aa ag ac rfl _ (congrArg not aE) aa hs _ (kl m.eq) _ _ g.1 aa rfl _ _ g.2 aa rfl k⟩
 have ps:acc≠ []:=λh=>absurd ((cI h).2.symm.trans hs) (by decide)
 rcases cJ (aM [a] [32]) with aq|aq
 ·rw[E (by rw[aq,wG,wF,ho])]
  exact bT g λfO bw g=> ⟨fO,bw,by exact b9 λ_ _ F k=>F aa L aa (ip aA) _ (ka m.eq) aa ag ac rfl _ (congrArg not aE) ac hs aa rfl _ (congrArg not aq) _ (kl m.eq) _ _ g.1 aa rfl _ _ g.2 aa rfl k⟩
 rcases cJ (aM [acc.headD 0] [10]) with aC|aC
 ·rw[show e1 p l.ls acc a=p.w [p.lb] from gk (by rw[hs,aq,aC];rfl)]
  exact bT (G (p.w [p.lb]) (ln+1) rfl (λh=>absurd h ps) (b8.o [p.lb] rfl (ar.le (by rw[du,eX];omega)))) λfO bw g=> ⟨fO,bw,by exact b9 λ_ _ F k=>F aa L aa (ip aA) _ (ka m.eq) aa ag ac rfl _ (congrArg not aE) ac hs aa rfl _ (congrArg not aq) _ (M3 m.eq ps) aa aC _ _ (oi ar.eA) _ (kl m.eq) _ _ g.1 aa rfl _ _ g.2 aa rfl k⟩
 ·rw[E (by rw[aC,ho,ho])]
  exact bT g λfO bw g=> ⟨fO,bw,by exact b9 λ_ _ F k=>F aa L aa (ip aA) _ (ka m.eq) aa ag ac rfl _ (congrArg not aE) ac hs aa rfl _ (congrArg not aq) _ (M3 m.eq ps) ac aC _ (kl m.eq) _ _ g.1 aa rfl _ _ g.2 aa rfl k⟩
theorem ahZ (m:hI l.l.x pre acc []) (ag:l.b=aa) (ar:b8 p (acc.length+1)):
  ∃cz bw,ow (gg l pre.length (pre++acc).length p ln) (gg cz (pre++acc).length ((pre++acc).length+1) (j0 p acc) bw)/\cz.l.x=l.l.x:=by
 have dw:(pre++acc).length=l.l.x.length:=m.len.symm
 refine bT (KX (l:=⟨⟨l.l.x,l.l.h,ab (.f .none),l.l.c0,l.l.d⟩,ac,l.s,l.b⟩) (s:=pre.length) (e:=(pre++acc).length) acc p l.l.c0 ln ar) λfO bw i=> ⟨⟨⟨l.l.x,l.l.h,ab (.f .none),fO,l.l.d⟩,ac,l.s,l.b⟩,bw, ?_,rfl⟩
 cases hs:l.ls with
 |true=>exact b9 λ_ _ F k=>F aa (ja (fh dw)) ac (n3 (fh dw.symm)) aa ag aa rfl aa hs _ (kl m.eq) _ _ i ac rfl ac rfl k
 |false=>exact b9 λ_ _ F k=>F aa (ja (fh dw)) ac (n3 (fh dw.symm)) aa ag aa rfl ac hs ac rfl _ (kl m.eq) _ _ i ac rfl ac rfl k
theorem ah0 (m:hI l.l.x pre acc []) (ag:l.b=ac) (hs:l.s=ac) (ar:b8 p 2):
  ∃cz bw,ow (gg l pre.length (pre++acc).length p ln) (gg cz (pre++acc).length ((pre++acc).length+1) (((p.cl acc.length).o [acc]).w [p.lb]) bw)/\cz.l.x=l.l.x:=by
 have dw:(pre++acc).length=l.l.x.length:=m.len.symm
 have L:=oi (p:=(p.cl acc.length).o [acc]) (ln:=ln) (b8.eA (b8.o (p:=p) (k:=1) [acc] rfl ar))
 exact⟨⟨⟨l.l.x,l.l.h,ab (.f .none),l.l.c0,ab (.f (.str acc))⟩,l.ls,l.s,l.b⟩,ln+1,by exact b9 λ_ _ F k=>F aa (ja (fh dw)) ac (n3 (fh dw.symm)) ac ag ac hs aa rfl _ (kl m.eq) _ _ (kL (p:=p.cl acc.length) ar.eA) aa rfl _ _ L ac rfl k,rfl⟩
end
def ie (l:jA) (s e:Nat) (p:aF) (ln:Nat) (q:aF):Prop:= ∃cz s' cM bw,aJ (ahW (gg l s e p ln)) .aQ (gg cz s' cM q bw)
theorem ie.go {l l1:jA} {s e s1 e1 ln vv:Nat} {p e8 q e9:aF} (h:ow (gg l s e p ln) (gg l1 s1 e1 e8 vv)) (k:ie l1 s1 e1 e8 vv q) (dC:q=e9):ie l s e p ln e9:=
 nh k λcz s' cM bw k=> ⟨cz,s',cM,bw,dC▸fb h k⟩
theorem ie.fin {l:jA} {s e ln:Nat} {p:aF} (h:l.l.x.length<e):ie l s e p ln p:=⟨l,s,e,ln,eQ (by exact b9 λ_ _ F k=>F ac (Nx h) k)⟩
structure TL (l:jA) (p:aF) (n:Nat) (pre acc r:List Nat):Prop where
 m:hI l.l.x pre acc r
 ind:p.ind= .int (.ofNat n)
 col:p.col<=4+pre.length
 MM:l.b=aa->acc= []->(rF p/\l.ls=aa)/\r≠ []
 eg:l.b=ac->l.s=aa-> ∃u,acc=u++ [32]
 out:b8 p (acc.length+5*r.length+10)
theorem ai0 {a:Nat} (h:bO [a] dA=ac) (k:aM [a] [32]=ac):bO [a] pQ=ac:=by
 show(bA a 32&&aa||bO [a] dA)=ac
 rw[h,rH];exact k
theorem uQ {p:aF} {acc:List Nat} {ls:Bool} {a:Nat}:(e1 p ls acc a).ind=p.ind/\(e1 p ls acc a).lb=p.lb/\(∀l,(e1 p ls acc a).w l=p.w (sq p.lb acc ls a++l))/\ ∀k,b8 p (1+k)->b8 (e1 p ls acc a) k:=by
 unfold e1 sq
 cases !ls&&(!aM [a] [32]&&aM [acc.headD 0] [10]) with
 |true=>exact⟨rfl,rfl,λ_=>aF.AC,λk h=>b8.o [p.lb] rfl h⟩
 |false=>exact⟨rfl,rfl,λ_=>rfl,λk h=>h.le (lF ..)⟩
theorem K6 {p:aF} (bs:List Nat):(j0 p bs).ind=p.ind/\(j0 p bs).lb=p.lb:=by cases bs<;>exact⟨rfl,rfl⟩
theorem ah1 {n:Nat} (h0:fp n): ∀(r pre acc:List Nat) (l:jA) (p:aF) (ln:Nat),TL l p n pre acc r->l.l.x.length<=70->(∀u,l.l.x≠u++ [32])->ie l pre.length (pre++acc).length p ln (p.w (gp p.lb (ind n) l.b l.s l.ls acc r)):=λr=>by
 induction r with
 |nil=>
  intro pre acc l p ln w _ sH
  have dw:(pre++acc).length=l.l.x.length:=w.m.len.symm
  rcases cJ l.b with ag|ag
  ·refine bT (ahZ w.m ag (w.out.le (iW (by decide) _))) λcz bw e=>ie.go e.1 (ie.fin (e.2▸tS (fh dw.symm))) ?_
   cases acc with
   |nil=>exact absurd rfl (w.MM ag rfl).2
   |cons a acc=>exact congrArg p.w (gk ag).symm
  ·rcases cJ l.s with hs|hs
   ·exact ak (w.eg ag hs) λu eT=>absurd (w.m.eq.trans (by rw[eT,dj,<-bt])) (sH (pre++u))
   ·exact bT (ah0 w.m ag hs (w.out.le (by omega))) λcz bw e=>ie.go e.1 (ie.fin (e.2▸tS (fh dw.symm))) (aF.hj.trans (congrArg p.w ((fm ag).trans (fm hs)).symm))
 |cons a r ai=>
  intro pre acc l p ln w yE sH
  have q2:=w.m.on
  have aG:=w.m.cut
  have ar:=w.out
  rw[du] at ar
  have hp:pre.length+acc.length<=70:=by have:=w.m.len;rw[bL] at this;omega
  have gr:aM [a] [32]=aa->a=32:=λh=> (gv (gL.mp h)).1
  have on:(l.b=ac->l.s=aa->aM [a] [32]=aa)->ie (l.on l.ls a l.l.c0 l.l.d) pre.length ((pre++acc).length+1) p ln (p.w (gp p.lb (ind n) (bO [a] dA) (aM [a] [32]) l.ls (acc++ [a]) r)):=λcw=>by
   rw[<-q2.2]
   exact ai pre (acc++ [a]) (l.on l.ls a l.l.c0 l.l.d) p ln ⟨q2.1,w.ind,w.col,λ_ h=>absurd h (i4 (c9 _ _)),λ_ h=> ⟨acc,by rw[gr h]⟩,ar.le (by rw[bL,du,eX];omega)⟩ yE sH
  have new: ∀(ls:Bool) (c0 d:Option ae) (q:aF) (ln:Nat),q.ind=p.ind->q.lb=p.lb->q.col<=4+(pre++acc).length->b8 q (1+5*r.length+10)->ie (l.on ls a c0 d) (pre++acc).length ((pre++acc).length+1) q ln (q.w (gp p.lb (ind n) (bO [a] dA) (aM [a] [32]) ls [a] r)):=λls c0 d q ln aq aC bz ee=>by
   rw[<-aG.2,<-aC]
   exact ai (pre++acc) [a] (l.on ls a c0 d) q ln ⟨aG.1,aq.trans w.ind,bz,λ_ h=>absurd h (c9 _ _),λ_ h=> ⟨[],by rw[gr h];rfl⟩,ee⟩ yE sH
  have cut: ∀d,ie (l.on l.ls a l.l.c0 d) (pre++acc).length ((pre++acc).length+1) ((p.cl acc.length).o [acc]) ln (p.w (acc::gp p.lb (ind n) (bO [a] dA) (aM [a] [32]) l.ls [a] r)):=λd=>
   (aF.hj (p:=p) (a:= [acc]))▸new l.ls l.l.c0 d ((p.cl acc.length).o [acc]) ln rfl rfl (by rw[bL,<-p6];exact h1 w.col _) (b8.o (p:=p) [acc] rfl (ar.le (by rw[du,eX];omega)))
  rcases cJ l.b with ag|ag
  ·rcases cJ (bO [a] dA) with aE|aE
   ·exact ie.go (ahX w.m ag aE) (on λh=>absurd (ag.symm.trans h) (by decide)) (congrArg p.w ((gk ag).trans (gk aE)).symm)
   ·refine bT (ahY h0 w.ind w.m ag aE (λh=> (w.MM ag h).1) (ar.le (by omega))) λc0 bw e=>ie.go e (new (aM [a] [32]) c0 l.l.d _ bw ?_ ?_ ?_ ?_) ?_
    ·exact(K6 acc).1.trans uQ.1
    ·exact(K6 acc).2.trans uQ.2.1
    ·exact bf (show n<=4 by rcases h0 with rfl|rfl|rfl<;>decide) (gG ..)
    ·exact b8.o [ind n] rfl (CB acc (uQ.2.2.2 _ (ar.le (by rw[du,eX];omega))))
    ·rw[K7,uQ.2.1,uQ.2.2.1]
     exact congrArg p.w ((gk ag).trans (fm aE)).symm
  ·rcases cJ l.s with hs|hs
   ·rcases cJ (aM [a] [32]) with aE|aE
    ·exact ie.go (ah2 w.m ag hs aE) (on λ_ _=>aE) (congrArg p.w ((fm ag).trans ((gk hs).trans (gk aE))).symm)
    ·exact ie.go (ah3 w.m ag hs aE ar.eA (bf w.col (by omega))) (cut _) (congrArg p.w ((fm ag).trans ((gk hs).trans (fm aE))).symm)
   ·rcases cJ (bO [a] pQ) with aE|aE
    ·exact ie.go (ah4 w.m ag hs aE ar.eA) (cut _) (congrArg p.w ((fm ag).trans ((fm hs).trans (gk aE))).symm)
    ·exact ie.go (ah5 w.m ag hs aE) (on λ_ h=>absurd (hs.symm.trans h) (by decide)) (congrArg p.w ((fm ag).trans ((fm hs).trans (fm aE))).symm)
theorem afr {p:aF} {x:List Nat} {a z y n ln:Nat} (H:wN p x a z y) (ar:b8 p (5*x.length+20)) (h0:fp n) (bj:p.ind= .int (.ofNat n)) (yE:x.length<=70) (sH: ∀u,x≠u++ [32]):
  ∃bw,aJ (Gc [.ap 10,.f (.str x)] (p.hp ln)) (.f .none) (((p.qP (mT p.ws (62::(lV p.dd a++iF x z y))) (aM (iF x z y) [43])).w (gp p.lb (ind n) aa ac aa [] x)).hp bw):=by
 delta Gc
 refine ak (Mo (c:=62) (ln:=ln) H (ar.le (HU (by decide)))) λh T=> ?_
 rw[<-T.1]
 refine ak T.2.2.2.2.2 λs q=> ?_
 rw[<-q.2]
 refine nh (ah1 h0 x [] [] ⟨⟨x,.str h,af,af,af⟩,aa,ac,aa⟩ (p.qP (mT p.ws (62::h)) (aM s [43])) (ln+1) ⟨⟨rfl⟩,bj,fu _,λ_ _=> ⟨⟨⟨rfl,rfl,rfl⟩,rfl⟩,ak H.hd λ_ aH=>aH▸c9 _ _⟩,nofun,Mq (ar.le (by rw[eX];omega))⟩ yE sH) λcz s' cM bw W=> ⟨bw, ?_⟩
 revert W
 cases hs:aM s [43] with
 |true=>exact λW=>by exact aV λ_ _ F k=>F _ _ T.2.1 T.2.2.1 _ _ T.2.2.2.1 _ q.1 aa hs _ _ (T.2.2.2.2.1 aa) _ _ W k
 |false=>exact λW=>by exact aV λ_ _ F k=>F _ _ T.2.1 T.2.2.1 _ _ T.2.2.2.1 _ q.1 ac hs _ _ (T.2.2.2.2.1 ac) _ _ W k
noncomputable abbrev mf:List Nat:= [97,10,32,98,99,100,45,101,35,102,58,103,46,124,8232,233]
def jh (dE:Bool):Bool->List Nat->Prop
 |eg,[]=>eg=ac
 |eg,c::r=>c∈mf/\(127<=c->dE=aa)/\(bO [c] dA=aa->eg=ac)/\jh dE (aM [c] [32]) r
theorem tD {q:Nat->Bool} (h:mf.all q=aa) {c:Nat} (aD:c∈mf):q c=aa:=fL.mp h c aD
structure fC where
 e1:Bool
 e2:Bool
 ij:Bool
 nR:Bool
 nS:Bool
 qD:Bool
 uR:Bool
 C7:Bool
 qE:Bool
 lQ:Bool
 sr:Bool
 u:Option ae
noncomputable def fC.zU (f:fC) (a b:Bool):fC:={f with e1:=a,e2:=b}
noncomputable def fC.s3 (f:fC):fC:={f with ij:=aa}
noncomputable def fC.km (f:fC):fC:={f with u:=ab (.f (.bool aa))}
noncomputable def fC.s4 (f:fC) (a b:Bool):fC:={f with nR:=a,uR:=b,lQ:=aa,sr:=ac}
noncomputable def fC.s5 (f:fC) (a b:Bool):fC:={f with nS:=a,qD:=b,lQ:=ac,sr:=aa}
noncomputable def fC.aea (f:fC):fC:={f with lQ:=ac,sr:=ac}
noncomputable def fC.PE (f:fC) (a b:Bool):fC:={f with C7:=a,qE:=b}
noncomputable def Je (x:List Nat) (f:fC) (n:Nat) (c:Option ae) (t:List (Nat×Option ae)):List (Nat×Option ae):=
 [(37,ab (.ap 10)),(92,ab (.f (.str x))),(244,ab (.f (.bool f.e1))),(228,ab (.f (.bool f.e2))),(174,ab (.f (.bool f.ij))),(274,ab (.f (.bool ac))),(203,ab (.f (.bool f.nR))),(202,ab (.f (.bool f.nS))),(220,ab (.f (.bool ac))),(219,ab (.f (.bool f.qD))),(169,ab (.f (.bool f.uR))),(178,ab (.f (.bool ac))),(302,ab (.f (.bool f.C7))),(300,ab (.f (.bool f.qE))),(214,ab (.f (.bool f.lQ))),(213,ab (.f (.bool f.sr))),(55,ab (.f (.int (.ofNat n)))),(6,c),(275,f.u)]++t
def r6 (x:List Nat) (p:aF) (ln:Nat) (f:fC) (n:Nat) (c:Option ae):St:=⟨Je x f n c [(242,af),(254,af),(279,af),(278,af),(167,af)],p.hp ln,[],[]⟩
def um (n:Nat):S:=n.repeat S.aO Ck
def an (n:Nat):S:=n.repeat S.aO (um 17).hd.bd
def oA (x:List Nat) (p:aF) (ln:Nat) (i:Nat) (f:fC) (n a:Nat) (eg:Bool):Prop:= ∃h5:fC,h5.lQ=eg/\ ∀(G:Prop) (K:cD->St->aB),aB.path G (bN (aI eP) (an i) (r6 x p ln f n (ab (.f (.str [a])))) K)->aB.path G (K .aQ (r6 x p ln h5 (n+1) (ab (.f (.str [a])))))
theorem oA.st {x:List Nat} {p:aF} {ln i j n a:Nat} {f f1:fC} {eg:Bool} (h:oA x p ln j f1 n a eg) (w: ∀(G:Prop) (K:cD->St->aB),aB.path G (bN (aI eP) (an i) (r6 x p ln f n (ab (.f (.str [a])))) K)->aB.path G (bN (aI eP) (an j) (r6 x p ln f1 n (ab (.f (.str [a])))) K)):oA x p ln i f n a eg:=
 ak h λh5 h=> ⟨h5,h.1,λG K F=>h.2 G K (w G K F)⟩
section
variable {x:List Nat} {p:aF} {ln n a:Nat} {G:Prop} {K:cD->St->aB} {f:fC}
theorem nH (ar:n<x.length):oA x p ln 5 f n a f.lQ:=by
 have l:decide (c1 (n+1+1)≥c1 x.length)=ac->n+1+1<x.length:=λh=>Nat.lt_of_not_le λg=>absurd (oG.mpr g) (of_decide_eq_false h)
 rcases cJ (decide (c1 (n+1+1)≥c1 x.length)) with h|h
 ·refine⟨(f.PE (bO [a] [0,32,9,13,10,133,8232,8233]) (decide (c1 (n+1+1)≥c1 x.length))),rfl,λG K F=> ?_⟩
  exact F aa h
 ·refine⟨(f.PE (bO [a] [0,32,9,13,10,133,8232,8233]) (bO [x[n+1+1]'(l h)] [0,32,9,13,10,133,8232,8233])),rfl,λG K F=> ?_⟩
  exact F ac h _ (jJ (n:=n+1+1) (nr (l h)))
theorem xy (ar:n<x.length) (gr:aM [a] [32]=aa->n+1<x.length) (ag:bO [a] dA=aa->f.lQ=ac):oA x p ln 4 f n a (aM [a] [32]):=by
 have N: ∀gr:n+1<x.length,decide (c1 n=c1 x.length-1)=ac:=λh=>decide_eq_false λh=>by have h:(n:Int)=(x.length:Int) -1:=h;omega
 rcases cJ (aM [a] [32]) with hs|hs
 ·rw[hs]
  rcases cJ (decide (c1 n=0)) with h0|h0
  ·rcases cJ f.sr with gx|gx
   ·refine(nH (f:=f.s4 aa aa) ar).st λG K F=> ?_
    exact F aa hs aa h0 ac (N (gr hs)) aa gx
   ·refine(nH (f:=f.s4 aa f.uR) ar).st λG K F=> ?_
    exact F aa hs aa h0 ac (N (gr hs)) ac gx
  ·rcases cJ f.sr with gx|gx
   ·refine(nH (f:=f.s4 f.nR aa) ar).st λG K F=> ?_
    exact F aa hs ac h0 ac (N (gr hs)) aa gx
   ·refine(nH (f:=f.s4 f.nR f.uR) ar).st λG K F=> ?_
    exact F aa hs ac h0 ac (N (gr hs)) ac gx
 rw[hs]
 rcases cJ (bO [a] dA) with aS|aS
 ·rcases cJ (decide (c1 n=0)) with h0|h0
  ·rcases cJ (decide (c1 n=c1 x.length-1)) with gx|gx
   ·refine(nH (f:=f.s5 aa aa) ar).st λG K F=> ?_
    exact F ac hs aa aS aa h0 aa gx ac (ag aS)
   ·refine(nH (f:=f.s5 aa f.qD) ar).st λG K F=> ?_
    exact F ac hs aa aS aa h0 ac gx ac (ag aS)
  ·rcases cJ (decide (c1 n=c1 x.length-1)) with gx|gx
   ·refine(nH (f:=f.s5 f.nS aa) ar).st λG K F=> ?_
    exact F ac hs aa aS ac h0 aa gx ac (ag aS)
   ·refine(nH (f:=f.s5 f.nS f.qD) ar).st λG K F=> ?_
    exact F ac hs aa aS ac h0 ac gx ac (ag aS)
 ·refine(nH (f:=f.aea) ar).st λG K F=> ?_
  exact F ac hs ac aS
def adh (a:Nat):Bool:=aM [a] [10] || ((!ek [a] [32])&&((!ek [126] [a]) || (ek [126] [a]&&((gF 127 a&&(!aM [a] [65279]))&&(aM [a] [133] || ((!ek [a] [160])&&(!ek [55295] [a])))))))
theorem Jf (ar:n<x.length) (aD:a∈mf) (eT:127<=a->p.dE=aa) (gr:aM [a] [32]=aa->n+1<x.length) (ag:bO [a] dA=aa->f.lQ=ac):oA x p ln 3 f n a (aM [a] [32]):=by
 have V:aM [a] [10] || ((!ek [a] [32])&&((!ek [126] [a]) || (ek [126] [a]&&((gF 127 a&&(!aM [a] [65279]))&&(aM [a] [133] || ((!ek [a] [160])&&(!ek [55295] [a]))))))):=tD (q:=adh) (by decide) aD
 rcases cJ (aM [a] [10]) with aq|aq
 ·refine(xy ar gr ag).st λG K F=> ?_
  exact F aa aq
 rw[aq,oC,gE,nj] at V
 rcases V.2 with bz|bz
 ·refine(xy ar gr ag).st λG K F=> ?_
  exact F ac aq aa V.1 aa bz
 rw[gE,gE,gE,nj] at bz
 have dE:=eT (cS bz.2.1.1)
 rcases cJ (aM [a] [133]) with ee|ee
 ·refine(xy (f:=f.km) ar gr ag).st λG K F=> ?_
  exact F ac aq aa V.1 _ (congrArg not bz.1) aa ee aa bz.2.1.2 aa dE
 ·rcases bz.2.2 with fE|fE
  ·exact absurd (ee.symm.trans fE) (by decide)
  rw[gE] at fE
  refine(xy (f:=f.km) ar gr ag).st λG K F=> ?_
  exact F ac aq aa V.1 _ (congrArg not bz.1) ac ee aa fE.1 aa fE.2 aa bz.2.1.2 aa dE
theorem TZ (ar:n<x.length) (aD:a∈mf) (eT:127<=a->p.dE=aa) (gr:aM [a] [32]=aa->n+1<x.length) (ag:bO [a] dA=aa->f.lQ=ac):oA x p ln 2 f n a (aM [a] [32]):=by
 rcases cJ (bO [a] dA) with aq|aq
 ·refine(Jf (f:=f.s3) ar aD eT gr ag).st λG K F=> ?_
  exact F aa aq
 ·refine(Jf ar aD eT gr ag).st λG K F=> ?_
  exact F ac aq
theorem TY (ar:n<x.length) (aD:a∈mf) (eT:127<=a->p.dE=aa) (gr:aM [a] [32]=aa->n+1<x.length) (ag:bO [a] dA=aa->f.lQ=ac) (h0:n=0->a≠58/\(a=45->f.qE=ac)):oA x p ln 1 f n a (aM [a] [32]):=by
 have k:=λf ag=>TZ (ln:=ln) (f:=f) ar aD eT gr ag
 clear gr ar eT
 rcases Nat.eq_zero_or_pos n with cG|hp
 ·have z:decide (c1 n=0)=aa:=decide_eq_true (congrArg c1 cG)
  obtain ⟨g1,g2⟩:=h0 cG
  have V:aM [a] [58] || !bO [a] [63,58]:=tD (q:=λa=>aM [a] [58] || !bO [a] [63,58]) (by decide) aD
  rw[h8 g1,oC,oD] at V
  have g3:aM [a] [45]=aa->f.qE=ac:=λh=>g2 (gv (gL.mp h)).1
  rcases cJ (bO [a] [35,44,91,93,123,125,38,42,33,124,62,39,34,37,64,96]) with aq|aq
  ·refine(k (f.zU aa aa) ag).st λG K F=> ?_
   rcases cJ (aM [a] [45]) with aC|aC
   ·exact F aa z aa aq ac V aa aC ac (g3 aC)
   ·exact F aa z aa aq ac V ac aC
  ·refine(k f ag).st λG K F=> ?_
   rcases cJ (aM [a] [45]) with aC|aC
   ·exact F aa z ac aq ac V aa aC ac (g3 aC)
   ·exact F aa z ac aq ac V ac aC
 ·have z:decide (c1 n=0)=ac:=decide_eq_false λh=>absurd (AS h) (HY hp)
  have V: !bO [a] [44,63,91,93,123,125]:=tD (q:=λa=> !bO [a] [44,63,91,93,123,125]) (by decide) aD
  rw[oD] at V
  rcases cJ (aM [a] [58]) with aq|aq
  ·have aC:aM [a] [35]=ac:=by rw[(gv (gL.mp aq)).1];rfl
   rcases cJ f.qE with bz|bz
   ·refine(k (f.zU aa aa) ag).st λG K F=> ?_
    exact F ac z ac V aa aq aa bz ac aC
   ·refine(k (f.zU f.e1 aa) ag).st λG K F=> ?_
    exact F ac z ac V aa aq ac bz ac aC
  ·rcases cJ (aM [a] [35]) with aC|aC
   ·rcases cJ f.C7 with bz|bz
    ·refine(k (f.zU aa aa) ag).st λG K F=> ?_
     exact F ac z ac V ac aq aa aC aa bz
    ·refine(k f ag).st λG K F=> ?_
     exact F ac z ac V ac aq aa aC ac bz
   ·refine(k f ag).st λG K F=> ?_
    exact F ac z ac V ac aq ac aC
theorem T1: ∀(r pre:List Nat) (f:fC) (c:Option ae),x=pre++r->jh p.dE f.lQ r->(pre= []-> ∀c ir,r=c::ir->c≠58/\(c=45->f.qE=ac))->
  ∃h5 fy f6,aJ (fa (ev (aI eP) (um 17).hd.df).t (bN (aI eP) (an 0)) (r6 x p ln f pre.length c)) .aQ (r6 x p ln h5 fy f6):=λr=>by
 induction r with
 |nil=>exact λpre f c aH _ _=> ⟨f,pre.length,c,eQ (by exact b9 λ_ _ F k=>F ac (n3 (fh ((congrArg A1 aH).trans (by rw[dj])))) k)⟩
 |cons a r ai=>
  intro pre f c aH bV h0
  have YW:x=(pre++ [a])++r:=aH.trans (by rw[bt];rfl)
  have aA:pre.length<x.length:=by rw[aH,bL,du];omega
  have N:(pre++ [a]).length=pre.length+1:=bL
  have gr:aM [a] [32]=aa->pre.length+1<x.length:=λh=>by
   cases r with
   |nil=>exact absurd (h.symm.trans bV.2.2.2) (by decide)
   |cons b r=>rw[aH,bL,du,du];omega
  refine ak (TY (p:=p) (ln:=ln) (f:=f) (n:=pre.length) aA bV.1 bV.2.1 gr bV.2.2.1 (λh=>h0 (List.length_eq_zero_iff.mp h) a r rfl)) λh5 M=>c5 (ai (pre++ [a]) h5 (ab (.f (.str [a]))) YW (M.1▸bV.2.2.2) λh=>absurd h (i4 (c9 _ _))) λW4 fy f6 RY=> ⟨W4,fy,f6,fb ?_ (N▸RY)⟩
  refine b9 λG W F k=>M.2 G (cp W) ?_ k
  exact F aa (ip aA) _ (jJ (n:=pre.length) (c:=a) (by rw[aH];exact uw))
end
noncomputable def mD (x:List Nat) (v:Bool×Bool×Bool×Bool):aj:= .inst 359 [92,49,138,242,254,279,278,167] [.str x,.bool ac,.bool v.1,.bool v.2.1,.bool v.2.2.1,.bool v.2.2.2,.bool aa,.bool aa]
def uo (x:List Nat) (p:aF) (ln:Nat) (f:fC) (n:Nat) (c:Option ae) (a b d:Bool):St:=⟨Je x f n c [(242,ab (.f (.bool a))),(254,ab (.f (.bool b))),(279,ab (.f (.bool d))),(278,ab (.f (.bool aa))),(167,ab (.f (.bool aa)))],p.hp ln,[],[]⟩
def ml (x:List Nat) (p:aF) (ln i:Nat) (σ:St):Prop:= ∃v,∀(G:Prop) (W:ae->b4->Prop),aB.path G (bN (aI eP) (um i) σ (kh W))->(W (.f (mD x v)) (p.hp ln)->G)
theorem ml.st {x:List Nat} {p:aF} {ln i j:Nat} {σ σ':St} (h:ml x p ln j σ') (w: ∀(G:Prop) (W:ae->b4->Prop),aB.path G (bN (aI eP) (um i) σ (kh W))->aB.path G (bN (aI eP) (um j) σ' (kh W))):ml x p ln i σ:=
 ak h λv h=> ⟨v,λG W F=>h G W (w G W F)⟩
section
variable {x:List Nat} {p:aF} {ln n a:Nat} {f:fC} {c:Option ae} {g1 g2 g3:Bool}
theorem Jt:ml x p ln 29 (uo x p ln f n c g1 g2 g3):=by
 rcases cJ f.e1 with h|h
 ·refine⟨⟨f.ij,g1,ac,g3⟩,λG W F k=> ?_⟩
  exact F aa h _ _ (hR rfl rfl) k
 ·refine⟨⟨f.ij,g1,g2,g3⟩,λG W F k=> ?_⟩
  exact F ac h _ _ (hR rfl rfl) k
theorem Js:ml x p ln 28 (uo x p ln f n c g1 g2 g3):=by
 rcases cJ f.e2 with h|h
 ·refine(Jt (f:=f) (n:=n) (c:=c) (g1:=ac) (g2:=g2) (g3:=g3)).st λG W F=> ?_
  exact F aa h
 ·refine(Jt (f:=f) (n:=n) (c:=c) (g1:=g1) (g2:=g2) (g3:=g3)).st λG W F=> ?_
  exact F ac h
theorem Jr:ml x p ln 27 (uo x p ln f n c g1 g2 g3):=by
 rcases cJ f.ij with h|h
 ·refine(Js (f:=f) (n:=n) (c:=c) (g1:=ac) (g2:=ac) (g3:=g3)).st λG W F=> ?_
  exact F aa h
 ·refine(Js (f:=f) (n:=n) (c:=c) (g1:=g1) (g2:=g2) (g3:=g3)).st λG W F=> ?_
  exact F ac h
theorem xD:ml x p ln 25 (uo x p ln f n c g1 g2 g3):=by
 rcases cJ f.uR with h|h
 ·refine(Jr (f:=f) (n:=n) (c:=c) (g1:=ac) (g2:=ac) (g3:=ac)).st λG W F=> ?_
  exact F aa h ac rfl ac rfl
 ·refine(Jr (f:=f) (n:=n) (c:=c) (g1:=g1) (g2:=g2) (g3:=g3)).st λG W F=> ?_
  exact F ac h ac rfl ac rfl
theorem Ue:ml x p ln 23 (uo x p ln f n c g1 g2 g3):=by
 rcases cJ f.nR with h|h
 ·refine(xD (f:=f) (n:=n) (c:=c) (g1:=ac) (g2:=ac) (g3:=g3)).st λG W F=> ?_
  exact F aa h ac rfl
 rcases cJ f.nS with aq|aq
 ·refine(xD (f:=f) (n:=n) (c:=c) (g1:=ac) (g2:=ac) (g3:=g3)).st λG W F=> ?_
  exact F ac h aa aq ac rfl
 rcases cJ f.qD with aC|aC
 ·refine(xD (f:=f) (n:=n) (c:=c) (g1:=ac) (g2:=ac) (g3:=g3)).st λG W F=> ?_
  exact F ac h ac aq ac rfl aa aC ac rfl
 ·refine(xD (f:=f) (n:=n) (c:=c) (g1:=g1) (g2:=g2) (g3:=g3)).st λG W F=> ?_
  exact F ac h ac aq ac rfl ac aC ac rfl
def Jd (x:List Nat) (p:aF) (ln:Nat) (b:Bool) (u v:Option ae):St:=⟨[(37,ab (.ap 10)),(92,ab (.f (.str x))),(244,ab (.f (.bool b))),(228,ab (.f (.bool b))),(174,ab (.f (.bool ac))),(274,ab (.f (.bool ac))),(203,ab (.f (.bool ac))),(202,ab (.f (.bool ac))),(220,ab (.f (.bool ac))),(219,ab (.f (.bool ac))),(169,ab (.f (.bool ac))),(178,ab (.f (.bool ac))),(302,u),(300,v),(214,af),(213,af),(55,af),(6,af),(275,af),(242,af),(254,af),(279,af),(278,af),(167,af)],p.hp ln,[],[]⟩
theorem Jq {b v:Bool} (bV:jh p.dE ac x) (h0: ∀c ir,x=c::ir->c≠58/\(c=45->v=ac)):ml x p ln 14 (Jd x p ln b (ab (.f (.bool aa))) (ab (.f (.bool v)))):=by
 refine c5 (T1 (x:=x) (p:=p) (ln:=ln) x [] ⟨b,b,ac,ac,ac,ac,ac,aa,v,ac,ac,af⟩ af rfl bV λ_=>h0) λf n c L=> (Ue (f:=f) (n:=n) (c:=c) (g1:=aa) (g2:=aa) (g3:=aa)).st λG W F=> ?_
 exact F _ _ L
theorem Ud {b:Bool} {be:List Nat} (bV:jh p.dE ac (a::be)) (h0:a≠58/\(a=45-> ∃r,be=45::r)):ml (a::be) p ln 12 (Jd (a::be) p ln b af af):=by
 cases be with
 |nil=>
  refine(Jq (x:= [a]) (b:=b) (v:=aa) bV ?_).st λG W F=> ?_
  ·exact λc ir e=> ⟨(gv e).1▸h0.1,λh=>ak (h0.2 ((gv e).1.trans h)) λr h=>nomatch h⟩
  exact F aa rfl
 |cons d r=>
  refine(Jq (x:=a::d::r) (b:=b) (v:=bO [d] [0,32,9,13,10,133,8232,8233]) bV ?_).st λG W F=> ?_
  ·exact λc ir e=> ⟨(gv e).1▸h0.1,λh=>ak (h0.2 ((gv e).1.trans h)) λr h=>by rw[(gv h).1];rfl⟩
  exact F ac rfl _ rfl
theorem aeE {be:List Nat} (bV:jh p.dE ac (a::be)) (h0:a≠58/\(a=45-> ∃r,be=45::r)): ∃v,aJ (FX [.ap 10,.f (.str (a::be))] (p.hp ln)) (.f (mD (a::be) v)) (p.hp ln):=by
 delta FX
 have T:=λb=>Ud (b:=b) (ln:=ln) bV h0
 rcases cJ (pre [45,45,45] (a::be)) with h|h
 ·refine ak (T aa) λv T=> ⟨v,aV λG W F k=>T G W ?_ k⟩
  exact F aa rfl aa h
 rcases cJ (pre [46,46,46] (a::be)) with aq|aq
 ·refine ak (T aa) λv T=> ⟨v,aV λG W F k=>T G W ?_ k⟩
  exact F aa rfl ac h aa aq
 ·refine ak (T ac) λv T=> ⟨v,aV λG W F k=>T G W ?_ k⟩
  exact F aa rfl ac h ac aq
end
structure jz (dE:Bool) (x:List Nat):Prop where
 hd: ∃a be,x=a::be/\a≠58/\(a=45-> ∃r,be=45::r)
 ok:jh dE ac x
 le:x.length<=12
theorem Pb {dE:Bool}: ∀(x:List Nat) (eg:Bool),jh dE eg x-> ∀u,x≠u++ [32]:=λx=>by
 induction x with
 |nil=>exact λ_ _ u h=>absurd (RF.mp h.symm).2 (c9 _ _)
 |cons c r ai=>
  intro eg h u e
  cases u with
  |nil=>
   have e:=gv e
   have h:=h.2.2.2
   rw[e.1,e.2] at h
   exact absurd (show aM [32] [32]=ac from h) (by decide)
  |cons a u=>exact ai _ h.2.2.2 u (gv e).2
theorem Zv (be:List Nat): ∀a,gd (a::be) (-1)=ab ((a::be).getLastD 0):=λa=>by
 show(match gF 1 (be.length+1) with
  |true=> (a::be)[be.length+1-1]?
  |false=>af)=_
 rw[mq (lF 1 _)]
 show(a::be)[be.length+1-1]? =_
 rw[RM,R0]
 induction be generalizing a with
 |nil=>rfl
 |cons b r ai=>
  rw[RM]
  exact ai b
theorem Zw {a:Nat} {be:List Nat} (aA:(a::be).length≠1):gd (a::be) (-2)=ab ((a::be).getD ((a::be).length-2) 0):=by
 cases be with
 |nil=>exact absurd rfl aA
 |cons b r=>
  show(match gF 2 (r.length+1+1) with
   |true=> (a::b::r)[r.length+1+1-2]?
   |false=>af)=_
  rw[mq (lF 2 _)]
  show(a::b::r)[r.length]? =ab ((a::b::r)[r.length]?.getD 0)
  rw[nr (p7 (nt _) (kx _):r.length<r.length+1+1)]
  rfl
def f7 (x:List Nat):List Nat:=iF x (x.getLastD 0) (x.getD (x.length-2) 0)
def dI (n:Nat) (x:List Nat):List Nat:=lV n (x.headD 0)
def yh (fold:Bool) (lb:List Nat) (n:Nat) (x:List Nat):List (List Nat):=cond fold (gp lb (ind n) aa ac aa [] x) (h9 lb (ind n) aa [] x)
def kj (ws fold:Bool) (lb:List Nat) (n:Nat) (x:List Nat):List (List Nat):=mT ws (bJ fold::(dI n x++f7 x))::lb::yh fold lb n x
noncomputable def aF.vF (p:aF):aF:={p with hk:=ac,ind:= .int (.ofNat p.dd)}
noncomputable def aF.as (p:aF) (a s:aj):aF:={p with an:=a,ro:=s}
theorem afg {p:aF} {x:List Nat} {fold:Bool} {ln:Nat} {v:Bool×Bool×Bool×Bool} (aH:jz p.dE x) (ar:b8 p 100) (h0:fp p.dd):
  ∃bw,aJ (Ga [.ap 10] ((p.vF.as (mD x v) (.str [bJ fold])).hp ln)) (.f .none) ((((p.vF.eJ (aM (f7 x) [43])).w (kj p.ws fold p.lb p.dd x)).as .none .none).hp bw):=by
 refine bT aH.hd λa be h=> ?_
 have H: ∀s,wN (p.vF.as (mD x v) s) x a (x.getLastD 0) (x.getD (x.length-2) 0):=λ_=> ⟨h0,⟨be,h.1⟩,h.1▸Zv be a,h.1▸Zw⟩
 have e:dI p.dd x=lV p.dd a:=by rw[h.1];rfl
 have ar:b8 p (5*x.length+20):=ar.le (by have:=aH.le;omega)
 delta Ga
 unfold kj
 rw[e]
 cases fold with
 |true=>
  refine ak (afr (p:=p.vF.as (mD x v) (.str [62])) (n:=p.dd) (ln:=ln) (H _) ar h0 rfl (bf aH.le (by decide)) (Pb x _ aH.ok)) λbw W=> ⟨bw, ?_⟩
  rw[aF.Mp] at W
  exact aV λ_ _ F k=>F ac rfl ac rfl ac rfl ac rfl ac rfl aa rfl _ _ W k
 |false=>
  refine ak (afs (p:=p.vF.as (mD x v) (.str [124])) (n:=p.dd) (ln:=ln) (H _) (ar.le (fW (Nat.mul_le_mul_right _ (by decide)) (by decide))) h0 rfl) λbw W=> ⟨bw, ?_⟩
  rw[aF.Mp] at W
  exact aV λ_ _ F k=>F ac rfl ac rfl ac rfl ac rfl ac rfl ac rfl aa rfl _ _ W k
abbrev eU (x:List Nat) (fold:Bool):aj:= .inst 280 [76,19,120,71,158,117,68] [.none,.none,.tup [.bool aa,.bool aa],.str x,.none,.none,.str [bJ fold]]
noncomputable def aF.gB (p:aF):aF:={p with ind:= .none,DS:= [],fA:= [],an:= .none,ro:= .none}
noncomputable def aF.di (p:aF) (e:aj):aF:={p with ev:=e}
noncomputable def aF.iM (p:aF):aF:={p with root:=aa,seq:=ac,map:=ac,hk:=ac}
noncomputable def aF.aQ (p:aF) (n:Nat):aF:={p with st:= .dy 10 n}
noncomputable def aF.tt (p:aF) (i:aj) (is ss:List ae):aF:={p with ind:=i,DS:=is,fA:=ss}
section
variable {p:aF} {x:List Nat} {fold:Bool} {ln:Nat}
theorem afm (aH:jz p.dE x): ∃v,aJ (FZ [.ap 10] ((((p.di (eU x fold)).iM.as .none .none)).hp ln)) (.f (.str [bJ fold])) (((p.di (eU x fold)).iM.as (mD x v) .none).hp ln):=by
 delta FZ
 refine bT aH.hd λa be h=> ?_
 have ok:=aH.ok
 rw[h.1] at ok⊢
 refine ak (aeE (p:=(p.di (eU (a::be) fold)).iM.as .none .none) (ln:=ln) ok h.2) λv A=> ⟨v, ?_⟩
 cases fold with
 |true=>exact aV λ_ _ F k=>F aa rfl _ _ A ac rfl ac rfl aa rfl aa rfl aa rfl ac rfl ac rfl aa rfl k
 |false=>exact aV λ_ _ F k=>F aa rfl _ _ A ac rfl ac rfl aa rfl aa rfl aa rfl ac rfl ac rfl aa rfl k
theorem afi (aH:jz p.dE x): ∃v,aJ (Gb [.ap 10] ((((p.di (eU x fold)).iM.as .none .none)).hp ln)) (.f .none) (((p.di (eU x fold)).iM.as (mD x v) (.str [bJ fold])).hp ln):=by
 delta Gb
 refine ak (afm (fold:=fold) (ln:=ln) aH) λv A=> ⟨v, ?_⟩
 cases fold with
 |true=>exact aV λ_ _ F k=>F aa rfl aa rfl _ _ A ac rfl ac rfl aa rfl _ rfl aa rfl k
 |false=>exact aV λ_ _ F k=>F aa rfl aa rfl _ _ A ac rfl ac rfl aa rfl _ rfl aa rfl k
theorem ae1:aJ (F5 [.ap 10,.f (.bool aa),.f (.bool ac)] ((p.tt .none [] [.dy 10 451]).hp ln)) (.f .none) ((p.tt (.int (.ofNat p.dd)) [.f .none] [.dy 10 451]).hp ln):=by
 delta F5
 exact aV λ_ _ F k=>F rfl aa rfl aa rfl k
theorem aeF:aJ (F9 [.ap 10,.f (.str [38])] ((p.di (eU x fold)).hp ln)) (.f .none) ((p.di (eU x fold)).hp ln):=by
 delta F9
 exact aV λ_ _ F k=>F aa rfl k
theorem WE {v:Bool×Bool×Bool×Bool} (aH:jz p.dE x) (ar:b8 p 100) (h0:fp p.dd):
  ∃bw,aJ (F3 [.ap 10] (((((p.di (eU x fold)).iM).tt .none [] [.dy 10 451]).as (mD x v) (.str [bJ fold])).hp ln)) (.f .none) (((((((p.di (eU x fold)).iM).tt .none [] []).aQ 451).eJ (aM (f7 x) [43])).w (kj p.ws fold p.lb p.dd x)).as .none .none|>.hp bw):=by
 delta F3
 exact ak (afg (p:=((p.di (eU x fold)).iM).tt .none [.f .none] [.dy 10 451]) (v:=v) (fold:=fold) (ln:=ln) aH ar h0) λbw A=> ⟨bw,by exact aV λ_ _ F k=>F _ _ (ae1 (p:=(((p.di (eU x fold)).iM).as (mD x v) (.str [bJ fold])))) _ _ A _ rfl rfl _ rfl rfl k⟩
theorem WD (aH:jz p.dE x) (ar:b8 p 100) (h0:fp p.dd):
  ∃bw,aJ (F2 [.ap 10,.f (.bool aa),.f (.bool ac),.f (.bool ac),.f (.bool ac)] ((((p.di (eU x fold)).tt .none [] [.dy 10 451]).as .none .none).hp ln)) (.f .none) (((((((p.di (eU x fold)).iM).tt .none [] []).aQ 451).eJ (aM (f7 x) [43])).w (kj p.ws fold p.lb p.dd x)).as .none .none|>.hp bw):=by
 delta F2
 refine ak (afi (p:=p.tt .none [] [.dy 10 451]) (fold:=fold) (ln:=ln) aH) λv A=>ak (WE (v:=v) (fold:=fold) (ln:=ln) aH ar h0) λbw B=> ⟨bw, ?_⟩
 exact aV λ_ _ F k=>F ac rfl aa rfl _ _ (aeF (p:=((p.iM).tt .none [] [.dy 10 451]).as .none .none)) _ _ A aa rfl _ _ B k
theorem LK (aH:jz p.dE x) (ar:b8 p 100) (h0:fp p.dd):
  ∃bw,aJ (Ai [.ap 10] ((p.gB.di (eU x fold)).hp ln)) (.f .none) ((((((p.gB.di (eU x fold)).iM).aQ 451).eJ (aM (f7 x) [43])).w (kj p.ws fold p.lb p.dd x)).hp bw):=by
 delta Ai
 exact ak (WD (p:=p.gB) (fold:=fold) (ln:=ln) aH ar h0) λbw A=> ⟨bw,by exact aV λ_ _ F k=>F rfl _ _ A k⟩
end
theorem PQ {h:List Nat} {hp:b4} (cw:h= [33]\/h= [33,101,33]):aJ (F6 [.ap 10,.f (.str h)] hp) (.f (.str h)) hp:=by
 delta F6
 rcases cw with rfl|rfl
 ·exact aV λ_ _ F k=>F aa rfl _ rfl ac rfl _ rfl ac rfl _ rfl _ _ (λK k=>k) k
 ·exact aV λ_ _ F k=>F aa rfl _ rfl ac rfl _ rfl ac rfl _ rfl _ _ (λK k=>k) k
def Po:S:=Cp.aO.aO.aO.aO.hd
noncomputable def oe (x:List Nat) (hp:b4) (n:Nat) (c:Option ae):St:=⟨[(37,ab (.ap 10)),(91,ab (.f (.str x))),(80,ab (.ap 100)),(66,ab (.f (.int 0))),(9,ab (.f (.int n))),(6,c),(23,af)],hp,[(100,.list [])],[100]⟩
def Fl:St->(cD->St->Prop)->Prop:=fa (ev (aI []) Po.df).t (bN (aI []) Po.bd)
theorem Fm {hp:b4}:aJ (Fl (oe [33,120] hp 1 af)) .aQ (oe [33,120] hp 2 (ab (.f (.str [120]))))/\aJ (Fl (oe [33,121] hp 1 af)) .aQ (oe [33,121] hp 2 (ab (.f (.str [121]))))/\aJ (Fl (oe [116] hp 0 af)) .aQ (oe [116] hp 1 (ab (.f (.str [116])))):=
 ⟨fb (by exact b9 λ_ _ F k=>F aa rfl _ rfl aa rfl ac rfl aa rfl ac rfl aa rfl aa rfl k) (eQ (σ:=oe [33,120] hp 2 (ab (.f (.str [120])))) (by exact b9 λ_ _ F k=>F ac rfl k)),fb (by exact b9 λ_ _ F k=>F aa rfl _ rfl aa rfl ac rfl aa rfl ac rfl aa rfl aa rfl k) (eQ (σ:=oe [33,121] hp 2 (ab (.f (.str [121])))) (by exact b9 λ_ _ F k=>F ac rfl k)),fb (by exact b9 λ_ _ F k=>F aa rfl _ rfl aa rfl ac rfl aa rfl ac rfl aa rfl aa rfl k) (eQ (σ:=oe [116] hp 1 (ab (.f (.str [116])))) (by exact b9 λ_ _ F k=>F ac rfl k))⟩
theorem PR {x:List Nat} {hp:b4} (cw:x= [33,120]\/x= [33,121]\/x= [116]):aJ (F7 [.ap 10,.f (.str x)] hp) (.f (.str x)) hp:=by
 delta F7
 rcases cw with rfl|rfl|rfl
 ·exact aV λ_ _ F k=>F aa rfl _ rfl _ rfl aa rfl _ _ Fm.1 aa rfl _ rfl rfl _ rfl (cS rfl) k
 ·exact aV λ_ _ F k=>F aa rfl _ rfl _ rfl aa rfl _ _ Fm.2.1 aa rfl _ rfl rfl _ rfl (cS rfl) k
 ·exact aV λ_ _ F k=>F aa rfl _ rfl _ rfl ac rfl _ _ Fm.2.2 aa rfl _ rfl rfl _ rfl (cS rfl) k
noncomputable def eE (h x:List Nat):List Nat:= [37,84,65,71,32]++(h++(32::x))
theorem aft {p:aF} {h x:List Nat} {ln:Nat} (aA:h.length<=10/\x.length<=10) (ar:b8 p 2):aJ (Ge [.ap 10,.f (.str h),.f (.str x)] (p.hp ln)) (.f .none) ((p.w [eE h x,p.lb]).hp (ln+1)):=by
 delta Ge
 rw[<-show(p.o [eE h x]).w [p.lb]=p.w [eE h x,p.lb] from aF.hj]
 exact aV λ_ _ F k=>F ⟨bf aA.1 (by decide),bf aA.2 (by decide)⟩ _ _ (kL (p:=p) (x:=eE h x) ar.eA) _ _ (oi (p:=p.o [eE h x]) (b8.eA (b8.o (p:=p) (k:=1) [eE h x] rfl ar))) k
def vQ (d:Nat):List Nat:= [37,89,65,77,76,32]++(49::46::dv d)
theorem afu {p:aF} {x:List Nat} {ln:Nat} (aA:x.length<=10) (ar:b8 p 2):aJ (Gf [.ap 10,.f (.str x)] (p.hp ln)) (.f .none) ((p.w [[37,89,65,77,76,32]++x,p.lb]).hp (ln+1)):=by
 delta Gf
 rw[<-show(p.o [[37,89,65,77,76,32]++x]).w [p.lb]=p.w [[37,89,65,77,76,32]++x,p.lb] from aF.hj]
 exact aV λ_ _ F k=>F (bf aA (by decide)) _ _ (kL (p:=p) (x:= [37,89,65,77,76,32]++x) ar.eA) _ _ (oi (p:=p.o [[37,89,65,77,76,32]++x]) (b8.eA (b8.o (p:=p) (k:=1) [[37,89,65,77,76,32]++x] rfl ar))) k
theorem afj {d:Nat} {hp:b4} (hd:d<12):aJ (F8 [.ap 10,.f (me d)] hp) (.f (.str (49::46::dv d))) hp:=by
 delta F8
 exact aV λ_ _ F k=>F ac rfl ⟨by decide,p7 hd (by decide)⟩ k
def kn (lb:List Nat):eH->List (List Nat)
 | .no=> []
 | .one=> [eE [33,101,33] [33,120],lb]
 | .two=> [eE [33] [33,121],lb,eE [33,101,33] [116],lb]
def jo (lb:List Nat):Option Nat->List (List Nat)
 |none=> []
 |some d=> [vQ d,lb]
noncomputable def fR (lb:List Nat) (b:Bool):List (List Nat):=cond b [[46,46,46],lb] []
noncomputable def gZ (v:Option Nat) (t:eH):Bool:=match v,t with
 |none,.no=>aa
 |_,_=>ac
def pn (dW:Bool) (lb:List Nat) (v:Option Nat) (t:eH):List (List Nat):=fR lb (dW&& !gZ v t)++(jo lb v++kn lb t)
noncomputable def L1:Option cb->b4
 |none=> []
 |some D=> [(16,D)]
noncomputable def L2:Option cb->Nat
 |none=>16
 |some _=>17
noncomputable def jM:List (List Nat)×List ae:=([[33],[116,97,103,58,121,97,109,108,46,111,114,103,44,50,48,48,50,58]],[.f (.str [33]),.f (.str [33,33])])
def aF.f0 (p:aF) (f:Option cb):aF:={p with r:=L1 f}
def aF.f1 (p:aF) (f:Option cb) (D:List (List Nat)×List ae):aF:={p with d2:= .ap (L2 f),r:=L1 f++ [(L2 f,.dict D.1 D.2)]}
structure kq where
 f:Bool
 b:Bool
 v:Option Nat
 t:eH
 x:List Nat
 fold:Bool
def aF.eC (p:aF) (i:kq):aF:={p with ws:=aa,iI:=aa,col:=0,ind:= .none,ev:=gU .none .none i.b (c4 i.v) i.t.bI,yn:= [.f (eU i.x i.fold)]}
structure jT where
 a:Option ae
 b:Option ae
 c:Option ae
 d:Option ae
 e:Option ae
 g:Option ae
 z:Option ae
def ht (i:kq) (o:jT) (p:aF) (ln:Nat):St:=⟨[(37,ab (.ap 10)),(51,ab (.f (.bool i.f))),(192,o.a),(105,o.b),(87,o.c),(91,o.d),(173,o.e),(176,o.g),(120,o.z)],(p.eC i).hp ln,[],[]⟩
def C4 (n:Nat):S:=n.repeat S.aO Co.hd.bd
def p0 (n:Nat) (σ σ':St):Prop:= ∀(G:Prop) (K:cD->St->aB),aB.path G (bN (aI dr) (C4 n).hd σ K)->aB.path G (K .aQ σ')
section
variable {p:aF} {i:kq} {o:jT} {ln:Nat}
theorem aF.Fb {p:aF} {a b:List (List Nat)}:(p.o a).o b=p.o (a++b):=congrArg (aF.mk _ _ _ _ _ _ _ _ _ _ _ _ _ _ _ _ _ _ _ _ · _ _) ((bt p.out _ _).trans (congrArg (p.out++ ·) (h4 a b).symm))
theorem aF.o0 {p:aF}:p.o []=p:=congrArg (aF.mk _ _ _ _ _ _ _ _ _ _ _ _ _ _ _ _ _ _ _ _ · _ _) (dj _)
def aF.j5 (p:aF) (b:Bool):aF:=(p.eJ (p.dW&&b)).o (fR p.lb (p.dW&& !b))
theorem VE (ar:b8 p 100): ∃bw,p0 0 (ht i o p ln) (ht i o (p.j5 (gZ i.v i.t)) bw):=by
 have I:=vS (p:=p.eC i) (x:= [46,46,46]) (ln:=ln) ar.eA (by decide)
 have L:=PV (p:=(p.eC i).kG [46,46,46]) (ln:=ln) (b8.eA (b8.o (p:=p) (k:=1) [[46,46,46]] rfl (ar.le (by decide)))) rfl rfl
 rw[show((p.eC i).kG [46,46,46]).w [((p.eC i).kG [46,46,46]).lb]=((p.eJ ac).o [[46,46,46],p.lb]).eC i from congrArg (aF.mk _ _ _ _ _ _ _ _ _ _ _ _ _ _ _ _ _ _ _ _ · _ _) (bt ..)] at L
 have N: ∀c,p.dW=c->p0 0 (ht i o p ln) (ht i o p ln)-> ∃bw,p0 0 (ht i o p ln) (ht i o ((p.eJ c).o []) bw):=λc h d=> ⟨ln,by rw[aF.o0,<-h];exact d⟩
 obtain ⟨f,b,v,t,x,fold⟩:=i
 unfold aF.j5
 rcases cJ p.dW with h|h
 ·rw[h]
  cases v with
  |none=>cases t with
   |no=>
    exact N _ h λG K F=>by exact F ac rfl ac rfl
   |one=>exact⟨ln+1,λG K F=>by exact F ac rfl rfl aa rfl aa h _ _ I _ _ L⟩
   |two=>exact⟨ln+1,λG K F=>by exact F ac rfl rfl aa rfl aa h _ _ I _ _ L⟩
  |some d=>exact⟨ln+1,λG K F=>by exact F rfl aa rfl aa h _ _ I _ _ L⟩
 ·rw[h]
  refine N _ h λG K F=> ?_
  cases v with
  |none=>cases t with
   |no=>exact F ac rfl ac rfl
   |one=>exact F ac rfl rfl aa rfl ac h
   |two=>exact F ac rfl rfl aa rfl ac h
  |some d=>exact F rfl aa rfl ac h
theorem VF (ar:b8 p 100) (aW: ∀d,i.v=ab d->d<12): ∃bw ef,p0 1 (ht i o p ln) (ht i ef (p.o (jo p.lb i.v)) bw):=by
 obtain ⟨f,b,v,t,x,fold⟩:=i
 cases v with
 |none=>
  refine⟨ln,o,λG K F=> ?_⟩
  rw[show p.o (jo p.lb af)=p from aF.o0]
  exact F ac rfl
 |some d=>
  refine⟨ln+1,⟨ab (.f (.str (49::46::dv d))),o.b,o.c,o.d,o.e,o.g,o.z⟩,λG K F=> ?_⟩
  have dl:(49::46::dv d).length<=10:=by unfold dv;cases d4 d 10<;>exact cS rfl
  exact F rfl aa rfl _ _ (afj (aW d rfl)) _ _ (afu (p:=p.eC ⟨f,b,ab d,t,x,fold⟩) dl (ar.le (by decide)))
theorem VG {fr:Option cb}:p0 2 (ht i o (p.f0 fr) ln) (ht i o (p.f1 fr jM) ln):=λG K F=>by
 cases fr with
 |none=>exact F _ rfl rfl
 |some D=>exact F _ rfl rfl
noncomputable def jT.v (o:jT) (h:List Nat):jT:=⟨o.a,o.b,ab (.f (.str h)),o.d,o.e,o.g,o.z⟩
noncomputable def jT.w (o:jT) (h z:List Nat):jT:=⟨o.a,o.b,ab (.f (.str h)),ab (.f (.str z)),ab (.f (.str h)),ab (.f (.str z)),o.z⟩
def C3:S:=(C4 3).hd.bd.aO.hd.bd
theorem VK {fr:Option cb} {h z:List Nat} {D:List (List Nat)×List ae} (ar:b8 p 100) (cw:h= [33]\/h= [33,101,33]) (cG:z= [33,120]\/z= [33,121]\/z= [116]) (bj: ∀σ,mU (.f i.t.bI) (.f (.str h)) σ=ab (.f (.str z))) (aA:cm D.2=aa):
  aJ (jC (bN (aI dr) C3) (ht i (o.v h) (p.f1 fr D) ln)) af (ht i (o.w h z) ((p.f1 fr (fX z (.f (.str h)) D.1 D.2)).o [eE h z,p.lb]) (ln+1)):=by
 have W:=aft (p:=(p.f1 fr (fX z (.f (.str h)) D.1 D.2)).eC i) (ln:=ln) (h:=h) (x:=z) ⟨by rcases cw with rfl|rfl<;>decide,by rcases cG with rfl|rfl|rfl<;>decide⟩ (ar.le (by decide))
 cases fr with
 |none=>exact gT λ_ _ F k=>F _ (bj _) aA _ _ (PQ cw) _ _ (PR cG) _ _ W k
 |some D=>exact gT λ_ _ F k=>F _ (bj _) aA _ _ (PQ cw) _ _ (PR cG) _ _ W k
theorem C5 {fr:Option cb} {h z:List Nat} {cz:List ae} {D:List (List Nat)×List ae} {wz:cD} {σ':St} (ar:b8 p 100) (cw:h= [33]\/h= [33,101,33]) (cG:z= [33,120]\/z= [33,121]\/z= [116]) (bj: ∀σ,mU (.f i.t.bI) (.f (.str h)) σ=ab (.f (.str z))) (aA:cm D.2=aa)
  (k:aJ (gW 87 (bN (aI dr) C3) cz (ht i (o.w h z) ((p.f1 fr (fX z (.f (.str h)) D.1 D.2)).o [eE h z,p.lb]) (ln+1))) wz σ'):aJ (gW 87 (bN (aI dr) C3) (.f (.str h)::cz) (ht i o (p.f1 fr D) ln)) wz σ':=
 k9 (σ:=ht i o (p.f1 fr D) ln) (VK ar cw cG bj aA) k
noncomputable def yb (o:jT) (ks:List aj):jT:=⟨o.a,ab (.f (.lst ks)),o.c,o.d,o.e,o.g,o.z⟩
theorem VH {fr:Option cb} (ar:b8 p 200): ∃bw ef D,p0 3 (ht i o (p.f1 fr jM) ln) (ht i ef ((p.f1 fr D).o (kn p.lb i.t)) bw):=by
 obtain ⟨f,b,v,t,x,fold⟩:=i
 cases t with
 |no=>
  refine⟨ln,o,jM,λG K F=> ?_⟩
  rw[show(p.f1 fr jM).o (kn p.lb eH.no)=p.f1 fr jM from aF.o0]
  exact F ac rfl
 |one=>
  have L:=C5 (i:=⟨f,b,v,.one,x,fold⟩) (o:=yb o [.str [33,101,33]]) (p:=p) (ln:=ln) (fr:=fr) (D:=jM) (ar.le (by decide)) (cW rfl) (d5 rfl) (λ_=>rfl) rfl la
  refine⟨ln+1,(yb o [.str [33,101,33]]).w [33,101,33] [33,120],fX [33,120] (.f (.str [33,101,33])) jM.1 jM.2,λG K F=> ?_⟩
  cases fr with
  |none=>exact F rfl aa rfl rfl _ _ L
  |some D=>exact F rfl aa rfl rfl _ _ L
 |two=>
  have tM:=λp o h ln=>C5 (i:=⟨f,b,v,.two,x,fold⟩) (o:=o) (p:=p) (ln:=ln) (fr:=fr) (D:=fX [33,121] (.f (.str [33])) jM.1 jM.2) h (cW rfl) (cW (cW rfl)) (λ_=>rfl) rfl la
  have L:=C5 (i:=⟨f,b,v,.two,x,fold⟩) (o:=yb o [.str [33],.str [33,101,33]]) (p:=p) (ln:=ln) (fr:=fr) (D:=jM) (ar.le (by decide)) (d5 rfl) (cW (d5 rfl)) (λ_=>rfl) rfl (tM (p.o [eE [33] [33,121],p.lb]) _ (b8.o (p:=p) (k:=100) [eE [33] [33,121],p.lb] rfl (ar.le (cS rfl))) _)
  refine⟨ln+1+1,((yb o [.str [33],.str [33,101,33]]).w [33] [33,121]).w [33,101,33] [116],fX [116] (.f (.str [33,101,33])) (fX [33,121] (.f (.str [33])) jM.1 jM.2).1 (fX [33,121] (.f (.str [33])) jM.1 jM.2).2,λG K F=> ?_⟩
  rw[<-show∀D,((p.o [eE [33] [33,121],p.lb]).f1 fr D).o [eE [33,101,33] [116],p.lb]=(p.f1 fr D).o (kn p.lb .two) from λD=>aF.Fb (p:=p.f1 fr D) (a:= [eE [33] [33,121],p.lb]) (b:= [eE [33,101,33] [116],p.lb])]
  cases fr with
  |none=>exact F rfl aa rfl rfl _ _ L
  |some D=>exact F rfl aa rfl rfl _ _ L
noncomputable def jT.u (o:jT) (c:Bool):jT:=⟨o.a,o.b,o.c,o.d,o.e,o.g,ab (.f (.bool c))⟩
def kq.im (i:kq):Bool:=i.f&&(!i.b&&gZ i.v i.t)
theorem VI (aH:i.x≠ []):p0 4 (ht i o p ln) (ht i (o.u i.im) p ln):=λG K F=>by
 obtain ⟨f,b,v,t,x,fold⟩:=i
 cases x with
 |nil=>exact absurd rfl aH
 |cons a x=>
  cases f with
  |false=>exact F ac rfl
  |true=>cases b with
   |true=>exact F aa rfl aa rfl ac rfl
   |false=>cases v with
    |some d=>exact F aa rfl ac rfl aa rfl ac rfl aa rfl rfl aa rfl ac rfl
    |none=>cases t with
     |one=>exact F aa rfl ac rfl aa rfl ac rfl aa rfl ac rfl aa rfl rfl aa rfl ac rfl
     |two=>exact F aa rfl ac rfl aa rfl ac rfl aa rfl ac rfl aa rfl rfl aa rfl ac rfl
     |no=>
      have E:aJ (FY [.ap 10] ((p.eC ⟨aa,ac,af,.no,a::x,fold⟩).hp ln)) (.f (.bool ac)) ((p.eC ⟨aa,ac,af,.no,a::x,fold⟩).hp ln):=by
       delta FY
       exact aV λ_ _ F k=>F aa rfl rfl aa rfl _ rfl aa rfl aa rfl aa rfl rfl aa rfl k
      exact F aa rfl ac rfl aa rfl ac rfl aa rfl ac rfl aa rfl ac rfl aa rfl _ _ E ac rfl
def kq.h (i:kq) (p:aF):aF:=cond i.im p (p.kG [45,45,45])
theorem VJ (ar:b8 p 100) {c:Bool} {G:Prop} {K:cD->St->aB}:aB.path G (bN (aI dr) (C4 5) (ht i (o.u c) p ln) K)->aB.path G (K .aQ ⟨(ht i (o.u c) p ln).loc,((cond c (p.eC i) ((p.eC i).kG [45,45,45])).aQ 458).hp ln,[],[]⟩):=λF=>by
 cases c with
 |true=>exact F aa rfl
 |false=>
  have I:=vS (p:=p.eC i) (x:= [45,45,45]) (ln:=ln) ar.eA (by decide)
  exact F ac rfl _ _ (PU (p:=p.eC i) rfl rfl rfl rfl) _ _ I ac rfl
theorem aF.XO {b:Bool} {k:Nat} (ar:b8 p (k+2)):b8 (p.j5 b) k:=by
 refine b8.o (fR p.lb (p.dW&& !b)) rfl (ar.le ?_)
 cases p.dW&& !b with
 |true=>exact fh (kV ..)
 |false=>exact kV k 2▸h1 (cS rfl) k
theorem ahR {v:Option Nat} {k:Nat} (ar:b8 p (k+2)):b8 (p.o (jo p.lb v)) k:=by
 refine b8.o (jo p.lb v) rfl (ar.le ?_)
 cases v with
 |some d=>exact fh (kV ..)
 |none=>exact kV k 2▸h1 (cS rfl) k
theorem agX {t:eH} {k:Nat} (ar:b8 p (k+4)):b8 (p.o (kn p.lb t)) k:=by
 refine b8.o (kn p.lb t) rfl (ar.le ?_)
 cases t with
 |no=>exact kV k 4▸h1 (cS rfl) k
 |one=>exact kV k 4▸h1 (cS rfl) k
 |two=>exact fh (kV ..)
noncomputable def O8:jT:=⟨af,af,af,af,af,af,af⟩
def aF.mM (p:aF) (i:kq) (fr:Option cb) (D:List (List Nat)×List ae):aF:=((p.eJ (p.dW&&gZ i.v i.t)).o (pn p.dW p.lb i.v i.t)).f1 fr D
theorem aF.Vo {fr:Option cb} {D:List (List Nat)×List ae}:(((p.j5 (gZ i.v i.t)).o (jo p.lb i.v)).o (kn p.lb i.t)).f1 fr D=p.mM i fr D:=by
 rw[aF.Fb]
 exact congrArg (aF.f1 · fr D) (aF.Fb (p:=p.eJ (p.dW&&gZ i.v i.t)))
def aF.qA (p:aF) (i:kq) (fr:Option cb) (D:List (List Nat)×List ae):aF:=(cond i.im ((p.mM i fr D).eC i) (((p.mM i fr D).eC i).kG [45,45,45])).aQ 458
theorem aeP {fr:Option cb} (aW: ∀d,i.v=ab d->d<12) (aH:i.x≠ []) (ar:b8 p 300):
  ∃bw D,aJ (wb [.ap 10,.f (.bool i.f)] (((p.f0 fr).eC i).hp ln)) (.f .none) ((p.qA i fr D).hp bw):=by
 delta wb
 have IM:b8 ((p.f0 fr).j5 (gZ i.v i.t)) 298:=aF.XO ar
 have IP:b8 (((p.f0 fr).j5 (gZ i.v i.t)).o (jo p.lb i.v)) 296:=ahR IM
 have Tg:b8 ((((p.f0 fr).j5 (gZ i.v i.t)).o (jo p.lb i.v)).o (kn p.lb i.t)) 292:=agX IP
 refine ak (VE (p:=p.f0 fr) (i:=i) (o:=O8) (ln:=ln) (ar.le (by decide))) λNj Rh=> ?_
 refine bT (VF (p:=(p.f0 fr).j5 (gZ i.v i.t)) (i:=i) (o:=O8) (ln:=Nj) (IM.le (by decide)) aW) λl1 hS hW=> ?_
 have pZ:=VG (p:=(p.j5 (gZ i.v i.t)).o (jo p.lb i.v)) (i:=i) (o:=hS) (ln:=l1) (fr:=fr)
 refine c5 (VH (p:=(p.j5 (gZ i.v i.t)).o (jo p.lb i.v)) (i:=i) (o:=hS) (ln:=l1) (fr:=fr) (IP.le (by decide))) λpB O6 D wI=> ⟨pB,D, ?_⟩
 unfold aF.qA
 rw[<-aF.Vo]
 have wJ:=VI (p:=(((p.j5 (gZ i.v i.t)).o (jo p.lb i.v)).o (kn p.lb i.t)).f1 fr D) (o:=O6) (ln:=pB) aH
 have wK:=λG K=>VJ (p:=(((p.j5 (gZ i.v i.t)).o (jo p.lb i.v)).o (kn p.lb i.t)).f1 fr D) (o:=O6) (ln:=pB) (i:=i) (c:=i.im) (G:=G) (K:=K) (Tg.le (by decide))
 exact aV λG W F k=>wK _ _ (wJ _ _ (wI _ _ (pZ _ _ (hW _ _ (Rh _ _ (F aa rfl)))))) k
end
noncomputable def aF.q (p:aF) (l:List ae):aF:={p with yn:=l}
section
variable {p q:aF} {ln bw:Nat} {b:Bool} {v t:aj} {x:List Nat} {fold:Bool}
theorem ae9:aJ (ot [.ap 10] ((p.q []).hp ln)) (.f (.bool aa)) ((p.q []).hp ln):=by
 delta ot
 exact aV λ_ _ F k=>F rfl ac rfl k
inductive tF:aj->Prop
 |ss:tF (ol .none .none .none)
 |sc (x:List Nat) (fold:Bool):tF (eU x fold)
 |nN (b:Bool):tF (kB .none .none b)
 |kk:tF (l9 .none .none)
theorem zX {e:aj} (he:tF e):aJ (ot [.ap 10] ((p.q [.f e]).hp ln)) (.f (.bool ac)) ((p.q [.f e]).hp ln):=by
 delta ot
 cases he with
 |ss=>exact aV λ_ _ F k=>F rfl aa rfl _ rfl ac rfl ac rfl ac rfl k
 |sc=>exact aV λ_ _ F k=>F rfl aa rfl _ rfl ac rfl ac rfl ac rfl k
 |nN=>exact aV λ_ _ F k=>F rfl aa rfl _ rfl ac rfl ac rfl ac rfl k
 |kk=>exact aV λ_ _ F k=>F rfl aa rfl _ rfl ac rfl ac rfl ac rfl k
theorem afa:aJ (ot [.ap 10] ((p.q [.f (gU .none .none b v t)]).hp ln)) (.f (.bool aa)) ((p.q [.f (gU .none .none b v t)]).hp ln):=by
 have N:aJ (wc [.ap 10,.f (.int 1)] ((p.q [.f (gU .none .none b v t)]).hp ln)) (.f (.bool aa)) ((p.q [.f (gU .none .none b v t)]).hp ln):=by
  delta wc
  exact aV λ_ _ F k=>F _ rfl _ _ la rfl k
 delta ot
 exact aV λ_ _ F k=>F rfl aa rfl _ rfl aa rfl _ _ N k
theorem PP:aJ (ot [.ap 10] ((p.q [.f (gU .none .none b v t),.f (eU x fold)]).hp ln)) (.f (.bool ac)) ((p.q [.f (gU .none .none b v t),.f (eU x fold)]).hp ln):=by
 have N:aJ (wc [.ap 10,.f (.int 1)] ((p.q [.f (gU .none .none b v t),.f (eU x fold)]).hp ln)) (.f (.bool ac)) ((p.q [.f (gU .none .none b v t),.f (eU x fold)]).hp ln):=by
  delta wc
  exact aV λ_ _ F k=>F _ rfl _ _ (λK k=>k) rfl k
 delta ot
 exact aV λ_ _ F k=>F rfl aa rfl _ rfl aa rfl _ _ N k
def yi:S:=Cn.aO.hd
def hN (p:aF) (x:aj) (ln:Nat):St:=⟨[(37,ab (.ap 10)),(50,ab (.f x))],p.hp ln,[],[]⟩
def uS (σ σ':St):Prop:=aJ (kO (ev (aI kg) yi.df).t (bN (aI kg) yi.bd) σ) af σ'
def yj:St->(cD->St->Prop)->Prop:=fa (ev (aI kg) yi.df).t (bN (aI kg) yi.bd)
theorem yk {x:aj}:aJ (yj (hN (p.q []) x ln)) .aQ (hN (p.q []) x ln):=eQ (by exact b9 λ_ _ F k=>F _ _ ae9 aa rfl k)
theorem WU:aJ (md [.ap 10,.f (ol .none .none .none)] (((p.q []).aQ 422).hp ln)) (.f .none) ((((p.q []).aQ 436).di .none).hp ln):=by
 have X:aJ (F4 [.ap 10] ((((p.q []).di (ol .none .none .none)).aQ 422).hp ln)) (.f .none) ((((p.q []).di (ol .none .none .none)).aQ 436).hp ln):=by
  delta F4
  exact aV λ_ _ F k=>F aa rfl _ _ (λK k=>k) k
 have T:uS (hN ((p.q [.f (ol .none .none .none)]).aQ 422) (ol .none .none .none) ln) (hN (((p.q []).aQ 436).di .none) (ol .none .none .none) ln):=by
  exact b9 λ_ _ F k=>F _ _ (zX (p:=p.aQ 422) .ss) ac rfl rfl _ _ X k
 delta md
 exact aV λ_ _ F k=>F rfl _ _ (fb T (yk (p:=(p.aQ 436).di .none))) k
theorem WR:aJ (md [.ap 10,.f (gU .none .none b v t)] ((p.q []).hp ln)) (.f .none) ((p.q [.f (gU .none .none b v t)]).hp ln):=by
 have T:aJ (yj (hN (p.q [.f (gU .none .none b v t)]) (gU .none .none b v t) ln)) .aQ (hN (p.q [.f (gU .none .none b v t)]) (gU .none .none b v t) ln):=eQ (by exact b9 λ_ _ F k=>F _ _ afa aa rfl k)
 delta md
 exact aV λ_ _ F k=>F rfl _ _ T k
end
noncomputable def uP (b:Bool):List (List Nat):=cond b [] [[45,45,45]]
def nQ (dW:Bool) (lb:List Nat) (v:Option Nat) (t:eH) (im fold:Bool) (n:Nat) (x:List Nat):List (List Nat):=pn dW lb v t++(uP im++kj im fold lb n x)
def aF.bZ (p:aF) (l:List ae):aF:={p.gB with ws:=aa,iI:=aa,col:=0,yn:=l}
noncomputable def lp (f:Bool):Nat:=cond f 436 444
theorem Mn (dW:Bool) (lb:List Nat) (v:Option Nat) (t:eH):(pn dW lb v t).length<=8:=by
 have aq: ∀b,(fR lb b).length<=2:=λb=>by cases b<;>exact cS rfl
 have aC:(jo lb v).length<=2:=by cases v<;>exact cS rfl
 have bz:(kn lb t).length<=4:=by cases t<;>exact cS rfl
 show(fR lb (dW&& !gZ v t)++(jo lb v++kn lb t)).length<=8
 rw[bL,bL]
 exact fW (aq _) (fW aC bz)
theorem Vx {dW fold:Bool} {lb:List Nat} {v:Option Nat} {t:eH} {n:Nat} {x:List Nat} (o:List ae):(o++cf (pn dW lb v t))++cf (kj aa fold lb n x)=o++cf (nQ dW lb v t aa fold n x):=
 (bt ..).trans (congrArg (o++ ·) (h4 _ _).symm)
theorem Vw {dW fold:Bool} {lb:List Nat} {v:Option Nat} {t:eH} {n:Nat} {x:List Nat} (o:List ae):((o++cf (pn dW lb v t))++cf [[45,45,45]])++cf (kj ac fold lb n x)=o++cf (nQ dW lb v t ac fold n x):=
 (bt ..).trans ((bt ..).trans (congrArg (o++ ·) ((h4 _ _).trans (congrArg (cf (pn dW lb v t)++ ·) (h4 [[45,45,45]] _))).symm))
section
variable {p:aF} {ln:Nat} {b:Bool} {v t:aj} {i:kq}
def aF.j3 (p:aF) (i:kq) (fr:Option cb) (D:List (List Nat)×List ae):aF:=((((((p.f1 fr D).bZ []).iM).aQ 451).eJ (aM (f7 i.x) [43])).di .none).o (nQ p.dW p.lb i.v i.t i.im i.fold p.dd i.x)
theorem WQ {fr:Option cb} {D:List (List Nat)×List ae} (aH:jz p.dE i.x) (ar:b8 p 300) (h0:fp p.dd):
  ∃bw,aJ (yj (hN (((p.gB.aQ (lp i.f)).qA i fr D).di .none) (eU i.x i.fold) ln)) .aQ (hN (p.j3 i fr D) (eU i.x i.fold) bw):=by
 have IQ:b8 ((p.gB.aQ (lp i.f)).mM i fr D) 200:=b8.o (p:=p) (pn p.dW p.lb i.v i.t) rfl (ar.le (bf (h1 (Mn ..) _) (by decide)))
 have T: ∀(q:aF) (ln bw:Nat),aJ (Ai [.ap 10] ((((q.q []).aQ 458).gB.di (eU i.x i.fold)).hp ln)) (.f .none) (((((((q.q []).aQ 458).gB.di (eU i.x i.fold)).iM).aQ 451).eJ (aM (f7 i.x) [43])).w (kj q.ws i.fold q.lb q.dd i.x) |>.hp bw)->
   aJ (yj (hN (((q.gB.q [.f (eU i.x i.fold)]).aQ 458).di .none) (eU i.x i.fold) ln)) .aQ (hN ((((((q.gB.q []).iM).aQ 451).eJ (aM (f7 i.x) [43])).w (kj q.ws i.fold q.lb q.dd i.x)).di .none) (eU i.x i.fold) bw):=λq ln bw E=>
  fb (by exact b9 λ_ _ F k=>F _ _ (zX (p:=(q.gB.aQ 458).di .none) (.sc _ _)) ac rfl rfl _ _ E k) (yk (p:=((((q.gB.iM).aQ 451).eJ (aM (f7 i.x) [43])).w (kj q.ws i.fold q.lb q.dd i.x)).di .none))
 unfold aF.qA
 have R:=λim (h:i.im=im)=>show p.j3 i fr D=((((((p.f1 fr D).bZ []).iM).aQ 451).eJ (aM (f7 i.x) [43])).di .none).o (nQ p.dW p.lb i.v i.t im i.fold p.dd i.x) by rw[<-h];rfl
 rcases cJ i.im with h|h
 ·refine ak (LK (p:=(((((p.gB.aQ (lp i.f)).mM i fr D).eC i).q []).aQ 458)) (fold:=i.fold) (ln:=ln) aH (IQ.le (by decide)) h0) λbw E=> ⟨bw, ?_⟩
  rw[R _ h,h]
  exact kJ (T _ _ _ E) rfl (congrArg (hN · _ bw) (congrArg (aF.mk _ _ _ _ _ _ _ _ _ _ _ _ _ _ _ _ _ _ _ _ · _ _) (Vx p.out)))
 ·refine ak (LK (p:=((((((p.gB.aQ (lp i.f)).mM i fr D).eC i).kG [45,45,45]).q []).aQ 458)) (fold:=i.fold) (ln:=ln) aH (b8.o (k:=100) [[45,45,45]] rfl (IQ.le (by decide))) h0) λbw E=> ⟨bw, ?_⟩
  rw[R _ h,h]
  exact kJ (T _ _ _ E) rfl (congrArg (hN · _ bw) (congrArg (aF.mk _ _ _ _ _ _ _ _ _ _ _ _ _ _ _ _ _ _ _ _ · _ _) (Vw p.out)))
theorem WS {fr:Option cb} (aW: ∀d,i.v=ab d->d<12) (aH:jz p.dE i.x) (ar:b8 p 400) (h0:fp p.dd):
  ∃bw D,aJ (md [.ap 10,.f (eU i.x i.fold)] ((((p.f0 fr).bZ [.f (gU .none .none i.b (c4 i.v) i.t.bI)]).aQ (lp i.f)).hp ln)) (.f .none) ((p.j3 i fr D).hp bw):=by
 have jq:i.x≠ []:=bT aH.hd λa be h=>h.1▸c9 _ _
 refine bT (aeP (p:=(p.gB.aQ (lp i.f))) (i:=i) (fr:=fr) (ln:=ln) aW jq (ar.le (by decide))) λl1 D Q=> ?_
 refine ak (WQ (p:=p) (ln:=l1) (i:=i) (fr:=fr) (D:=D) aH (ar.le (by decide)) h0) λe0 W=> ⟨e0,D, ?_⟩
 delta md
 revert Q W
 rcases cJ i.f with h|h
 ·rw[h]
  intro Q W
  have oV:aJ (F1 [.ap 10] ((((p.gB.aQ 436).f0 fr).eC i).hp ln)) (.f .none) (((p.gB.aQ 436).qA i fr D).hp l1):=by
   delta F1
   exact aV λ_ _ F k=>F _ _ Q k
  have T:uS (hN (((p.f0 fr).bZ [.f (gU .none .none i.b (c4 i.v) i.t.bI),.f (eU i.x i.fold)]).aQ 436) (eU i.x i.fold) ln) (hN (((p.gB.aQ 436).qA i fr D).di .none) (eU i.x i.fold) l1):=by
   exact b9 λ_ _ F k=>F _ _ (PP (p:=((p.f0 fr).bZ []).aQ 436)) ac rfl rfl _ _ oV k
  exact aV λ_ _ F k=>F rfl _ _ (fb T W) k
 ·rw[h]
  intro Q W
  have T:uS (hN (((p.f0 fr).bZ [.f (gU .none .none i.b (c4 i.v) i.t.bI),.f (eU i.x i.fold)]).aQ 444) (eU i.x i.fold) ln) (hN (((p.gB.aQ 444).qA i fr D).di .none) (eU i.x i.fold) l1):=by
   exact b9 λ_ _ F k=>F _ _ (PP (p:=((p.f0 fr).bZ []).aQ 444)) ac rfl rfl _ _ Q k
  exact aV λ_ _ F k=>F rfl _ _ (fb T W) k
end
section
variable {p:aF} {ln:Nat} {b:Bool}
def aF.dP (p:aF) (b:Bool):aF:=(p.eJ (p.dW&& !b)).o (fR p.lb b)
theorem aF.XY:p.dP ac=p:=by
 unfold aF.dP
 rw[Rc,Ra]
 exact aF.o0
theorem PK (ar:b8 p 10) {e:aj}:aJ (ou [.ap 10] ((((p.bZ []).di e).kG [46,46,46]).hp ln)) (.f .none) ((((p.eJ ac).o [[46,46,46],p.lb]).bZ []).di e|>.hp (ln+1)):=
 kJ (PV (p:=((p.bZ []).di e).kG [46,46,46]) (ln:=ln) (b8.eA (b8.o (p:=p) (k:=1) [[46,46,46]] rfl (ar.le (by decide)))) rfl rfl) rfl (congrArg (aF.hp · (ln+1)) (congrArg (aF.mk _ _ _ _ _ _ _ _ _ _ _ _ _ _ _ _ _ _ _ _ · _ _) (bt ..)))
theorem aeL (ar:b8 p 10): ∃bw,aJ (F0 [.ap 10] (((p.bZ []).di (kB .none .none b)).hp ln)) (.f .none) (((((p.dP b).bZ []).di (kB .none .none b)).aQ 444).hp bw):=by
 delta F0
 have A:=λp:aF=>PU (p:=(p.bZ []).di (kB .none .none b)) (ln:=ln) rfl rfl rfl rfl
 have I:=vS (p:=(p.bZ []).di (kB .none .none b)) (x:= [46,46,46]) (ln:=ln) ar.eA (by decide)
 have D:=PK (ln:=ln) (e:=kB .none .none b) ar
 cases b with
 |false=>
  rw[aF.XY]
  exact⟨ln,by exact aV λ_ _ F k=>F aa rfl _ _ (A p) ac rfl _ _ (λK k=>k) k⟩
 |true=>
  refine⟨ln+1, ?_⟩
  rw[show p.dP aa=(p.eJ ac).o [[46,46,46],p.lb] by unfold aF.dP;rw[wG,ho];rfl]
  exact aV λ_ _ F k=>F aa rfl _ _ (A p) aa rfl _ _ I _ _ D _ _ (λK k=>k) k
theorem WO (ar:b8 p 10): ∃bw,aJ (md [.ap 10,.f (kB .none .none b)] (((p.bZ []).aQ 451).hp ln)) (.f .none) (((((p.dP b).bZ []).di .none).aQ 444).hp bw):=by
 delta md
 refine ak (aeL (p:=p.aQ 451) (b:=b) (ln:=ln) ar) λbw E=> ⟨bw, ?_⟩
 have T:uS (hN ((p.bZ [.f (kB .none .none b)]).aQ 451) (kB .none .none b) ln) (hN ((((p.dP b).bZ []).di .none).aQ 444) (kB .none .none b) bw):=by
  exact b9 λ_ _ F k=>F _ _ (zX (p:=(p.bZ []).aQ 451) (.nN b)) ac rfl rfl _ _ E k
 exact aV λ_ _ F k=>F rfl _ _ (fb T (yk (p:=(((p.dP b).bZ []).di .none).aQ 444))) k
theorem aeO (ar:b8 p 10): ∃bw,aJ (wb [.ap 10,.f (.bool ac)] (((p.bZ []).di (l9 .none .none)).hp ln)) (.f .none) ((((((p.eJ ac).o (fR p.lb p.dW)).bZ []).di (l9 .none .none)).aQ 429).hp bw):=by
 delta wb
 have I:=vS (p:=(p.bZ []).di (l9 .none .none)) (x:= [46,46,46]) (ln:=ln) ar.eA (by decide)
 have D:=PK (ln:=ln) (e:=l9 .none .none) ar
 rcases cJ p.dW with h|h
 ·rw[h]
  exact⟨ln+1,by exact aV λ_ _ F k=>F ac rfl aa rfl aa h _ _ I _ _ D _ _ (λK k=>k) k⟩
 ·rw[h]
  refine⟨ln, ?_⟩
  rw[show(p.eJ ac).o (fR p.lb ac)=p from(aF.o0 (p:=p.eJ ac)).trans (by rw[<-h];rfl)]
  exact aV λ_ _ F k=>F ac rfl aa rfl ac h _ _ (λK k=>k) k
theorem WT (ar:b8 p 10): ∃bw,aJ (md [.ap 10,.f (l9 .none .none)] (((p.bZ []).aQ 444).hp ln)) (.f .none) ((((((p.eJ ac).o (fR p.lb p.dW)).bZ []).di .none).aQ 429).hp bw):=by
 delta md
 refine ak (aeO (p:=p.aQ 444) (ln:=ln) ar) λbw E=> ⟨bw, ?_⟩
 have T:uS (hN ((p.bZ [.f (l9 .none .none)]).aQ 444) (l9 .none .none) ln) (hN (((((p.eJ ac).o (fR p.lb p.dW)).bZ []).di .none).aQ 429) (l9 .none .none) bw):=by
  exact b9 λ_ _ F k=>F _ _ (zX (p:=(p.bZ []).aQ 444) .kk) ac rfl rfl _ _ E k
 exact aV λ_ _ F k=>F rfl _ _ (fb T (yk (p:=((((p.eJ ac).o (fR p.lb p.dW)).bZ []).di .none).aQ 429))) k
end
abbrev cQ:=List Nat×List Nat
def d7 (c:Nat):Bool:=aM [c] [10] ||aM [c] [8232]
noncomputable def b7:List Nat->List Nat->List cQ
 | [],[]=> []
 |a::l,[]=> [(a::l,[])]
 |l,c::r=>cond (d7 c) ((l,[c])::b7 [] r) (b7 (l++ [c]) r)
def ej (e d:List Nat):List Nat:=cond (aM d [8232]) d e
noncomputable def lj (n:Nat):List Nat->List Nat
 | []=> []
 |a::l=>gP n 32++(a::l)
noncomputable def hQ:List cQ->Bool
 | []=>ac
 | ([],_)::L=>hQ L
 | (a::_,_)::_=> !aM [a] [32]
def hH (fold:Bool) (l d:List Nat) (L:List cQ):Bool:=fold&&(match l with
 | []=>ac
 |a::_=> !aM [a] [32]&&(aM d [10]&&hQ L))
noncomputable def eO (fold:Bool) (n:Nat) (e:List Nat):List cQ->List (List Nat)
 | []=> []
 | (l,d)::L=> (lj n l++ej e d)::(cond (hH fold l d L) [e] []++eO fold n e L)
theorem dG: ∀A B:List (List Nat),aZ (A++B)=aZ A++aZ B
 | [],_=>rfl
 |a::A,B=>by show a++aZ (A++B)=(a++aZ A)++aZ B;rw[dG A B,bt]
theorem qv (a:List Nat) (A:List (List Nat)):aZ (a::A)=a++aZ A:=rfl
theorem aiD:aZ []= []:=rfl
def q7 (c:Nat):Prop:=bO [c] dA=d7 c
theorem jc {l r:List Nat} {c:Nat} (h:d7 c=aa):b7 l (c::r)=(l,[c])::b7 [] r:=by
 cases l<;>exact gk h
theorem iK {l r:List Nat} {c:Nat} (h:d7 c=ac):b7 l (c::r)=b7 (l++ [c]) r:=by
 cases l<;>exact fm h
theorem CC {e:List Nat} {c:Nat} (h:d7 c=aa):fl e c=ej e [c]:=by
 rcases cJ (aM [c] [10]) with aq|aq
 ·have:=(gv (gL.mp aq)).1
  subst this;rfl
 ·exact(fm aq).trans (gk ((oC _).symm.trans (aq▸h))).symm
theorem OB {α:Type} {f:Nat->α} {l:List Nat} {c:Nat}:(l++ [c]).map f=l.map f++ [f c]:=lD
theorem Oz {fold:Bool} {e r:List Nat} {n c:Nat} (h:d7 c=aa):aZ (eO fold n e (b7 [] (c::r)))=fl e c++aZ (eO fold n e (b7 [] r)):=by
 rw[jc h,CC h]
 show aZ (ej e [c]::(cond (hH fold [] [c] (b7 [] r)) [e] []++eO fold n e (b7 [] r)))=_
 cases fold<;>rfl
theorem aa7 {e:List Nat} {n:Nat}: ∀(r l:List Nat),(∀c∈r,q7 c)->
  (aZ (h9 e (ind n) aa l r)=aZ (l.map (fl e))++aZ (eO ac n e (b7 [] r)))/\
  (l≠ []->ind n++aZ (h9 e (ind n) ac l r)=aZ (eO ac n e (b7 l r))):=λr=>by
 induction r with
 |nil=>
  refine λl _=> ⟨(dj _).symm,λh=> ?_⟩
  cases l with
  |nil=>exact absurd rfl h
  |cons a l=>
   show ind n++((a::l)++(e++ []))=((ind n++(a::l))++e)++ []
   rw[dj,dj,bt]
 |cons c r ai=>
  intro l c6
  have aD:bO [c] dA=d7 c:=c6 c eo
  have ai:=λl=>ai l λx aH=>c6 x (eY _ aH)
  rcases cJ (d7 c) with ag|ag
  ·have t1:h9 e (ind n) aa l (c::r)=h9 e (ind n) aa (l++ [c]) r:=gk (aD.trans ag)
   have jP:h9 e (ind n) ac l (c::r)=l::h9 e (ind n) aa [c] r:=gk (aD.trans ag)
   rw[t1,jP,(ai _).1,qv,(ai _).1,OB,dG,show aZ [fl e c]=fl e c from dj _,bt]
   refine⟨congrArg _ (Oz ag).symm,λh=> ?_⟩
   rw[jc ag]
   cases l with
   |nil=>exact absurd rfl h
   |cons a l=>
    show ind n++((a::l)++((fl e c++ [])++aZ (eO ac n e (b7 [] r))))=((ind n++(a::l))++ej e [c])++aZ (eO ac n e (b7 [] r))
    rw[dj,CC ag,bt,bt]
  ·have t1:h9 e (ind n) aa l (c::r)=l.map (fl e)++ind n::h9 e (ind n) ac [c] r:=fm (aD.trans ag)
   have jP:h9 e (ind n) ac l (c::r)=h9 e (ind n) ac (l++ [c]) r:=fm (aD.trans ag)
   rw[t1,jP,iK ag,iK ag,dG,qv,(ai [c]).2 (c9 _ _)]
   exact⟨rfl,λ_=> (ai (l++ [c])).2 (i4 (c9 _ _))⟩
theorem abB: ∀(r:List Nat) (a:Nat) (l:List Nat),hQ (b7 (a::l) r)= !aM [a] [32]:=λr=>by
 induction r with
 |nil=>exact λ_ _=>rfl
 |cons c r ai=>
  intro a l
  rcases cJ (d7 c) with ag|ag
  ·rw[jc ag];rfl
  ·rw[iK ag];exact ai a (l++ [c])
def q6 (r:List Nat):Prop:= ∀u,r≠u++ [32]
theorem q6.aO {c:Nat} {r:List Nat} (h:q6 (c::r)):q6 r:=λu e=>h (c::u) (congrArg (c:: ·) e)
theorem MO {c:Nat} (h:aM [c] [32]=aa):c=32:=(gv (gL.mp h)).1
theorem q6.hd {c:Nat} {r:List Nat} (h:q6 (c::r)) (c6:r= []):aM [c] [32]=ac:=
 (cJ _).resolve_left λe=>h [] (by rw[MO e,c6];rfl)
def rA (e:List Nat) (ls:Bool) (bs:List Nat) (L:List cQ):List Nat:=cond (!ls&&(aM [bs.headD 0] [10]&&hQ L)) e []
theorem W2 {e bs:List Nat} {ls:Bool} {c:Nat} {r:List Nat}:aZ (sq e bs ls c)=rA e ls bs (b7 [c] r):=by
 unfold sq rA
 rw[abB,Hh (!aM [c] [32])]
 cases !ls&&(aM [bs.headD 0] [10]&& !aM [c] [32]) with
 |true=>exact dj _
 |false=>rfl
theorem aij {e l:List Nat} {a c:Nat} {L:List cQ} (ag:d7 c=aa):rA e (aM [a] [32]) [c] L++fl e c=ej e [c]++aZ (cond (hH aa (a::l) [c] L) [e] []):=by
 rw[CC ag]
 show cond (!aM [a] [32]&&(aM [c] [10]&&hQ L)) e []++_=_++aZ (cond (!aM [a] [32]&&(aM [c] [10]&&hQ L)) [e] [])
 rcases cJ (aM [c] [10]) with h|h
 ·have:=(gv (gL.mp h)).1
  subst this
  cases !aM [a] [32]&&(aM [10] [10]&&hQ L) with
  |true=>exact congrArg (e++ ·) (dj e).symm
  |false=>exact(dj e).symm
 ·rw[h,wF,ho]
  exact(dj _).symm
section
variable {e:List Nat} {n:Nat}
theorem abE {a c:Nat} {k:List Nat} {L:List cQ} (ag:d7 c=aa):ind n++((a::k)++(rA e (aM [a] [32]) [c] L++(fl e c++aZ (eO aa n e L))))=aZ (eO aa n e ((a::k,[c])::L)):=by
 show _=((ind n++(a::k))++ej e [c])++aZ (cond (hH aa (a::k) [c] L) [e] []++eO aa n e L)
 rw[dG,bt,bt,<-bt (ej e [c]),<-aij ag,bt]
theorem Xv: ∀(r:List Nat),(∀c∈r,q7 c)->q6 r->
  (∀(s ls:Bool) (bs:List Nat),(bs= []->ls=aa)->aZ (gp e (ind n) aa s ls bs r)=rA e ls bs (b7 [] r)++(aZ (bs.map (fl e))++aZ (eO aa n e (b7 [] r))))/\
  (∀(s:Bool) (ji l:List Nat) (a:Nat) (k:List Nat),ji++l=a::k->(r= []->s=ac)->l≠ []->ind n++(ji++aZ (gp e (ind n) ac s (aM [a] [32]) l r))=aZ (eO aa n e (b7 (ji++l) r))):=λr=>by
 induction r with
 |nil=>
  refine λ_ _=> ⟨λs ls bs h=> ?_,λs ji l a k h hs _=> ?_⟩
  ·rw[show rA e ls bs (b7 [] [])= [] from fm (by show(!ls&&(aM [bs.headD 0] [10]&&ac))=ac;rw[ho,ho])]
   exact(dj _).symm
  ·rw[hs rfl,h]
   show ind n++(ji++(l++(e++ [])))=((ind n++(a::k))++e)++aZ (cond (hH aa (a::k) [] []) [e] []++ [])
   rw[dj,<-bt ji,h,bt,show cond (hH aa (a::k) [] []) [e] []= [] from fm (ho _),show aZ ([]++ [])= [] from rfl,dj,bt]
 |cons c r ai=>
  intro c6 ar
  have aD:bO [c] dA=d7 c:=c6 c eo
  have ai:=ai (λx aH=>c6 x (eY _ aH)) ar.aO
  have Uh:aM [c] [32]=aa->d7 c=ac:=λh=>by rw[MO h];rfl
  refine⟨λs ls bs h=> ?_,λs ji l a k h hs aA=> ?_⟩
  ·rcases cJ (d7 c) with ag|ag
   ·rw[show gp e (ind n) aa s ls bs (c::r)=gp e (ind n) (bO [c] dA) (aM [c] [32]) ls (bs++ [c]) r from gk (b:=bO [c] dA) (aD.trans ag),aD,ag,ai.1 _ ls (bs++ [c]) λh=>absurd h (i4 (c9 _ _)),Oz ag,OB,dG,show aZ [fl e c]=fl e c from dj _,bt]
    refine congrArg (· ++_) ?_
    rw[jc ag]
    cases bs with
    |nil=>rw[h rfl];rfl
    |cons b bs=>rfl
   ·rw[show gp e (ind n) aa s ls bs (c::r)=_ from fm (b:=bO [c] dA) (aD.trans ag),aD,ag,dG,dG,qv,iK ag,W2 (r:=r)]
    exact congrArg (λz=>rA e ls bs (b7 [c] r)++(aZ (bs.map (fl e))++z)) (ai.2 (aM [c] [32]) [] [c] c [] rfl (λh=>ar.hd h) (c9 _ _))
  ·--a break aiG ai6 line
   have flush:ind n++(ji++aZ (l::gp e (ind n) (bO [c] dA) (aM [c] [32]) (aM [a] [32]) [c] r))=aZ (eO aa n e (b7 (ji++l) (c::r))):=by
    rw[qv,<-bt ji]
    rcases cJ (d7 c) with ag|ag
    ·rw[aD,ag,ai.1 _ _ [c] λh=>absurd h (c9 _ _),jc ag,h,<-abE ag,show aZ ([c].map (fl e))=fl e c from dj _]
    ·rw[aD,ag,iK ag]
     have:=ai.2 (aM [c] [32]) (ji++l) [c] a (k++ [c]) (by rw[h];rfl) (λh=>ar.hd h) (c9 _ _)
     exact this
   have cF:d7 c=ac->ind n++(ji++aZ (gp e (ind n) (bO [c] dA) (aM [c] [32]) (aM [a] [32]) (l++ [c]) r))=aZ (eO aa n e (b7 (ji++l) (c::r))):=λag=>by
    rw[aD,ag,iK ag,bt]
    exact ai.2 (aM [c] [32]) ji (l++ [c]) a (k++ [c]) (by rw[<-bt,h];rfl) (λh=>ar.hd h) (i4 (c9 _ _))
   cases s with
   |true=>
    rcases cJ (aM [c] [32]) with gr|gr
    ·rw[show gp e (ind n) ac aa (aM [a] [32]) l (c::r)=_ from gk (b:=aM [c] [32]) gr];exact cF (Uh gr)
    ·rw[show gp e (ind n) ac aa (aM [a] [32]) l (c::r)=_ from fm (b:=aM [c] [32]) gr];exact flush
   |false=>
    rcases cJ (bO [c] pQ) with hw|hw
    ·rw[show gp e (ind n) ac ac (aM [a] [32]) l (c::r)=_ from gk (b:=bO [c] pQ) hw];exact flush
    ·rw[show gp e (ind n) ac ac (aM [a] [32]) l (c::r)=_ from fm (b:=bO [c] pQ) hw]
     refine cF (aD.symm.trans ?_)
     have hw:(bA c 32&&aa||bO [c] dA)=ac:=hw
     exact(AJ.mp hw).2
end
noncomputable def u2:Bool->List Nat->List Nat
 |_,[]=> []
 |rc,[c]=>cond (d7 c) (cond rc [43] []) [45]
 |_,c::d::r=>u2 (d7 c) (d::r)
noncomputable def yG (z y:Bool):List Nat:=cond z (cond y [43] []) [45]
def Pn (rc:Bool) (a:Nat):List Nat->Bool
 | []=>rc
 |b::r=>d7 ((a::b::r).getD r.length 0)
theorem Mg: ∀(be:List Nat) (a:Nat) (rc:Bool),u2 rc (a::be)=yG (d7 ((a::be).getLastD 0)) (Pn rc a be):=λbe=>by
 induction be with
 |nil=>exact λ_ _=>rfl
 |cons b r ai=>
  intro a rc
  refine(ai b (d7 a)).trans ?_
  cases r with
  |nil=>rfl
  |cons c r=>rfl
theorem Ds {a:Nat} {be:List Nat} (aD: ∀c∈a::be,q7 c):f7 (a::be)=u2 aa (a::be):=by
 have G: ∀(r:List Nat) (a:Nat),(a::r).getLastD 0∈a::r:=λr=>by
  induction r with
  |nil=>exact λa=>eo
  |cons b r ai=>exact λa=>eY _ (ai b)
 rw[Mg]
 unfold f7 iF
 rw[show bO [(a::be).getLastD 0] dA=d7 ((a::be).getLastD 0) from aD _ (G be a)]
 cases be with
 |nil=>rfl
 |cons b r=>
  rw[show decide (c1 (a::b::r).length=1)=ac from decide_eq_false λh=>absurd (Bc (AS h)) (Nat.succ_ne_zero _)]
  have hm:(a::b::r).getD r.length 0∈a::b::r:=by
   rw[AZ,nr (p7 (nt _) (kx _):r.length<r.length+1+1)]
   exact HL _
  exact congrArg (λz=>cond _ (cond z [43] []) [45]) (aD _ hm)
noncomputable def d6:List cQ->List Nat
 | []=> []
 | [(l,d)]=>match d with
  | []=> [45]
  |_::_=>match l with
   | []=> [43]
   |_::_=> []
 |_::p::L=>d6 (p::L)
theorem Eo: ∀(r l:List Nat),l≠ []\/r≠ []-> ∃p L,b7 l r=p::L:=λr=>by
 induction r with
 |nil=>
  intro l h
  cases l with
  |nil=>exact absurd rfl (h.resolve_left (absurd rfl))
  |cons a l=>exact⟨_,_,rfl⟩
 |cons c r ai=>
  intro l h
  rcases cJ (d7 c) with ag|ag
  ·rw[jc ag];exact⟨_,_,rfl⟩
  ·rw[iK ag];exact ai _ (d5 (i4 (c9 _ _)))
noncomputable def MR:List Nat->Bool
 | []=>aa
 |_::_=>ac
theorem Mh: ∀(r l:List Nat) (c:Nat),d6 (b7 l (c::r))=u2 (MR l) (c::r):=λr=>by
 induction r with
 |nil=>
  intro l c
  show _=cond (d7 c) (cond (MR l) [43] []) [45]
  rcases cJ (d7 c) with ag|ag
  ·rw[jc ag,ag];cases l<;>rfl
  ·rw[iK ag,ag];cases l<;>rfl
 |cons d r ai=>
  intro l c
  show _=u2 (d7 c) (d::r)
  rcases cJ (d7 c) with ag|ag
  ·rw[jc ag,ag]
   refine bT (Eo (d::r) [] (cW (c9 _ _))) λp L h=> ?_
   have i:=ai [] d
   rw[h] at i⊢
   exact i
  ·rw[iK ag,ai,ag]
   cases l<;>rfl
def pg:List cQ->Bool
 | []=>ac
 | ([],_)::_=>aa
 | (a::_,_)::_=>aM [a] [32]
theorem XI: ∀(r:List Nat) (a:Nat) (l:List Nat),pg (b7 (a::l) r)=aM [a] [32]:=λr=>by
 induction r with
 |nil=>exact λ_ _=>rfl
 |cons c r ai=>
  intro a l
  rcases cJ (d7 c) with ag|ag
  ·rw[jc ag];rfl
  ·rw[iK ag];exact ai a (l++ [c])
theorem Mf {n:Nat} {a:Nat} {be:List Nat} (aD:q7 a):dI n (a::be)=cond (pg (b7 [] (a::be))) (dv n) []:=by
 refine congrArg (cond · (dv n) []) ?_
 show(bA a 32&&aa||bO [a] dA)=_
 rw[show bO [a] dA=d7 a from aD]
 rcases cJ (d7 a) with ag|ag
 ·rw[jc ag,ag,Rd];rfl
 ·rw[iK ag,ag,rH];exact(XI be a []).symm
def fB (fold:Bool) (e:List Nat) (l d:List Nat) (L:List cQ):List (List Nat):=cond (hH fold l d L) [e] []
noncomputable def dK (fold:Bool) (e:List Nat):List cQ->List (List Nat)×g7
 | []=> ([],[])
 |p::L=>match p.1 with
  | []=> (ej e p.2::(dK fold e L).1,(dK fold e L).2)
  |a::l=> ([],(a::l,ej e p.2,fB fold e (a::l) p.2 L++(dK fold e L).1)::(dK fold e L).2)
theorem UG (A:List (List Nat)):aZ A=A.flatten:=by
 induction A with
 |nil=>rfl
 |cons a A ai=>rw[qv,ai,HJ]
theorem Uv {fold:Bool} {e t:List Nat} {n:Nat} (L:List cQ):(dK fold e L).1.flatten++hG n (dK fold e L).2 t=aZ (eO fold n e L)++t:=by
 induction L with
 |nil=>rfl
 |cons p L ai=>
  obtain ⟨l,d⟩:=p
  cases l with
  |nil=>
   show(ej e d::(dK fold e L).1).flatten++hG n (dK fold e L).2 t=(ej e d++aZ (cond (hH fold [] d L) [e] []++eO fold n e L))++t
   rw[show cond (hH fold [] d L) [e] []= [] from fm (by cases fold<;>rfl),HJ,bt,ai,bt]
   rfl
  |cons a l=>
   show ind n++((a::l)++(ej e d++((fB fold e (a::l) d L++(dK fold e L).1).flatten++hG n (dK fold e L).2 t)))=(((ind n++(a::l))++ej e d)++aZ (fB fold e (a::l) d L++eO fold n e L))++t
   rw[List.flatten_append,bt (fB fold e (a::l) d L).flatten,ai,dG,UG (fB fold e (a::l) d L)]
   rw[bt,bt,bt,bt]
def rO (l:List Nat):Prop:= ∀c∈l,¬c∈kA/\c≠9
def hi:List cQ->Prop
 | []=>True
 | [(l,d)]=>rO l/\(d= [10]\/d= [8232]\/(d= []/\l≠ []))
 | (l,d)::p::L=>rO l/\(d= [10]\/d= [8232])/\hi (p::L)
theorem hi.cons {l d:List Nat} {L:List cQ} (aq:rO l) (aC:d= [10]\/d= [8232]) (bz:hi L):hi ((l,d)::L):=by
 cases L with
 |nil=>exact⟨aq,by rcases aC with h|h;exact d5 h;exact cW (d5 h)⟩
 |cons p L=>exact⟨aq,aC,bz⟩
theorem hi.aO {l d:List Nat} {L:List cQ} (h:hi ((l,d)::L)):hi L:=by
 cases L with
 |nil=>trivial
 |cons p L=>exact h.2.2
theorem hi.ch {l d:List Nat} {L:List cQ} (h:hi ((l,d)::L)):rO l:=by
 cases L with
 |nil=>exact h.1
 |cons p L=>exact h.1
theorem hi.ds {l d:List Nat} {L:List cQ} (h:hi ((l,d)::L)) (aA:l= []\/L≠ []):d= [10]\/d= [8232]:=by
 cases L with
 |nil=>
  rcases h.2 with h|h|h
  ·exact d5 h
  ·exact cW h
  ·rcases aA with aA|aA
   ·exact absurd aA h.2
   ·exact absurd rfl aA
 |cons p L=>exact h.2.1
theorem Pa: ∀(r l:List Nat),(∀c∈r,d7 c=aa\/(¬c∈kA/\c≠9))->rO l->hi (b7 l r):=λr=>by
 induction r with
 |nil=>
  intro l _ h
  cases l with
  |nil=>trivial
  |cons a l=>exact⟨h,cW (cW ⟨rfl,c9 _ _⟩)⟩
 |cons c r ai=>
  intro l c6 h
  have Mw:=λx aH=>c6 x (eY _ aH)
  rcases cJ (d7 c) with ag|ag
  ·rw[jc ag]
   exact hi.cons h ((rG.mp ag).imp gL.mp gL.mp) (ai [] Mw nofun)
  ·rw[iK ag]
   refine ai (l++ [c]) Mw λx aH=> (A4.mp aH).elim (h x) λaH=> ?_
   rw[jU.mp aH]
   exact(c6 c eo).resolve_left λh=>absurd (ag.symm.trans h) (by decide)
def pG (e r:List Nat):Prop:=e= [13]->aM [r.headD 0] [10]=ac
theorem A8 {e r:List Nat} (bu:el e) (h:pG e r):g9 e r:=by
 rcases bu with rfl|rfl|rfl
 ·exact .lf
 ·exact .cr (h rfl)
 ·exact .x4
theorem HT {e d r:List Nat} (bu:el e) (h:pG e r):g9 (ej e d) r:=by
 rcases cJ (aM d [8232]) with hd|hd
 ·rw[show ej e d=d from gk hd,gL.mp hd];exact .ls
 ·rw[show ej e d=e from fm hd];exact A8 bu h
theorem abZ {e r:List Nat}:pG e (e++r):=λh=>by subst h;rfl
theorem ab0 {e d r:List Nat}:pG e (ej e d++r):=λh=>by
 rcases cJ (aM d [8232]) with hd|hd
 ·rw[show ej e d=d from gk hd,gL.mp hd];rfl
 ·rw[show ej e d=e from fm hd,h];rfl
section
variable {fold:Bool} {e t:List Nat} {n:Nat}
theorem zu (ar:0<n) (ci:Tok t) (L:List cQ):pG e ((dK fold e L).1.flatten++hG n (dK fold e L).2 t):=by
 cases L with
 |nil=>exact bT ci λx r h=>h.1▸ λ_=>h8 λg=>h.2 (by rw[show x=10 from g];decide)
 |cons p L=>
  obtain ⟨l,d⟩:=p
  cases l with
  |nil=>
   show pG e ((ej e d++(dK fold e L).1.flatten)++_)
   rw[bt]
   exact ab0
  |cons a l=>cases n with
   |zero=>exact absurd ar (HW 0)
   |succ n=>exact λ_=>rfl
theorem Cz (bu:el e) (ar:0<n) (ci:Tok t) (L:List cQ):lE (dK fold e L).1 (hG n (dK fold e L).2 t):=by
 induction L with
 |nil=>trivial
 |cons p L ai=>
  obtain ⟨l,d⟩:=p
  cases l with
  |nil=>exact⟨HT bu (zu ar ci L),ai⟩
  |cons a l=>trivial
theorem ab1 {l d:List Nat} (ar:0<n) (ci:Tok t) (L:List cQ):pG e ((fB fold e l d L++(dK fold e L).1).flatten++hG n (dK fold e L).2 t):=by
 unfold fB
 cases hH fold l d L with
 |true=>
  show pG e ((e++(dK fold e L).1.flatten)++_)
  rw[bt]
  exact abZ
 |false=>exact zu ar ci L
theorem ab2 {l d:List Nat} (bu:el e) (ar:0<n) (ci:Tok t) (L:List cQ):lE (fB fold e l d L++(dK fold e L).1) (hG n (dK fold e L).2 t):=by
 unfold fB
 cases hH fold l d L with
 |true=>exact⟨A8 bu (zu ar ci L),Cz bu ar ci L⟩
 |false=>exact Cz bu ar ci L
theorem Ut (bu:el e) (ar:0<n) (ci:Tok t): ∀L:List cQ,hi L->oa n (dK fold e L).2 t:=λL=>by
 induction L with
 |nil=>exact λ_=>ci
 |cons p L ai=>
  obtain ⟨l,d⟩:=p
  cases l with
  |nil=>exact λh=>ai h.aO
  |cons a l=>exact λh=> ⟨⟨c9 _ _,λc aD=> (h.ch c aD).1⟩,HT bu (ab1 ar ci L),ab2 bu ar ci L,ai h.aO⟩
theorem K9 (bu:el e):dV e= [10]:=by rcases bu with rfl|rfl|rfl<;>rfl
theorem uC {d:List Nat} (bu:el e) (hd:d= [10]\/d= [8232]):dV (ej e d)=d:=by
 rcases hd with rfl|rfl
 ·exact K9 bu
 ·rfl
theorem Ea {a:Nat} {l:List Nat} (h:rO (a::l)):lead (a::l)= !aM [a] [32]:=by
 have sC:(bA a 9&&aa)=ac:=h8 (h a eo).2
 show(!(bA a 32&&aa|| (bA a 9&&aa||false)))=_
 rw[sC,rH,rH]
 rfl
theorem N2: ∀(L:List cQ) {b:List Nat×List Nat×List (List Nat)} {B:g7},hi L->(dK fold e L).2=b::B->hQ L=lead b.1:=λL=>by
 induction L with
 |nil=>exact λ_ h=>absurd h.symm (c9 _ _)
 |cons p L ai=>
  intro b B bV h
  obtain ⟨l,d⟩:=p
  cases l with
  |nil=>exact ai bV.aO h
  |cons a l=>rw[<-(gv h).1];exact(Ea bV.ch).symm
theorem K2: ∀(L:List cQ),hi L->(dK fold e L).2= []->hQ L=ac/\(L≠ []->d6 L= [43]):=λL=>by
 induction L with
 |nil=>exact λ_ _=> ⟨rfl,λh=>absurd rfl h⟩
 |cons p L ai=>
  intro bV h
  obtain ⟨l,d⟩:=p
  cases l with
  |nil=>
   have ai:=ai bV.aO h
   refine⟨ai.1,λ_=> ?_⟩
   cases L with
   |nil=>rcases bV.ds (d5 rfl) with rfl|rfl<;>rfl
   |cons p L=>exact ai.2 (c9 _ _)
  |cons a l=>exact absurd h (c9 _ _)
theorem Us (bu:el e): ∀L:List cQ,hi L->uX fold (dK fold e L).2:=λL=>by
 induction L with
 |nil=>exact λ_=>trivial
 |cons p L ai=>
  intro h
  have ai:=ai h.aO
  obtain ⟨l,d⟩:=p
  cases l with
  |nil=>exact ai
  |cons a l=>
   refine⟨?_,ai⟩
   have K: ∀b B,(dK fold e L).2=b::B->fold=aa->aM (dV (ej e d)) [10]=aa->lead (a::l)=aa->lead b.1=aa->fB fold e (a::l) d L++(dK fold e L).1≠ []:=λb B eS hf hd aA DD=>by
    have d6:L≠ []:=λh=>by rw[h] at eS;exact absurd eS.symm (c9 _ _)
    rw[uC bu (h.ds (cW d6))] at hd
    rw[Ea h.ch] at aA
    rw[show fB fold e (a::l) d L= [e] from gk (by show(fold&&(!aM [a] [32]&&(aM d [10]&&hQ L)))=aa;rw[hf,aA,hd,N2 L h.aO eS,DD];rfl)]
    exact c9 _ _
   show(match(dK fold e L).2 with
    | []=>True
    |fN::_=>fold=aa->aM (dV (ej e d)) [10]=aa->lead (a::l)=aa->lead fN.1=aa->fB fold e (a::l) d L++(dK fold e L).1≠ [])
   revert K
   cases (dK fold e L).2 with
   |nil=>exact λ_=>trivial
   |cons b B=>exact λK=>K b B rfl
end
noncomputable def hu:List cQ->List Nat
 | []=> []
 |p::L=>p.1++(p.2++hu L)
noncomputable def uW:List cQ->List Nat
 | []=> []
 |p::L=>match p.1 with
  | []=>uW L
  |a::l=> (a::l)++(p.2++hu L)
theorem Xe: ∀r l:List Nat,hu (b7 l r)=l++r:=λr=>by
 induction r with
 |nil=>
  intro l
  cases l with
  |nil=>rfl
  |cons a l=>rfl
 |cons c r ai=>
  intro l
  rcases cJ (d7 c) with ag|ag
  ·rw[jc ag];exact congrArg (λz=>l++([c]++z)) (ai [])
  ·rw[iK ag,ai,bt];rfl
section
variable {fold:Bool} {e:List Nat}
theorem LW (bu:el e): ∀L:List cQ,hi L->hu L=aZ ((dK fold e L).1.map dV)++uW L:=λL=>by
 induction L with
 |nil=>exact λ_=>rfl
 |cons p L ai=>
  intro h
  obtain ⟨l,d⟩:=p
  cases l with
  |nil=>
   show d++hu L=(dV (ej e d)++aZ ((dK fold e L).1.map dV))++uW L
   rw[ai h.aO,uC bu (h.ds (d5 rfl)),bt]
  |cons a l=>rfl
theorem LQ: ∀L:List cQ,(dK fold e L).2= []->uW L= []:=λL=>by
 induction L with
 |nil=>exact λ_=>rfl
 |cons p L ai=>
  obtain ⟨l,d⟩:=p
  cases l with
  |nil=>exact ai
  |cons a l=>exact λh=>absurd h (c9 _ _)
def qx (l:List Nat):Option Bool:=cond (aM l [45]) (ab ac) (cond (aM l [43]) (ab aa) af)
theorem acW {ch:Option Bool} {C:List (List Nat)} {b:List Nat} {E:List (List Nat)}:aZ (m3 ch (C,b,E))=aZ C++aZ (m3 ch ([],b,E)):=by
 cases ch with
 |none=>exact dG C [b]
 |some c=>cases c with
  |true=>exact dG C (b::E.map dV)
  |false=>exact(dj _).symm
theorem CI {A B:List (List Nat)} {l:List Nat}:aZ (A++B++ [l])=aZ A++(aZ B++l):=by
 rw[dG,dG,show aZ [l]=l from dj l,bt]
theorem adC (bu:el e): ∀L:List cQ,hi L->(dK fold e L).2≠ []-> ∀ea C:List (List Nat),aZ (m3 (qx (d6 L)) (m5 fold (dK fold e L).2 ea C))=aZ C++(aZ (ea.map dV)++uW L):=λL=>by
 induction L with
 |nil=>exact λ_ h=>absurd rfl h
 |cons p L ai=>
  intro bV h ea C
  obtain ⟨l,d⟩:=p
  cases l with
  |nil=>cases L with
   |nil=>exact absurd rfl h
   |cons p L=>exact ai bV.aO h ea C
  |cons a l=>
   have I2:(fold&&(!aM [a] [32]&&(aM d [10]&&hQ L)))=ac->fB fold e (a::l) d L= []:=λh=>fm h
   show aZ (m3 (qx (d6 ((a::l,d)::L))) (m5 fold ((a::l,ej e d,fB fold e (a::l) d L++(dK fold e L).1)::(dK fold e L).2) ea C))=aZ C++(aZ (ea.map dV)++((a::l)++(d++hu L)))
   cases L with
   |nil=>
    rw[I2 (by show(fold&&(!aM [a] [32]&&(aM d [10]&&ac)))=ac;rw[ho,ho,ho])]
    show aZ (m3 (qx (d6 [(a::l,d)])) (C++ea.map dV++ [a::l],dV (ej e d),[]))=_
    rw[acW,CI,bt,bt]
    refine congrArg (aZ C++ ·) (congrArg (aZ (ea.map dV)++ ·) (congrArg ((a::l)++ ·) ?_))
    rcases bV.2 with hd|hd|hd
    ·rw[uC bu (d5 hd),hd];rfl
    ·rw[uC bu (cW hd),hd];rfl
    ·rw[hd.1];rfl
   |cons p L=>
    have hd:=bV.ds (cW (c9 _ _))
    have Mk:=uC bu hd
    have Xc:=LW (fold:=fold) bu (p::L) bV.aO
    have nl:=K2 (fold:=fold) (e:=e) (p::L) bV.aO
    have fn:=LQ (fold:=fold) (e:=e) (p::L)
    have ld:= @N2 fold e (p::L)
    have ai:=ai bV.aO
    show aZ (m3 (qx (d6 (p::L))) _)=_
    rw[Xc]
    revert nl fn ld ai
    cases (dK fold e (p::L)).2 with
    |nil=>
     intro nl fn _ _
     have nl:=nl rfl
     rw[nl.2 (c9 _ _),I2 (by rw[nl.1,ho,ho,ho]),fn rfl,dj]
     show aZ (C++ea.map dV++ [a::l]++dV (ej e d)::(dK fold e (p::L)).1.map dV)=_
     rw[dG,CI,Mk,bt,bt]
     rfl
    |cons b B=>
     intro _ _ ld ai
     have ai:=ai (c9 _ _) (fB fold e (a::l) d (p::L)++(dK fold e (p::L)).1) (C++ea.map dV++ [a::l]++sep fold (ej e d) (a::l) b.1)
     refine ai.trans ?_
     have key:aZ (sep fold (ej e d) (a::l) b.1)++aZ ((fB fold e (a::l) d (p::L)).map dV)=d:=by
      unfold sep fB
      show aZ (cond (fold&&(aM (dV (ej e d)) [10]&&(lead (a::l)&&lead b.1))) [] [dV (ej e d)])++aZ ((cond (fold&&(!aM [a] [32]&&(aM d [10]&&hQ (p::L)))) [e] []).map dV)=d
      rw[Mk,Ea bV.ch,ld bV.aO rfl,<-wD (aM d [10]),Hh (aM d [10]),wD]
      rcases cJ (aM d [10]) with aq|aq
      ·rw[gL.mp aq]
       cases fold&&(!aM [a] [32]&&(aM [10] [10]&&lead b.1)) with
       |true=>exact(dj _).trans (K9 bu)
       |false=>rfl
      ·rw[aq,wF,ho,ho]
       exact(dj _).trans (dj d)
     rw[dG,CI,lD,dG,bt,bt,bt,bt,<-bt (aZ (sep fold (ej e d) (a::l) b.1)),key]
theorem Ur (L:List cQ):(dK fold e L).1.length+cnt (dK fold e L).2<=3*L.length:=by
 induction L with
 |nil=>exact fi _
 |cons p L ai=>
  obtain ⟨l,d⟩:=p
  cases l with
  |nil=>
   show(dK fold e L).1.length+1+cnt (dK fold e L).2<=3*(L.length+1)
   omega
  |cons a l=>
   have aH:(fB fold e (a::l) d L).length<=1:=by
    unfold fB
    cases hH fold (a::l) d L<;>exact cS rfl
   show 0+(2+(fB fold e (a::l) d L++(dK fold e L).1).length+cnt (dK fold e L).2)<=3*(L.length+1)
   rw[bL]
   omega
end
theorem vw: ∀r l:List Nat,(b7 l r).length<=r.length+1:=λr=>by
 induction r with
 |nil=>
  intro l
  cases l with
  |nil=>exact fu _
  |cons a l=>exact fi _
 |cons c r ai=>
  intro l
  rcases cJ (d7 c) with ag|ag
  ·rw[jc ag];exact iX (ai [])
  ·rw[iK ag];exact tR (ai _)
theorem X9 (z y:Bool):yG z y= []\/yG z y= [45]\/yG z y= [43]:=by cases z<;>cases y<;>decide
def UK (x:List Nat):Prop:= ∀c∈x,d7 c=aa\/(¬c∈kA/\c≠9)
theorem UB {fold:Bool} {e t:List Nat} {n a:Nat} {be:List Nat} (bu:el e) (ar:fp n) (aD: ∀c∈a::be,q7 c) (Dx:UK (a::be)) (ci:Tok t) (aA:(a::be).length<=12):
  BT fold n (dI n (a::be)++(f7 (a::be)++(e++aZ (eO fold n e (b7 [] (a::be)))))) t (a::be):=by
 have DF:0<n:=by rcases ar with rfl|rfl|rfl<;>decide
 have mQ:=Pa (a::be) [] Dx nofun
 have Yt:d6 (b7 [] (a::be))=f7 (a::be):=by rw[Ds aD,Mh];rfl
 refine bT (Eo (a::be) [] (cW (c9 _ _))) λp L hp=> ?_
 have sI:aZ (vJ fold (qx (d6 (b7 [] (a::be)))) (dK fold e (b7 [] (a::be))).2 (dK fold e (b7 [] (a::be))).1)=a::be:=by
  have ey:=(LW (fold:=fold) bu _ mQ).symm.trans (Xe (a::be) [])
  have R:=adC (fold:=fold) bu _ mQ
  have N:=K2 (fold:=fold) (e:=e) _ mQ
  have F:=LQ (fold:=fold) (e:=e) (b7 [] (a::be))
  unfold vJ
  revert R N F
  cases (dK fold e (b7 [] (a::be))).2 with
  |cons b B=>exact λR _ _=> (R (c9 _ _) _ []).trans ey
  |nil=>
   intro _ N F
   rw[(N rfl).2 (hp▸c9 _ _)]
   rw[F rfl,dj] at ey
   exact ey
 refine⟨cond (pg (b7 [] (a::be))) (ab n) af,qx (d6 (b7 [] (a::be))),e,(dK fold e (b7 [] (a::be))).1,(dK fold e (b7 [] (a::be))).2,⟨?_, ?_,A8 bu (zu DF ci _),bu.hd,Cz bu DF ci _,Ut bu DF ci _ mQ,Us bu _ mQ, ?_, ?_, ?_⟩, ?_,sI⟩
 ·exact cW (by rcases ar with rfl|rfl|rfl<;>simp)
 ·cases pg (b7 [] (a::be)) with
  |true=>exact cW rfl
  |false=>exact d5 rfl
 ·have:=Ur (fold:=fold) (e:=e) (b7 [] (a::be))
  have:=vw (a::be) []
  omega
 ·rw[sI];exact bf aA (by decide)
 ·rw[hp]
  obtain ⟨l,d⟩:=p
  cases l with
  |nil=>exact λh=>nomatch h
  |cons b l=>
   refine λh=> ⟨rfl,_,_,rfl,λg=> ?_⟩
   rw[show b=32 from g] at h
   exact nomatch h
 ·have aq:dI n (a::be)=yT (cond (pg (b7 [] (a::be))) (ab n) af):=by
   rw[Mf (aD a eo)]
   cases pg (b7 [] (a::be)) with
   |true=>rcases ar with rfl|rfl|rfl<;>rfl
   |false=>rfl
  have aC:f7 (a::be)=yS (qx (d6 (b7 [] (a::be)))):=by
   rw[Yt,Ds aD,Mg]
   rcases X9 (d7 ((a::be).getLastD 0)) (Pn aa a be) with h|h|h<;>rw[h]<;>rfl
  rw[aq,aC]
  unfold wa
  rw[Uv,bt,bt,bt]
noncomputable def da (p:cQ):aj:= .tup [.str p.1,.str p.2]
noncomputable def hC:List Nat->List Nat->List cQ×List Nat
 |l,[]=> ([],l)
 |l,c::r=>cond (d7 c) ((l,[c])::(hC [] r).1,(hC [] r).2) (hC (l++ [c]) r)
noncomputable def En:List Nat->List cQ
 | []=> []
 |a::l=> [(a::l,[])]
theorem abj: ∀r l:List Nat,b7 l r=(hC l r).1++En (hC l r).2:=λr=>by
 induction r with
 |nil=>
  intro l
  cases l with
  |nil=>rfl
  |cons a l=>rfl
 |cons c r ai=>
  intro l
  rcases cJ (d7 c) with ag|ag
  ·rw[jc ag,ai [],show hC l (c::r)=((l,[c])::(hC [] r).1,(hC [] r).2) from gk ag];rfl
  ·rw[iK ag,ai,show hC l (c::r)=hC (l++ [c]) r from fm ag]
def abk:S:=Cw.aO.aO.hd
def ll (A:List cQ):List ae:=A.map λp=> .f (da p)
theorem MP {c:Nat}:bO [c] [10,8232]=d7 c:=congrArg (aM [c] [10] || ·) (rH _)
theorem NI (A:List cQ) (p:cQ):ll (A++ [p])=ll A++ [.f (da p)]:=lD
theorem NJ (A:List cQ):(ll A).length=A.length:=ed _
noncomputable def zi (x l:List Nat) (c:Option ae) (A:List ae) (hp:b4):St:=⟨[(71,ab (.f (.str x))),(58,ab (.ap 100)),(30,ab (.f (.str l))),(1,c)],hp,[(100,.list A)],[100]⟩
section
variable {x:List Nat} {hp:b4}
theorem abn: ∀(r l:List Nat) (A:List cQ) (c:Option ae),l.length+r.length<=1000->A.length+r.length<=1000->
  ∃f6,aJ (gW 1 (bN (aI []) abk.bd) (qy r) (zi x l c (ll A) hp)) .aQ (zi x (hC l r).2 f6 (ll (A++(hC l r).1)) hp):=λr=>by
 induction r with
 |nil=>exact λl A c _ _=> ⟨c,by rw[show A++(hC l []).1=A from dj A];exact la⟩
 |cons a r ai=>
  intro l A c aq aC
  rw[du] at aq aC
  rcases cJ (d7 a) with ag|ag
  ·refine ak (ai [] (A++ [(l,[a])]) (ab (.f (.str [a]))) (bf (by rw[eX];omega) aq) (by rw[bL,du,eX];omega)) λf6 i=> ⟨f6, ?_⟩
   rw[show hC l (a::r)=((l,[a])::(hC [] r).1,(hC [] r).2) from gk ag,show A++((l,[a])::(hC [] r).1)=(A++ [(l,[a])])++(hC [] r).1 from(bt A [(l,[a])] _).symm]
   refine k9 (σ₁:=zi x [] (ab (.f (.str [a]))) (ll (A++ [(l,[a])])) hp) ?_ i
   rw[NI]
   exact gT λ_ _ F k=>F aa (MP.trans ag) (fZ (l:=ll A) (by rw[NJ];omega)) k
  ·refine ak (ai (l++ [a]) A (ab (.f (.str [a]))) (by rw[bL,du,eX];omega) (by omega)) λf6 i=> ⟨f6, ?_⟩
   rw[show hC l (a::r)=hC (l++ [a]) r from fm ag]
   refine k9 (σ₁:=zi x (l++ [a]) (ab (.f (.str [a]))) (ll A) hp) ?_ i
   exact gT λ_ _ F k=>F ac (MP.trans ag) (by rw[bL,du,eX];omega:(l++ [a]).length<=16777216) k
theorem QG (A:List cQ):eL (ll A)=ab (A.map da):=(congrArg eL (oH (f:=da) (g:=ae.f)).symm).trans (wk _)
theorem ae5 (aH:x.length<=1000):aJ (GQ [.f (.str x)] hp) (.f (.lst ((b7 [] x).map da))) hp:=by
 delta GQ
 have E:=abj x []
 have N:=vw x []
 refine ak (abn (x:=x) (hp:=hp) x [] [] af (by rw[eX];omega) (by rw[eX];omega)) λc L=> ?_
 revert E L
 rw[RP]
 generalize hC [] x=P
 intro E L
 obtain ⟨A,l⟩:=P
 rw[E] at N
 have N:(A++En l).length<=x.length+1:=N
 cases l with
 |nil=>
  rw[E,show A++En []=A from dj A]
  exact aV λ_ _ F k=>F _ rfl _ _ L ac rfl _ (QG A) k
 |cons a l=>
  rw[E]
  have e:ll (A++ [(a::l,[])])=ll A++ [.f (da (a::l,[]))]:=NI A _
  have U:=QG (A++ [(a::l,[])])
  rw[e] at U
  exact aV λ_ _ F k=>F _ rfl _ _ L aa rfl (fZ (l:=ll A) (by rw[NJ];rw[bL] at N;omega)) _ U k
end
theorem lX {l:List aj} {i:Int} {v:aj} (hs:cm l=aa) (h:gd l i=ab v):mU (.f (.lst l)) (.f (.int i)) pY=ab (.f v):=by
 show(match cm l with
  |true=>match gd l i with
   |some v=>ab (ae.f v)
   |none=>af
  |false=>af)=_
 rw[hs,h]
noncomputable def qY:List cQ->List aj
 | []=> []
 |p::L=>match p.1 with
  | []=>qY L
  |a::l=> .str (a::l)::qY L
theorem aaE (L:List cQ):lY (L.map da)=ab (qY L):=by
 induction L with
 |nil=>rfl
 |cons p L ai=>
  obtain ⟨l,d⟩:=p
  cases l with
  |nil=>
   show(match lY (L.map da) with
    |some l=>ab l
    |none=>af)=_
   rw[ai];rfl
  |cons a l=>
   show(match lY (L.map da) with
    |some r=>ab (aj.str (a::l)::r)
    |none=>af)=_
   rw[ai];rfl
theorem abz (L:List cQ):(qY L= []/\hQ L=ac)\/ ∃a l F,qY L= .str (a::l)::F/\hQ L= !aM [a] [32]/\F.length<=L.length:=by
 have N: ∀L:List cQ,(qY L).length<=L.length:=λL=>by
  induction L with
  |nil=>exact fi _
  |cons p L ai=>
   obtain ⟨l,d⟩:=p
   cases l with
   |nil=>exact tR ai
   |cons a l=>exact iX ai
 induction L with
 |nil=>exact d5 ⟨rfl,rfl⟩
 |cons p L ai=>
  obtain ⟨l,d⟩:=p
  cases l with
  |nil=>exact ai.imp id λh=>c5 h λa l F h=> ⟨a,l,F,h.1,h.2.1,tR h.2.2⟩
  |cons a l=>exact cW ⟨a,l,qY L,rfl,rfl,tR (N L)⟩
theorem FD {P:List cQ} {p:cQ} {L:List cQ} (hs:cm ((P++p::L).map da)=aa):ti (.f (.lst ((P++p::L).map da))) (.f (.int (.ofNat (P.length+1)))) (.f .none) pY=ab (.f (.lst (L.map da))):=by
 show(match cm ((P++p::L).map da) with
  |true=>match iu ((P++p::L).map da) (.int (.ofNat (P.length+1))) .none with
   |some r=>ab (ae.f (.lst r))
   |none=>af
  |false=>af)=_
 rw[hs]
 show ab (ae.f (.lst ((((P++p::L).map da).drop (P.length+1)).take (((P++p::L).map da).length- (P.length+1)))))=_
 rw[show((P++p::L).map da).drop (P.length+1)=L.map da by rw[lD,p2,<-AW,List.drop_left' (ed _)];rfl,HS]
 rw[ed,ed,bL,du];omega
structure oY where
 h:List Nat
 fold:Bool
 M:List cQ
 n:Nat
 e:List Nat
structure uf where
 i:Option ae
 l:Option ae
 d:Option ae
 t:Option ae
noncomputable def S.gB:S->S
 | .qI _ _ b=>b
 |_=> .nil
def Qv:S:=xU.aO.aO.aO.aO.hd
def aha (n:Nat):S:=n.repeat S.aO Qv.gB
def jn (v:oY) (o:uf) (A:List (List Nat)) (hp:b4):St:=⟨[(27,ab (.f (.str v.h))),(68,ab (.f (.str [bJ v.fold]))),(58,ab (.f (.lst (v.M.map da)))),(38,ab (.f (.int (.ofNat v.n)))),(83,ab (.f (.str v.e))),(36,ab (.ap 100)),(2,o.i),(30,o.l),(9,o.d),(56,o.t)],hp,[(100,.list (cf A))],[100]⟩
def ug (n:Nat) (σ σ':St):Prop:= ∀(G:Prop) (K:cD->St->aB),aB.path G (bN (aI []) (aha n).hd σ K)->aB.path G (K .aQ σ')
noncomputable def m2 (i:Nat) (l d:List Nat) (t:Option ae):uf:=⟨ab (.f (.int (.ofNat i))),ab (.f (.str l)),ab (.f (.str d)),t⟩
section
variable {v:oY} {o:uf} {A:List (List Nat)} {hp:b4} {P L:List cQ} {l d:List Nat} {t:Option ae}
theorem ahb (qN:v.M=P++(l,d)::L) (hs:cm (v.M.map da)=aa) (bj:o.i=ab (.f (.int (.ofNat P.length)))):ug 0 (jn v o A hp) (jn v (m2 P.length l d o.t) A hp):=λG K F=>by
 obtain ⟨i,Nj,aiF,t⟩:=o
 cases bj
 exact F _ (lX (i:= .ofNat P.length) (v:=da (l,d)) hs (by rw[qN];show((P++(l,d)::L).map da)[P.length]? =_;rw[HK,tN (fi _),w2];rfl))
theorem Lw {v:oY} {o:uf} {A B:List (List Nat)} {hp:b4}:jn v o (A++B) hp={jn v o A hp with lh:= [(100,.list (cf A++cf B))]}:=congrArg (λz=> ({jn v o A hp with lh:= [(100,.list z)]}:St)) (h4 A B)
theorem ahc {i:Nat} (ar:v.n<=10) (he:v.e.length<=10) (aA:l.length<=1000) (hd:d.length<=10) (aw:cm (cf A)=aa):ug 1 (jn v (m2 i l d t) A hp) (jn v (m2 i l d t) (A++ [lj v.n l++ej v.e d]) hp):=λG K F=>by
 have I:(lj v.n l).length<=1010:=by
  cases l with
  |nil=>exact fu _
  |cons a l=>rw[show lj v.n (a::l)=gP v.n 32++(a::l) from rfl,bL,A3];omega
 have S: ∀w:List Nat,w.length<=10->(lj v.n l++w).length<=16777216:=λw h=>by rw[bL];omega
 rw[Lw (v:=v)]
 rcases cJ (aM d [8232]) with lT|lT
 ·rw[show ej v.e d=d from gk lT]
  have S:=S d hd
  cases l with
  |nil=>exact F ac rfl aa lT S aw
  |cons a l=>exact F aa rfl ⟨(by omega:(-1000:Int)< (v.n:Int)),(by omega:(v.n:Int)<1000)⟩ (bf I (by decide)) aa lT S aw
 ·rw[show ej v.e d=v.e from fm lT]
  have S:=S v.e he
  cases l with
  |nil=>exact F ac rfl ac lT S aw
  |cons a l=>exact F aa rfl ⟨(by omega:(-1000:Int)< (v.n:Int)),(by omega:(v.n:Int)<1000)⟩ (bf I (by decide)) ac lT S aw
theorem ahd (qN:v.M=P++(l,d)::L) (hm:v.M.length<=10000) (aw:cm (cf A)=aa): ∃dR,ug 2 (jn v (m2 P.length l d t) A hp) (jn v (m2 P.length l d dR) (A++fB v.fold v.e l d L) hp):=by
 obtain ⟨h,fold,M,n,e⟩:=v
 cases qN
 have hm:(P++(l,d)::L).length<=10000:=hm
 have hs:cm ((P++(l,d)::L).map da)=aa:=fZ (by rw[ed];exact bf hm (by decide))
 have d6:L.length<=10000:=by rw[bL,du] at hm;omega
 have N:hH fold l d L=ac-> ∀dR,ug 2 (jn ⟨h,fold,P++(l,d)::L,n,e⟩ (m2 P.length l d t) A hp) (jn ⟨h,fold,P++(l,d)::L,n,e⟩ (m2 P.length l d dR) A hp)-> ∃dR,ug 2 (jn ⟨h,fold,P++(l,d)::L,n,e⟩ (m2 P.length l d t) A hp) (jn ⟨h,fold,P++(l,d)::L,n,e⟩ (m2 P.length l d dR) (A++fB fold e l d L) hp):=λh dR T=> ⟨dR,by rw[show fB fold e l d L= [] from fm h,dj];exact T⟩
 cases fold with
 |false=>
  exact N rfl t λG K F=>by exact F ac rfl
 |true=>cases l with
  |nil=>
   exact N rfl t λG K F=>by exact F aa rfl _ rfl ac rfl
  |cons a l=>
   rcases cJ (aM [a] [32]) with aq|aq
   ·refine N (by show(aa&&(!aM [a] [32]&&(aM d [10]&&hQ L)))=ac;rw[aq];rfl) t λG K F=> ?_
    exact F aa rfl _ rfl aa rfl _ rfl _ (congrArg not aq)
   rcases cJ (aM d [10]) with aC|aC
   ·have X:hH aa (a::l) d L=hQ L:=by show(aa&&(!aM [a] [32]&&(aM d [10]&&hQ L)))=hQ L;rw[aq,aC];cases hQ L<;>rfl
    have Fy:cm (L.map da)=aa:=fZ (by rw[ed];exact bf d6 (by decide))
    have T:=abz L
    have C:=aaE L
    rcases T with T|T
    ·rw[T.1] at C
     refine N (X.trans T.2) (ab (.f (.lst []))) λG K F=> ?_
     exact F aa rfl _ rfl aa rfl _ rfl _ (congrArg not aq) aa aC _ (FD hs) _ C Fy rfl ac rfl
    ·refine c5 T λa2 e0 R T=> ?_
     rw[T.1] at C
     have l8:cm (aj.str (a2::e0)::R)=aa:=fZ (bf (iX (bf T.2.2 d6)) (by decide))
     rcases cJ (aM [a2] [32]) with bz|bz
     ·refine N (X.trans (T.2.1.trans (by rw[bz];rfl))) (ab (.f (.lst (.str (a2::e0)::R)))) λG K F=> ?_
      exact F aa rfl _ rfl aa rfl _ rfl _ (congrArg not aq) aa aC _ (FD hs) _ C Fy l8 aa rfl _ (lX (i:=0) (v:= .str (a2::e0)) l8 rfl) _ rfl _ (congrArg not bz)
     ·refine⟨ab (.f (.lst (.str (a2::e0)::R))), ?_⟩
      rw[show fB aa e (a::l) d L= [e] from gk (X.trans (T.2.1.trans (by rw[bz];rfl))),Lw]
      intro G K F
      exact F aa rfl _ rfl aa rfl _ rfl _ (congrArg not aq) aa aC _ (FD hs) _ C Fy l8 aa rfl _ (lX (i:=0) (v:= .str (a2::e0)) l8 rfl) _ rfl _ (congrArg not bz) aw
   ·refine N (by show(aa&&(!aM [a] [32]&&(aM d [10]&&hQ L)))=ac;rw[aq,aC];rfl) t λG K F=> ?_
    exact F aa rfl _ rfl aa rfl _ rfl _ (congrArg not aq) ac aC
def vI (L:List cQ):Prop:= ∀p∈L,p.1.length<=1000/\p.2.length<=10
theorem ahe (ar:v.n<=10) (he:v.e.length<=10) (hm:v.M.length<=10000): ∀(L P:List cQ) (A:List (List Nat)) (o:uf),v.M=P++L->vI L->A.length+2*L.length<=100000->
  ∃ef,aJ (gW 2 (bN (aI []) Qv.gB) (n9 (.ofNat P.length) L.length) (jn v o A hp)) .aQ (jn v ef (A++eO v.fold v.n v.e L) hp):=λL=>by
 induction L with
 |nil=>exact λP A o _ _ _=> ⟨o,by rw[show A++eO v.fold v.n v.e []=A from dj A];exact la⟩
 |cons p L ai=>
  intro P A o qN lU aw
  obtain ⟨l,d⟩:=p
  rw[du] at aw
  have ag:=lU _ eo
  have aH:(fB v.fold v.e l d L).length<=1:=by
   unfold fB
   cases hH v.fold l d L<;>exact cS rfl
  have hs:cm (v.M.map da)=aa:=fZ (by rw[ed];exact bf hm (by decide))
  have aeb:cm (cf A)=aa:=fZ (by rw[lN];omega)
  have sB:cm (cf (A++ [lj v.n l++ej v.e d]))=aa:=fZ (by rw[lN,bL,du,eX];omega)
  have T0:=ahb (v:=v) (A:=A) (hp:=hp) (o:=⟨ab (.f (.int (.ofNat P.length))),o.l,o.d,o.t⟩) qN hs rfl
  have lK:=ahc (v:=v) (t:=o.t) (l:=l) (d:=d) (i:=P.length) (hp:=hp) ar he ag.1 ag.2 aeb
  refine ak (ahd (v:=v) (t:=o.t) (hp:=hp) qN hm sB) λdR mC=> ?_
  refine ak (ai (P++ [(l,d)]) ((A++ [lj v.n l++ej v.e d])++fB v.fold v.e l d L) (m2 P.length l d dR) (qN.trans (bt P [(l,d)] L).symm) (λp hp=>lU p (eY _ hp)) (by rw[bL,bL,du,eX];omega)) λef i=> ⟨ef, ?_⟩
  have e:A++eO v.fold v.n v.e ((l,d)::L)=((A++ [lj v.n l++ej v.e d])++fB v.fold v.e l d L)++eO v.fold v.n v.e L:=by rw[bt,bt];rfl
  rw[e]
  rw[show(P++ [(l,d)]).length=P.length+1 from bL] at i
  exact k9 (σ:=jn v o A hp) (gT λG W F k=>mC _ _ (lK _ _ (T0 _ _ F)) k) i
end
noncomputable def D4 (p:cQ):List Nat:=match p.2 with
 | []=> [45]
 |_::_=>match p.1 with
  | []=> [43]
  |_::_=> []
theorem Dt: ∀(L:List cQ) (p:cQ),∃q,q∈p::L/\d6 (p::L)=D4 q/\gd ((p::L).map da) (-1)=ab (da q):=λL=>by
 induction L with
 |nil=>exact λp=> ⟨p,eo,by obtain ⟨l,d⟩:=p;cases d<;>cases l<;>rfl,rfl⟩
 |cons r L ai=>
  intro p
  refine ak (ai r) λq h=> ⟨q,eY _ h.1,(by obtain ⟨l,d⟩:=p;exact h.2.1), ?_⟩
  have h:=h.2.2
  revert h
  show(match gF 1 ((L.map da).length+1) with
   |true=> ((r::L).map da)[(L.map da).length]?
   |false=>af)=_->(match gF 1 ((L.map da).length+1+1) with
   |true=> ((p::r::L).map da)[(L.map da).length+1]?
   |false=>af)=_
  rw[mq (lF 1 _),mq (lF 1 _)]
  exact id
def jd (n:Nat) (L:List cQ):List Nat:=cond (pg L) (dv n) []
theorem x9 (d:Nat):(dv d).length<=2:=by unfold dv;cases d4 d 10<;>exact cS rfl
theorem Oy (n:Nat) (L:List cQ):(jd n L).length<=2:=by
 unfold jd
 cases pg L with
 |true=>exact x9 n
 |false=>exact fu _
def gA (head:List Nat) (fold:Bool) (n:Nat) (e:List Nat) (L:List cQ):List (List Nat):=(head++([bJ fold]++(jd n L++d6 L))++e)::eO fold n e L
def agS (n:Nat):S:=n.repeat S.aO xU
def Ab (v:oY) (hp:b4):St:=⟨[(27,ab (.f (.str v.h))),(68,ab (.f (.str [bJ v.fold]))),(58,ab (.f (.lst (v.M.map da)))),(38,ab (.f (.int (.ofNat v.n)))),(83,ab (.f (.str v.e))),(36,af),(2,af),(30,af),(9,af),(56,af)],hp,[],[]⟩
def I0 (n:Nat) (σ σ':St):Prop:= ∀(G:Prop) (K:cD->St->aB),aB.path G (bN (aI []) (agS n).hd σ K)->aB.path G (K .aQ σ')
noncomputable def oY.hd (v:oY) (h:List Nat):oY:=⟨h,v.fold,v.M,v.n,v.e⟩
section
variable {v:oY} {hp:b4} {p:cQ} {L:List cQ} {h e:List Nat} {fold:Bool} {n:Nat}
theorem agT (cw:h.length<=20) (ar:n<=10) (hs:cm ((p::L).map da)=aa):I0 1 (Ab ⟨h,fold,p::L,n,e⟩ hp) (Ab ⟨h++jd n (p::L),fold,p::L,n,e⟩ hp):=λG K F=>by
 have D:=x9 n
 have D:(h++dv n).length<=16777216:=by rw[bL];omega
 obtain ⟨l,d⟩:=p
 cases l with
 |nil=>exact F _ (lX (i:=0) (v:=da ([],d)) hs rfl) _ rfl aa rfl (wZ ar (by decide):n<100) D
 |cons a l=>
  have I:=lX (i:=0) (v:=da (a::l,d)) hs rfl
  rcases cJ (aM [a] [32]) with aE|aE
  ·rw[show jd n ((a::l,d)::L)=dv n from gk aE]
   exact F _ I _ rfl ac rfl _ I _ rfl _ rfl aa aE (wZ ar (by decide):n<100) D
  ·rw[show jd n ((a::l,d)::L)= [] from fm aE,dj]
   exact F _ I _ rfl ac rfl _ I _ rfl _ rfl ac aE
theorem agU (cw:h.length<=30) (hs:cm ((p::L).map da)=aa):I0 2 (Ab ⟨h,fold,p::L,n,e⟩ hp) (Ab ⟨h++d6 (p::L),fold,p::L,n,e⟩ hp):=λG K F=>by
 have cF: ∀c:Nat,(h++ [c]).length<=16777216:=λc=>by rw[bL];exact bf (h1 cw 1) (by decide)
 refine ak (Dt L p) λq Q=> ?_
 have I:=lX (i:= -1) (v:=da q) hs Q.2.2
 rw[Q.2.1]
 obtain ⟨l,d⟩:=q
 cases d with
 |nil=>exact F _ I _ rfl aa rfl (cF 45)
 |cons c d=>cases l with
  |nil=>exact F _ I _ rfl ac rfl _ I _ rfl aa rfl (cF 43)
  |cons a l=>
   rw[show h++D4 (a::l,c::d)=h from dj h]
   exact F _ I _ rfl ac rfl _ I _ rfl ac rfl
theorem X6 (L:List cQ) (p:cQ):(d6 (p::L)).length<=1:=ak (Dt L p) λq h=>by
 rw[h.2.1]
 obtain ⟨l,d⟩:=q
 cases d with
 |nil=>exact fi _
 |cons c d=>cases l with
  |nil=>exact fi _
  |cons a l=>exact fu _
theorem GU (C:List (List Nat)):eL (cf C)=ab (C.map .str):=(congrArg eL (oH (f:=aj.str) (g:=ae.f)).symm).trans (wk _)
theorem afp {head:List Nat} (cw:head.length<=10) (ar:fp n) (he:e.length<=10) (lU:vI (p::L)) (aA:(p::L).length<=1000):
  aJ (GR [.f (.str head),.f (.str [bJ fold]),.f (.lst ((p::L).map da)),.f (.int (.ofNat n)),.f (.str e)] hp) (.f (.lst ((gA head fold n e (p::L)).map .str))) hp:=by
 delta GR
 have ar:n<=10:=by rcases ar with rfl|rfl|rfl<;>decide
 have hs:cm ((p::L).map da)=aa:=fZ (by rw[ed];exact bf aA (by decide))
 have l1:(head++ [bJ fold]).length<=11:=by rw[bL];exact h1 cw 1
 have e0:((head++ [bJ fold])++jd n (p::L)).length<=13:=by rw[bL];exact fW l1 (Oy _ _)
 have pB:(((head++ [bJ fold])++jd n (p::L))++d6 (p::L)).length<=14:=by rw[bL];exact fW e0 (X6 _ _)
 have ZZ:((((head++ [bJ fold])++jd n (p::L))++d6 (p::L))++e).length<=24:=by rw[bL];exact fW pB he
 have lK:=agT (fold:=fold) (e:=e) (hp:=hp) (bf l1 (by decide)) ar hs
 have mC:=agU (fold:=fold) (e:=e) (n:=n) (hp:=hp) (bf e0 (by decide)) hs
 refine ak (ahe (v:=⟨((head++ [bJ fold])++jd n (p::L))++d6 (p::L),fold,p::L,n,e⟩) (hp:=hp) ar he (bf aA (by decide)) (p::L) [] [(((head++ [bJ fold])++jd n (p::L))++d6 (p::L))++e] ⟨af,af,af,af⟩ rfl lU (by rw[du,eX];omega)) λef W=> ?_
 have E:gA head fold n e (p::L)= [(((head++ [bJ fold])++jd n (p::L))++d6 (p::L))++e]++eO fold n e (p::L):=by
  unfold gA
  rw[<-bt,<-bt];rfl
 rw[E]
 rw[show(p::L).length=((p::L).map da).length from(ed _).symm] at W
 have R: -1000000<=c1 ((p::L).map da).length/\c1 ((p::L).map da).length<=1000000:=⟨AR (by decide) (kU _),by rw[ed];exact oG.mpr (bf aA (by decide))⟩
 refine aV λG K F k=> ?_
 have F:=mC _ _ (lK _ _ (F (bf l1 (by decide))))
 exact F (bf ZZ (by decide)) _ rfl hs R _ _ W _ (GU _) k
end
structure bB where
 PY:Option ae
 hu:Option ae
 ind:Option ae
 ask:Option ae
 bU:Option ae
 ic:Option ae
 jG:Option ae
 row:Option ae
 j2:Option ae
 clo:Option ae
 dq:Option ae
 i:Option ae
 n:Option ae
 m:Option ae
 iT:Option ae
 tag:Option ae
 hn:Option ae
 val:Option ae
 eb:Option ae
 dg:Option ae
 eu:Option ae
 ez:Option ae
 txt:Option ae
 ra:Option ae
 got:Option ae
noncomputable def bB.loc (r:bB):List (Nat×Option ae):= [(93,r.PY),(52,r.hu),(88,r.ind),(46,r.ask),(83,r.bU),(38,r.ic),(103,r.jG),(36,r.row),(8,r.j2),(81,r.clo),(106,r.dq),(2,r.i),(4,r.n),(3,r.m),(110,r.iT),(39,r.tag),(68,r.hn),(71,r.val),(42,r.eb),(66,r.dg),(87,r.eu),(58,r.ez),(41,r.txt),(90,r.ra),(11,r.got)]
noncomputable def bB.sn (r:bB) (v:Nat):bB:={r with n:=ab (.f (.int (.ofNat v)))}
noncomputable def bB.eA (r:bB) (v:Nat):bB:={r with m:=ab (.f (.int (.ofNat v)))}
noncomputable def bB.a6 (r:bB) (v:aj):bB:={r with iT:=ab (.f v)}
noncomputable def bB.st (r:bB) (v:aj):bB:={r with tag:=ab (.f v)}
noncomputable def bB.ro (r:bB) (v:List Nat):bB:={r with hn:=ab (.f (.str v))}
noncomputable def bB.oo (r:bB) (v:List Nat):bB:={r with val:=ab (.f (.str v))}
noncomputable def bB.PZ (r:bB) (v:Bool):bB:={r with eb:=ab (.f (.bool v))}
noncomputable def bB.ss (r:bB) (v:Bool):bB:={r with dg:=ab (.f (.bool v))}
noncomputable def bB.vY (r:bB) (v:Option ae):bB:={r with eu:=v}
noncomputable def bB.aK (r:bB) (v:List aj):bB:={r with ez:=ab (.f (.lst v))}
noncomputable def bB.sc (r:bB) (v:Bool):bB:={r with clo:=ab (.f (.bool v))}
noncomputable def bB.jm (r:bB) (v:Bool):bB:={r with dq:=ab (.f (.bool v))}
noncomputable def bB.cx (r:bB) (e:List Nat) (n:Nat):bB:={r with bU:=ab (.f (.str e)),ic:=ab (.f (.int (.ofNat n))),jG:=ab (.ap 10),row:=ab (.ap 101),j2:=ab (.ap 102)}
noncomputable def bB.th (r:bB) (v:Nat):bB:={r with i:=ab (.f (.int (.ofNat v)))}
structure ff (r:bB) (e:List Nat) (n:Nat):Prop where
 bU:r.bU=ab (.f (.str e))
 ic:r.ic=ab (.f (.int (.ofNat n)))
 jG:r.jG=ab (.ap 10)
 row:r.row=ab (.ap 101)
 j2:r.j2=ab (.ap 102)
section
variable {r:bB}
theorem ff.eq {e:List Nat} {n:Nat} (h:ff r e n):r=r.cx e n:=
 (congrArg (λo=> ({r with bU:=o}:bB)) h.bU).trans ((congrArg (λo=> ({r with bU:=ab (.f (.str e)),ic:=o}:bB)) h.ic).trans ((congrArg (λo=> ({r with bU:=ab (.f (.str e)),ic:=ab (.f (.int (.ofNat n))),jG:=o}:bB)) h.jG).trans
  ((congrArg (λo=> ({r with bU:=ab (.f (.str e)),ic:=ab (.f (.int (.ofNat n))),jG:=ab (.ap 10),row:=o}:bB)) h.row).trans (congrArg (λo=> ({r with bU:=ab (.f (.str e)),ic:=ab (.f (.int (.ofNat n))),jG:=ab (.ap 10),row:=ab (.ap 101),j2:=o}:bB)) h.j2))))
theorem vE {n:Nat} (h:r.n=ab (.f (.int (.ofNat n)))):r=r.sn n:=congrArg (λo=> ({r with n:=o}:bB)) h
theorem OA {n:Nat} (h:r.m=ab (.f (.int (.ofNat n)))):r=r.eA n:=congrArg (λo=> ({r with m:=o}:bB)) h
theorem Mz {n:Nat} (h:r.i=ab (.f (.int (.ofNat n)))):r=r.th n:=congrArg (λo=> ({r with i:=o}:bB)) h
theorem Ay {v:aj} (h:r.iT=ab (.f v)):r=r.a6 v:=congrArg (λo=> ({r with iT:=o}:bB)) h
theorem z8 {v:aj} (h:r.tag=ab (.f v)):r=r.st v:=congrArg (λo=> ({r with tag:=o}:bB)) h
theorem G6 {v:List Nat} (h:r.hn=ab (.f (.str v))):r=r.ro v:=congrArg (λo=> ({r with hn:=o}:bB)) h
theorem G3 {v:List Nat} (h:r.val=ab (.f (.str v))):r=r.oo v:=congrArg (λo=> ({r with val:=o}:bB)) h
theorem mM {v:Bool} (h:r.eb=ab (.f (.bool v))):r=r.PZ v:=congrArg (λo=> ({r with eb:=o}:bB)) h
theorem PF {v:Bool} (h:r.dg=ab (.f (.bool v))):r=r.ss v:=congrArg (λo=> ({r with dg:=o}:bB)) h
theorem Nl {v:List aj} (h:r.ez=ab (.f (.lst v))):r=r.aK v:=congrArg (λo=> ({r with ez:=o}:bB)) h
theorem uE {v:Bool} (h:r.clo=ab (.f (.bool v))):r=r.sc v:=congrArg (λo=> ({r with clo:=o}:bB)) h
theorem yC {v:Bool} (h:r.dq=ab (.f (.bool v))):r=r.jm v:=congrArg (λo=> ({r with dq:=o}:bB)) h
end
def SL (w:Bool):cL:=⟨jm,jl,ma,oj,gC,pI,[(40,.ap 20),(43,.f (.bool w))]⟩
noncomputable def Et:S:=(.aN 4 (.call (.gl 126) (.cons (.clo 40) .nil) .nil))
noncomputable def Ey:S:=(.aN 3 (.call (.gl 126) (.cons (.clo 40) .nil) .nil))
noncomputable def Ez:S:=(.aN 110 (.j8 (.cmp .In (.bin .Mod (.bin .FloorDiv (.lo 4) (.a5 4)) (.a5 5)) (.lst (.cons (.a5 1) (.cons (.a5 4) .nil)))) (.tup (.cons (.a5 1) (.cons (.bin .Mod (.bin .FloorDiv (.lo 4) (.a5 20)) (.a5 12)) .nil))) .cq))
noncomputable def EA:S:=(.aN 39 (.cn (.gl 184) (.bin .Mod (.bin .FloorDiv (.lo 4) (.a5 4)) (.a5 5))))
noncomputable def EB:S:=(.aN 68 (.cn (.ks [124,62]) (.bin .Mod (.lo 3) (.a5 2))))
noncomputable def EC:S:=(.aN 71 (.join (.ks []) (.vr 0 [40,43] (.cn (.gl 166) (.bin .Mod (.call (.gl 126) (.cons (.clo 40) .nil) .nil) (.j8 (.clo 43) (.a5 14) (.a5 12)))) (.bin .Add (.a5 1) (.bin .Mod (.bin .FloorDiv (.lo 3) (.a5 2)) (.a5 3))))))
noncomputable def ED:S:=(.aN 42 (.or (.cons (.cmp .IsNot (.lo 110) .cq) (.cons (.cmp .IsNot (.lo 39) .cq) .nil))))
noncomputable def EE:S:=(.aN 66 (.or (.cons (.cmp .Gt (.lo 2) (.a5 0)) (.cons (.cmp .Eq (.bin .Mod (.lo 4) (.a5 2)) (.a5 1)) (.cons (.lo 42) .nil)))))
noncomputable def Ov:S:=(.ite (.cmp .Gt (.lo 2) (.a5 0)) (.cons (.exp (.cF (.lo 8) (.tup (.cons (.ks [100,111,99,117,109,101,110,116,32,101,110,100]) (.cons (.or (.cons (.lo 81) (.cons (.and (.cons (.lo 106) (.cons (.lo 42) .nil))) .nil))) .nil))))) .nil) .nil)
noncomputable def Oh:S:=(.ite (.and (.cons (.lo 106) (.cons (.lo 42) .nil))) (.cons (.exp (.cF (.lo 36) (.bin .Add (.ks [46,46,46]) (.lo 83)))) .nil) .nil)
noncomputable def Oi:S:=(.ite (.cmp .IsNot (.lo 110) .cq) (.cons (.exp (.cF (.lo 36) (.bin .Add (.bin .Add (.ks [37,89,65,77,76,32,49,46]) (.rm (.cn (.lo 110) (.a5 1)))) (.lo 83)))) .nil) .nil)
noncomputable def zh:S:=(.ite (.cmp .IsNot (.lo 39) .cq) (.cons (.fr 87 (.tk (.lo 39)) (.cons (.exp (.cF (.lo 36) (.bin .Add (.bin .Add (.bin .Add (.bin .Add (.ks [37,84,65,71,32]) (.lo 87)) (.ks [32])) (.cn (.lo 39) (.lo 87))) (.lo 83)))) .nil)) .nil) .nil)
noncomputable def Eu:S:=(.aN 58 (.call (.gl 143) (.cons (.lo 71) .nil) .nil))
noncomputable def Oj:S:=(.se 36 (.call (.gl 127) (.cons (.j8 (.lo 66) (.ks [45,45,45,32]) (.ks [])) (.cons (.lo 68) (.cons (.lo 58) (.cons (.lo 38) (.cons (.lo 83) .nil))))) .nil))
noncomputable def Ew:S:=(.aN 81 (.cmp .Eq (.bin .Mod (.bin .FloorDiv (.lo 4) (.a5 2)) (.a5 2)) (.a5 1)))
noncomputable def Ex:S:=(.aN 106 (.and (.cons (.not (.lo 81)) (.cons (.cmp .Eq (.cn (.cn (.lo 58) (.neg (.a5 1))) (.a5 0)) (.ks [])) .nil))))
noncomputable def Ol:S:=(.ite (.lo 81) (.cons (.exp (.cF (.lo 36) (.bin .Add (.ks [46,46,46]) (.lo 83)))) .nil) .nil)
noncomputable def Om:S:=(.exp (.cF (.lo 8) (.tup (.cons (.ks [100,111,99,117,109,101,110,116]) (.cons (.lo 66) (.cons (.lo 110) (.cons (.lo 39) .nil)))))))
noncomputable def Oo:S:=(.exp (.cF (.lo 8) (.tup (.cons (.ks [116,101,120,116]) (.cons (.lo 71) (.cons (.lo 68) .nil))))))
noncomputable def Oq:S:=(.exp (.aG (.lo 103) 25 (.cons (.call (.gl 260) .nil (.eZ 118 (.cmp .Eq (.bin .Mod (.lo 4) (.a5 2)) (.a5 1)) (.eZ 110 (.lo 110) (.eZ 39 (.lo 39) .nil)))) .nil) .nil))
noncomputable def Ot:S:=(.exp (.aG (.lo 103) 25 (.cons (.call (.gl 164) (.cons .cq (.cons .cq (.cons (.tup (.cons (.bF aa) (.cons (.bF aa) .nil))) (.cons (.lo 71) .nil)))) (.eZ 68 (.lo 68) .nil)) .nil) .nil))
noncomputable def Ou:S:=(.exp (.aG (.lo 103) 25 (.cons (.call (.gl 237) .nil (.eZ 118 (.lo 81) .nil)) .nil) .nil))
noncomputable def nc (T:List Nat):cb:= .list (T.map λn=> .f (.int (.ofNat n)))
def aF.d3 (p:aF) (T:List Nat):aF:={p with Qo:=nc T}
def b5 (r:bB) (p:aF) (ln:Nat) (R:List (List Nat)) (D:List aj):St:=⟨r.loc,p.hp ln,[(101,.list (cf R)),(102,.list (D.map .f))],[102,101]⟩
def cK (w:Bool) (s:S) (σ σ':St):Prop:= ∀(G:Prop) (K:cD->St->aB),aB.path G (bN (SL w) s σ K)->aB.path G (K .aQ σ')
noncomputable abbrev co (n:Nat):Option ae:=ab (.f (.int (.ofNat n)))
noncomputable abbrev cH (b:Bool):Option ae:=ab (.f (.bool b))
theorem Ad {T:List Nat} (h:T.length<=100):cm (T.map λn=>ae.f (.int (.ofNat n)))=aa:=fZ (by rw[ed];exact bf h (by decide))
theorem zW {p:aF} {T:List Nat} {ln:Nat} (dQ:T.length<=100):aJ (wj [.ap 20] ((p.d3 T).hp ln)) (.f (.int (.ofNat (T.headD 0)))) ((p.d3 T.tail).hp ln):=by
 delta wj
 cases T with
 |nil=>exact aV λ_ _ F k=>F rfl ac rfl k
 |cons a T=>exact aV λ_ _ F k=>F (Ad dQ) aa rfl (Ad dQ) k
section
variable {w:Bool} {r:bB} {p:aF} {ln:Nat} {R:List (List Nat)} {D:List aj}
theorem aan {T:List Nat} (dQ:T.length<=100):cK w Et (b5 r (p.d3 T) ln R D) (b5 (r.sn (T.headD 0)) (p.d3 T.tail) ln R D):=λG K F=>by exact F _ _ (zW (p:=p) dQ)
theorem aam {T:List Nat} (dQ:T.length<=100):cK w Ey (b5 r (p.d3 T) ln R D) (b5 (r.eA (T.headD 0)) (p.d3 T.tail) ln R D):=λG K F=>by exact F _ _ (zW (p:=p) dQ)
noncomputable def hA (n:Nat):Nat:=n/4%5
def wm (n:Nat):Option Nat:=cond (bA (hA n) 1||bA (hA n) 4) (ab (n/20%12)) af
def z9 (n:Nat):eH:=cond (bA (hA n) 2||bA (hA n) 4) .one (cond (bA (hA n) 3) .two .no)
theorem M7 (n:Nat):hA n=0\/hA n=1\/hA n=2\/hA n=3\/hA n=4:=by
 have:hA n<5:=mr _ (by decide)
 revert this
 generalize hA n=k
 omega
theorem QO {n d:Nat} (h:wm n=ab d):d<12:=by
 revert h
 unfold wm
 cases (bA (hA n) 1||bA (hA n) 4) with
 |true=>exact λh=>bQ h▸mr _ (by decide)
 |false=>exact λh=>nomatch h
noncomputable def odd (n:Nat):Bool:=bA (n%2) 1
theorem aat {n:Nat} (ar:r.n=co n):cK w Ez (b5 r p ln R D) (b5 (r.a6 (c4 (wm n))) p ln R D):=by
 have e:(decide ((1:Int)=c1 (hA n)) || (decide ((4:Int)=c1 (hA n)) ||false))=(bA (hA n) 1||bA (hA n) 4):=by
  rcases M7 n with h|h|h|h|h<;>rw[h]<;>rfl
 unfold wm
 rw[vE ar]
 intro G K F
 rcases cJ (bA (hA n) 1||bA (hA n) 4) with ag|ag
 ·rw[ag]
  exact F ⟨by decide,by decide⟩ (by decide) _ rfl aa (e.trans ag) ⟨by decide,by decide⟩ (by decide)
 ·rw[ag]
  exact F ⟨by decide,by decide⟩ (by decide) _ rfl ac (e.trans ag)
theorem aaq {n:Nat} (ar:r.n=co n):cK w EA (b5 r p ln R D) (b5 (r.st (z9 n).bI) p ln R D):=by
 rw[vE ar]
 intro G K F
 have I:gd [aj.none,.none,eH.one.bI,eH.two.bI,eH.one.bI] (.ofNat (hA n))=ab (z9 n).bI:=by
  unfold z9
  rcases M7 n with h|h|h|h|h<;>rw[h]<;>rfl
 exact F ⟨by decide,by decide⟩ (by decide) _ (lX rfl I)
theorem aap {m:Nat} (hm:r.m=co m):cK w EB (b5 r p ln R D) (b5 (r.ro [bJ (odd m)]) p ln R D):=by
 rw[OA hm]
 intro G K F
 have I: [124,62][m%2]? =ab (bJ (odd m)):=by
  unfold odd
  rcases Nat.mod_two_eq_zero_or_one m with h|h<;>rw[h]<;>rfl
 exact F (by decide) _ (jJ I)
theorem aar {v:Option Nat} {t:eH} (aW:r.iT=ab (.f (c4 v))) (ci:r.tag=ab (.f t.bI)):cK w ED (b5 r p ln R D) (b5 (r.PZ (!gZ v t)) p ln R D):=by
 rw[Ay aW,z8 (r:=r.a6 _) ci]
 intro G K F
 cases v with
 |none=>cases t with
  |no=>exact F ac rfl
  |one=>exact F ac rfl
  |two=>exact F ac rfl
 |some d=>cases t with
  |no=>exact F aa rfl
  |one=>exact F aa rfl
  |two=>exact F aa rfl
noncomputable def sJ (b:Bool):Nat:=cond b 0 1
def ai2 (f:Bool) (n:Nat) (v:Option Nat) (t:eH):Bool:= !f|| (odd n|| !gZ v t)
theorem x5 (a b:Nat):decide (c1 a=c1 b)=bA a b:=by
 rcases cJ (bA a b) with h|h
 ·rw[h];exact decide_eq_true (congrArg c1 (fg h))
 ·rw[h];exact decide_eq_false λg=>absurd (AS g) (w1 h)
theorem aao {f b:Bool} {n:Nat} (bj:r.i=co (sJ f)) (ar:r.n=co n) (ci:r.eb=cH b):cK w EE (b5 r p ln R D) (b5 (r.ss (!f|| (odd n||b))) p ln R D):=by
 rw[Mz bj,vE (r:=r.th _) ar,mM (r:=(r.th _).sn _) ci]
 intro G K F
 cases f with
 |false=>exact F aa rfl
 |true=>
  have e:decide (c1 (n%2)=1)=odd n:=x5 (n%2) 1
  rcases cJ (odd n) with bV|bV
  ·rw[show(!aa|| (odd n||b))=decide (c1 (n%2)=1) by rw[e,bV];rfl]
   exact F ac rfl (by decide) aa (e.trans bV)
  ·rw[show(!aa|| (odd n||b))=b by rw[bV];rfl]
   exact F ac rfl (by decide) ac (e.trans bV)
end
theorem Lk {b:ae->St->(Option ae->St->aB)->aB} {acc:List ae} {σ:St}:aJ (jD b [] acc σ) acc σ:=λ_ k=>k
theorem Lj {n:Nat} {b:St->(ae->St->aB)->aB} {v u:ae} {l acc r:List ae} {σ σ' Q0:St} (h: ∀(G:Prop) (K:ae->St->aB),aB.path G (b ⟨[(n,ab v)],σ.hp,σ.lh,σ.lu⟩ K)->aB.path G (K u σ')) (eT:glob u=aa) (k:aJ (jD (pW n b) l (acc++ [u]) ⟨σ.loc,σ'.hp,σ'.lh,σ'.lu⟩) r Q0):aJ (jD (pW n b) (v::l) acc σ) r Q0:=
 λK q=>h _ (λu He=> .dP (glob u=aa) (.ret (jD (pW n b) l (acc++ [u]) ⟨σ.loc,He.hp,He.lh,He.lu⟩ K))) (aB.rb _ id) eT (k K q)
theorem Qf (C:List (List Nat)):kM (C.map .str)=ab C:=by
 induction C with
 |nil=>rfl
 |cons c C ai=>
  exact congrArg (λo=>match(o:Option (List (List Nat))) with|some l=>ab (c::l) |none=>af) ai
noncomputable def oK:List (List Nat):= [[97],[10],[32,98],[99,32,100],[10,10],[45,45,45],[32,32,32,101],[35],[10],[102,58,32,103],[46,46,46],[124],[8232],[233]]
noncomputable def vL (w:Bool):Nat:=cond w 14 12
def pc (w:Bool) (a:Nat):List Nat:=oK.getD (a%vL w) []
noncomputable def mg (w:Bool):Nat->List Nat->List (List Nat)
 |0,_=> []
 |k+1,T=>pc w (T.headD 0)::mg w k T.tail
theorem Fh (w:Bool) (a:Nat):a%vL w<14:=by
 cases w with
 |true=>exact mr a (by decide)
 |false=>exact Bb (mr a (by decide:12>0)) (by decide)
theorem ac1 (w:Bool) (a:Nat):gd (oK.map aj.str) (.ofNat (a%vL w))=ab (.str (pc w a)):=by
 show(oK.map aj.str)[a%vL w]? =_
 unfold pc
 rw[HK,AZ,nr (show a%vL w<oK.length from Fh w a)]
 rfl
noncomputable def acZ:X:=(.cn (.gl 166) (.bin .Mod (.call (.gl 126) (.cons (.clo 40) .nil) .nil) (.j8 (.clo 43) (.a5 14) (.a5 12))))
section
variable {w:Bool} {r:bB} {p:aF} {ln:Nat} {R:List (List Nat)} {D:List aj}
theorem ac0 {loc:List (Nat×Option ae)} {lh:b4} {lu:List Nat}: ∀(k:Nat) (z:Int) (acc:List (List Nat)) (T:List Nat),T.length<=100->
  aJ (jD (pW 0 (ev (SL w) acZ).x) (n9 z k) (cf acc) ⟨loc,(p.d3 T).hp ln,lh,lu⟩) (cf (acc++mg w k T)) ⟨loc,(p.d3 (T.drop k)).hp ln,lh,lu⟩:=λk=>by
 induction k with
 |zero=>exact λz acc T _=>by rw[show acc++mg w 0 T=acc from dj acc];exact Lk
 |succ k ai=>
  intro z acc T dQ
  have i:=ai (z+1) (acc++ [pc w (T.headD 0)]) T.tail (bf (by rw[wW];exact oJ ..) dQ)
  rw[h4,bt,show T.tail.drop k=T.drop (k+1) by cases T<;>simp] at i
  refine Lj (σ':=⟨[(0,ab (.f (.int z)))],(p.d3 T.tail).hp ln,lh,lu⟩) (λG K F=> ?_) rfl i
  have I:=lX (l:=oK.map aj.str) rfl (ac1 w (T.headD 0))
  revert I
  cases w with
  |true=>exact λI=>by exact F _ _ (zW (p:=p) dQ) aa rfl (by decide) _ I
  |false=>exact λI=>by exact F _ _ (zW (p:=p) dQ) ac rfl (by decide) _ I
theorem ac2 (w:Bool) (a:Nat):(pc w a).length<=4:=by
 have h:(A6 14).all (λi=>gF (oK.getD i []).length 4)=aa:=by decide+kernel
 exact cS (fL.mp h _ (HR.mpr (Fh w a)))
theorem QN (w:Bool) (k:Nat): ∀T:List Nat,(aZ (mg w k T)).length<=4*k:=by
 induction k with
 |zero=>exact λ_=>fu _
 |succ k ai=>
  intro T
  show(pc w (T.headD 0)++aZ (mg w k T.tail)).length<=4*k+4
  rw[bL,kV]
  exact fW (ai _) (ac2 ..)
noncomputable def mZ (m:Nat):Nat:=1+m/2%3
theorem E6 (m:Nat):1<=mZ m/\mZ m<=3:=⟨gG ..,iW (Nat.le_of_lt_succ (mr _ (by decide))) 1⟩
theorem aas {T x:List Nat} {m:Nat} (aH:aZ (mg w (mZ m) T)=x) (dQ:T.length<=100) (hm:r.m=co m):cK w EC (b5 r (p.d3 T) ln R D) (b5 (r.oo x) (p.d3 (T.drop (mZ m))) ln R D):=by
 rw[OA hm,<-aH]
 intro G K F
 have ar:=(E6 m).2
 have Th: -1000000<=c1 (mZ m)/\c1 (mZ m)<=1000000:=⟨AR (by decide) (kU _),oG.mpr (bf ar (by decide))⟩
 have C:=ac0 (w:=w) (p:=p) (ln:=ln) (loc:=(r.eA m).loc) (lh:= [(101,.list (cf R)),(102,.list (D.map .f))]) (lu:= [102,101]) (mZ m) 0 [] T dQ
 exact F ⟨by decide,by decide⟩ (by decide) Th _ _ C _ (GU _) _ (Qf _) (bf (QN w (mZ m) T) (bf (tT 4 ar) (by decide)))
end
noncomputable def c3 (e:List Nat) (b:Bool):List (List Nat):=cond b [[46,46,46]++e] []
def lZ (e:List Nat):Option Nat->List (List Nat)
 |none=> []
 |some d=> [vQ d++e]
def gz (e:List Nat):eH->List (List Nat)
 | .no=> []
 | .one=> [eE [33,101,33] [33,120]++e]
 | .two=> [eE [33] [33,121]++e,eE [33,101,33] [116]++e]
noncomputable def pb (f:Bool) (v:aj):List aj:=cond f [] [v]
noncomputable def gK (b:Bool):List Nat:=cond b [45,45,45,32] []
section
variable {w:Bool} {r:bB} {p:aF} {ln:Nat} {R:List (List Nat)} {D:List aj} {e:List Nat} {nn:Nat}
theorem EI (v:aj):b5 r p ln R (D++ [v])=⟨r.loc,p.hp ln,[(101,.list (cf R)),(102,.list (D.map .f++ [.f v]))],[102,101]⟩:=
 congrArg (λl=> (⟨r.loc,p.hp ln,[(101,.list (cf R)),(102,.list l)],[102,101]⟩:St)) lD
theorem sW (S:List (List Nat)):b5 r p ln (R++S) D=⟨r.loc,p.hp ln,[(101,.list (cf R++cf S)),(102,.list (D.map .f))],[102,101]⟩:=
 congrArg (λl=> (⟨r.loc,p.hp ln,[(101,.list l),(102,.list (D.map .f))],[102,101]⟩:St)) (h4 R S)
theorem vR (h:D.length<=1000):cm (D.map ae.f)=aa:=fZ (by rw[ed];exact bf h (by decide))
theorem l8 (h:R.length<=1000):cm (cf R)=aa:=fZ (by rw[lN];exact bf h (by decide))
theorem aae {f c h t:Bool} (k:ff r e nn) (bj:r.i=co (sJ f)) (aD:r.clo=cH c) (cw:r.dq=cH h) (ci:r.eb=cH t) (dI:D.length<=1000):cK w Ov (b5 r p ln R D) (b5 r p ln R (D++pb f (fI (c|| (h&&t))))):=by
 rw[k.eq,Mz (r:=r.cx e nn) bj,uE (r:=(r.cx e nn).th _) aD,yC (r:=((r.cx e nn).th _).sc _) cw,mM (r:=(((r.cx e nn).th _).sc _).jm _) ci]
 intro G K F
 have s:=vR dI
 cases f with
 |true=>
  rw[show D++pb aa (fI (c|| (h&&t)))=D from dj D]
  exact F ac rfl
 |false=>
  rw[show pb ac (fI (c|| (h&&t)))= [fI (c|| (h&&t))] from rfl,EI]
  cases c with
  |true=>exact F aa rfl aa rfl s
  |false=>cases h with
   |true=>exact F aa rfl ac rfl aa rfl s
   |false=>exact F aa rfl ac rfl ac rfl s
theorem C0 (aA:e.length<=10):([46,46,46]++e).length<=16777216:=bf (fh bL) (bf (iW aA 3) (by decide))
theorem Z1 {h t:Bool} (k:ff r e nn) (cw:r.dq=cH h) (ci:r.eb=cH t) (aA:e.length<=10) (eI:R.length<=1000):cK w Oh (b5 r p ln R D) (b5 r p ln (R++c3 e (h&&t)) D):=by
 rw[sW,k.eq,yC (r:=r.cx e nn) cw,mM (r:=(r.cx e nn).jm _) ci]
 intro G K F
 have s:=l8 eI
 cases h with
 |false=>
  rw[show cf R++cf (c3 e (ac&&t))=cf R from dj _]
  exact F ac rfl
 |true=>cases t with
  |false=>
   rw[show cf R++cf (c3 e (aa&&ac))=cf R from dj _]
   exact F aa rfl ac rfl
  |true=>exact F aa rfl aa rfl (C0 aA) s
theorem Z2 {v:Option Nat} (aW: ∀d,v=ab d->d<12) (k:ff r e nn) (DM:r.iT=ab (.f (c4 v))) (aA:e.length<=10) (eI:R.length<=1000):cK w Oi (b5 r p ln R D) (b5 r p ln (R++lZ e v) D):=by
 rw[sW,k.eq,Ay (r:=r.cx e nn) DM]
 intro G K F
 have s:=l8 eI
 cases v with
 |none=>
  rw[show cf R++cf (lZ e af)=cf R from dj _]
  exact F ac rfl
 |some d=>
  have l1:([37,89,65,77,76,32,49,46]++dv d).length<=10:=by rw[bL];exact iW (x9 d) 8
  have e0:([37,89,65,77,76,32,49,46]++dv d++e).length<=20:=by rw[bL];exact fW l1 aA
  exact F aa rfl _ rfl (Bb (aW d rfl) (by decide)) (bf l1 (by decide)) (bf e0 (by decide)) s
def Nk:S:=match zh with
 | .ite _ (.cons (.fr _ _ b) _) _=>b
 |_=> .nil
def y8 (r:bB) (e:List Nat) (nn:Nat) (t:eH) (o:Option ae) (p:aF) (ln:Nat) (R:List (List Nat)) (D:List aj):St:=b5 (((r.cx e nn).st t.bI).vY o) p ln R D
theorem D3 {t:eH} {o:Option ae} {h z:List Nat} (cG:(h= [33]/\z= [33,121])\/(h= [33,101,33]/\(z= [33,120]\/z= [116]))) (aA:e.length<=10) (eI:R.length<=1000) (bj: ∀σ,mU (.f t.bI) (.f (.str h)) σ=ab (.f (.str z))) {l:List ae} {wz:cD} {σ':St}
  (k:aJ (gW 87 (bN (SL w) Nk) l (y8 r e nn t (ab (.f (.str h))) p ln (R++ [eE h z++e]) D)) wz σ'):aJ (gW 87 (bN (SL w) Nk) (.f (.str h)::l) (y8 r e nn t o p ln R D)) wz σ':=by
 have s:=l8 eI
 refine k9 (σ:=y8 r e nn t o p ln R D) ?_ k
 unfold y8
 rw[sW]
 have L: ∀u:List Nat,u.length<=20->(u++e).length<=16777216:=λu h=>by rw[bL];exact bf (fW h aA) (by decide)
 have L:=L (eE h z)
 rcases cG with⟨rfl,rfl⟩ | ⟨rfl,rfl|rfl⟩
 ·exact gT λ_ _ F k=>F (cS rfl) (cS rfl) _ (bj _) (cS rfl) (L (by decide)) s k
 ·exact gT λ_ _ F k=>F (cS rfl) (cS rfl) _ (bj _) (cS rfl) (L (by decide)) s k
 ·exact gT λ_ _ F k=>F (cS rfl) (cS rfl) _ (bj _) (cS rfl) (L (by decide)) s k
theorem Z3 {t:eH} (k:ff r e nn) (ci:r.tag=ab (.f t.bI)) (aA:e.length<=10) (eI:R.length<=900): ∃o,cK w zh (b5 r p ln R D) (b5 (r.vY o) p ln (R++gz e t) D):=by
 rw[k.eq,z8 (r:=r.cx e nn) ci]
 cases t with
 |no=>
  refine⟨r.eu,λG K F=> ?_⟩
  rw[show R++gz e .no=R from dj R]
  exact F ac rfl
 |one=>
  have L:=D3 (w:=w) (r:=r) (nn:=nn) (p:=p) (ln:=ln) (D:=D) (t:= .one) (o:=r.eu) (cW ⟨rfl,d5 rfl⟩) aA (bf eI (by decide)) (λ_=>rfl) la
  refine⟨ab (.f (.str [33,101,33])),λG K F=> ?_⟩
  exact F aa rfl rfl _ _ L
 |two=>
  have L:=D3 (w:=w) (r:=r) (nn:=nn) (p:=p) (ln:=ln) (D:=D) (t:= .two) (o:=r.eu) (d5 ⟨rfl,rfl⟩) aA (bf eI (by decide)) (λ_=>rfl) (D3 (cW ⟨rfl,cW rfl⟩) aA (by rw[bL];exact fW eI (by decide:1<=100)) (λ_=>rfl) la)
  refine⟨ab (.f (.str [33,101,33])),λG K F=> ?_⟩
  rw[show R++gz e .two=(R++ [eE [33] [33,121]++e])++ [eE [33,101,33] [116]++e] from(bt R [_] [_]).symm]
  exact F aa rfl rfl _ _ L
theorem Z4 {x:List Nat} (aW:r.val=ab (.f (.str x))) (aH:x.length<=1000):cK w Eu (b5 r p ln R D) (b5 (r.aK ((b7 [] x).map da)) p ln R D):=by
 rw[G3 aW]
 intro G K F
 exact F _ _ (ae5 aH)
theorem EH (fold:Bool) (n:Nat) (e:List Nat) (L:List cQ):(eO fold n e L).length<=2*L.length:=by
 induction L with
 |nil=>exact fi _
 |cons p L ai=>
  obtain ⟨l,d⟩:=p
  show((lj n l++ej e d)::(fB fold e l d L++eO fold n e L)).length<=2*(L.length+1)
  have aH:(fB fold e l d L).length<=1:=by unfold fB;cases hH fold l d L<;>exact cS rfl
  rw[du,bL];omega
theorem Z5 {s fold:Bool} {q:cQ} {L:List cQ} (k:ff r e nn) (hs:r.dg=cH s) (vd:r.hn=ab (.f (.str [bJ fold]))) (DE:r.ez=ab (.f (.lst ((q::L).map da)))) (ar:fp nn) (aA:e.length<=10) (lU:vI (q::L)) (d6:(q::L).length<=1000) (eI:R.length<=1000):
  cK w Oj (b5 r p ln R D) (b5 r p ln (R++gA (gK s) fold nn e (q::L)) D):=by
 have e1:cf (gA (gK s) fold nn e (q::L))=((gA (gK s) fold nn e (q::L)).map aj.str).map .f:=(oH ..).symm
 have s1:=l8 eI
 have s2:cm ((gA (gK s) fold nn e (q::L)).map aj.str)=aa:=fZ (by
  rw[ed]
  show(eO fold nn e (q::L)).length+1<=1000000
  exact bf (iX (bf (EH ..) (tT 2 d6))) (by decide))
 rw[sW,e1,k.eq,PF (r:=r.cx e nn) hs,G6 (r:=(r.cx e nn).ss _) vd,Nl (r:=((r.cx e nn).ss _).ro _) DE]
 intro G K F
 have T:=λh a=>afp (fold:=fold) (n:=nn) (e:=e) (p:=q) (L:=L) (hp:=p.hp ln) (head:=h) a ar aA lU d6
 cases s with
 |true=>exact F aa rfl _ _ (T [45,45,45,32] (by decide)) ⟨s1,s2⟩
 |false=>exact F ac rfl _ _ (T [] (by decide)) ⟨s1,s2⟩
theorem Z6 {n:Nat} (ar:r.n=co n):cK w Ew (b5 r p ln R D) (b5 (r.sc (odd (n/2))) p ln R D):=by
 rw[vE ar,show odd (n/2)=decide (c1 (n/2%2)=1) from(x5 (n/2%2) 1).symm]
 intro G K F
 exact F ⟨by decide,by decide⟩ (by decide)
theorem Z8 {c:Bool} (k:ff r e nn) (aD:r.clo=cH c) (aA:e.length<=10) (eI:R.length<=1000):cK w Ol (b5 r p ln R D) (b5 r p ln (R++c3 e c) D):=by
 rw[sW,k.eq,uE (r:=r.cx e nn) aD]
 intro G K F
 have s:=l8 eI
 cases c with
 |false=>
  rw[show cf R++cf (c3 e ac)=cf R from dj _]
  exact F ac rfl
 |true=>exact F aa rfl (C0 aA) s
theorem Z9 {s:Bool} {v t:aj} (k:ff r e nn) (hs:r.dg=cH s) (aW:r.iT=ab (.f v)) (ci:r.tag=ab (.f t)) (dI:D.length<=1000):cK w Om (b5 r p ln R D) (b5 r p ln R (D++ [kP s v t])):=by
 rw[EI,k.eq,PF (r:=r.cx e nn) hs,Ay (r:=(r.cx e nn).ss _) aW,z8 (r:=((r.cx e nn).ss _).a6 _) ci]
 intro G K F
 exact F (vR dI)
theorem aaa {x:List Nat} {fold:Bool} (k:ff r e nn) (aW:r.val=ab (.f (.str x))) (hs:r.hn=ab (.f (.str [bJ fold]))) (dI:D.length<=1000):cK w Oo (b5 r p ln R D) (b5 r p ln R (D++ [ko x fold])):=by
 rw[EI,k.eq,G3 (r:=r.cx e nn) aW,G6 (r:=(r.cx e nn).oo _) hs]
 intro G K F
 exact F (vR dI)
theorem Z7 {c:Bool} {q:cQ} {L:List cQ} (aD:r.clo=cH c) (DE:r.ez=ab (.f (.lst ((q::L).map da)))) (X7:(q::L).length<=1000) (bV: ∀z∈q::L,z.1= []->z.2≠ []):cK w Ex (b5 r p ln R D) (b5 (r.jm (!c&&aM (d6 (q::L)) [43])) p ln R D):=by
 rw[uE aD,Nl (r:=r.sc _) DE]
 intro G K F
 cases c with
 |true=>exact F aa rfl ac rfl
 |false=>
  refine ak (Dt L q) λz h=> ?_
  have cG:=bV z h.1
  have I:=lX (i:= -1) (v:=da z) (fZ (by rw[ed];exact bf X7 (by decide))) h.2.2
  rw[h.2.1]
  obtain ⟨l,d⟩:=z
  rw[show(!ac&&aM (D4 (l,d)) [43])=aM l [] by
   cases l with
   |nil=>cases d with
    |nil=>exact absurd rfl (cG rfl)
    |cons a d=>rfl
   |cons b l=>cases d<;>rfl]
  exact F ac rfl aa rfl _ I _ rfl
end
structure dD where
 b:Bool
 v:Option Nat
 t:eH
 fold:Bool
 x:List Nat
 c:Bool
def b6 (w:Bool) (T:List Nat):dD:=⟨odd (T.headD 0),wm (T.headD 0),z9 (T.headD 0),odd (T.tail.headD 0),aZ (mg w (mZ (T.tail.headD 0)) T.tail.tail),odd (T.headD 0/2)⟩
def fo (T:List Nat):List Nat:=T.tail.tail.drop (mZ (T.tail.headD 0))
def dD.eV (d:dD):Bool:= !gZ d.v d.t
def dD.dg (d:dD) (f:Bool):Bool:= !f|| (d.b||d.eV)
def dD.cI (d:dD):Bool:=aM (f7 d.x) [43]&& !d.c
def dD.im (d:dD) (f:Bool):Bool:=f&&(!d.b&&gZ d.v d.t)
def e7 (e:List Nat) (n:Nat) (f h:Bool) (d:dD):List (List Nat):=c3 e (h&&d.eV)++(lZ e d.v++(gz e d.t++(gA (gK (d.dg f)) d.fold n e (b7 [] d.x)++c3 e d.c)))
def mP (e:List Nat) (n:Nat) (f h:Bool) (d:dD):List (List Nat):=nQ h e d.v d.t (d.im f) d.fold n d.x++fR e d.c
def jF (f c h:Bool) (d:dD):List aj:=pb f (fI (c|| (h&&d.eV)))++ [kP (d.dg f) (c4 d.v) d.t.bI,ko d.x d.fold]
noncomputable def aF.k7 (p:aF) (w:Bool) (e:List Nat) (n:Nat) (h:Bool):aF:={p with dE:=w,lb:=e,dd:=n,dW:=h}
noncomputable def dD.i (d:dD) (f:Bool):kq:=⟨f,d.b,d.v,d.t,d.x,d.fold⟩
section
variable {w:Bool} {r:bB} {p:aF} {ln:Nat} {R:List (List Nat)} {D:List aj} {e:List Nat} {nn:Nat}
theorem aab {n0:Nat} {v t:aj} (k:ff r e nn) (ar:r.n=co n0) (aW:r.iT=ab (.f v)) (ci:r.tag=ab (.f t)):cK w Oq (b5 r (p.q []) ln R D) (b5 r (p.q [.f (gU .none .none (odd n0) v t)]) ln R D):=by
 rw[k.eq,vE (r:=r.cx e nn) ar,Ay (r:=(r.cx e nn).sn _) aW,z8 (r:=((r.cx e nn).sn _).a6 _) ci,show odd n0=decide (c1 (n0%2)=1) from(x5 (n0%2) 1).symm]
 intro G K F
 exact F (by decide) _ _ (hR rfl rfl) _ _ WR
theorem aac {i:kq} {fr:Option cb} (k:ff r e nn) (sI:r.val=ab (.f (.str i.x))) (vd:r.hn=ab (.f (.str [bJ i.fold]))) (aW: ∀d,i.v=ab d->d<12) (aH:jz p.dE i.x) (ar:b8 p 400) (h0:fp p.dd):
  ∃bw fe,cK w Ot (b5 r (((p.f0 fr).bZ [.f (gU .none .none i.b (c4 i.v) i.t.bI)]).aQ (lp i.f)) ln R D) (b5 r (p.j3 i fr fe) bw R D):=by
 rw[k.eq,G3 (r:=r.cx e nn) sI,G6 (r:=(r.cx e nn).oo _) vd]
 refine bT (WS (ln:=ln) (fr:=fr) aW aH ar h0) λbw fe E=> ⟨bw,fe,λG K F=> ?_⟩
 exact F _ _ (hR rfl rfl) _ _ E
theorem aad {c:Bool} (k:ff r e nn) (aD:r.clo=cH c) (ar:b8 p 10): ∃bw,cK w Ou (b5 r ((p.bZ []).aQ 451) ln R D) (b5 r ((((p.dP c).bZ []).di .none).aQ 444) bw R D):=by
 rw[k.eq,uE (r:=r.cx e nn) aD]
 refine ak (WO (p:=p) (b:=c) (ln:=ln) ar) λbw E=> ⟨bw,λG K F=> ?_⟩
 exact F _ _ (hR rfl rfl) _ _ E
end
theorem acR {dE:Bool} {y:List Nat} (cO:jh dE ac y): ∀(x:List Nat) (eg:Bool),jh dE eg x->jh dE eg (x++y):=λx=>by
 induction x with
 |nil=>exact λeg h=>by rw[show eg=ac from h];exact cO
 |cons c x ai=>exact λeg h=> ⟨h.1,h.2.1,h.2.2.1,ai _ h.2.2.2⟩
noncomputable def E9 (dE:Bool):Bool->List Nat->Bool
 |eg,[]=> !eg
 |eg,c::r=>mf.contains c&&((gF c 126||dE)&&((!bO [c] dA|| !eg)&&E9 dE (aM [c] [32]) r))
theorem acT {dE:Bool}: ∀(x:List Nat) (eg:Bool),E9 dE eg x=aa->jh dE eg x:=λx=>by
 induction x with
 |nil=>exact λeg h=> (oD eg).mp h
 |cons c r ai=>
  intro eg h
  have h:=fV.mp h
  have aC:=fV.mp h.2
  have bz:=fV.mp aC.2
  refine⟨rP.mp h.1,λaD=> (rG.mp aC.1).resolve_left λg=>absurd (cS g) (HZ aD),λag=> ?_,ai _ bz.2⟩
  have bz:=bz.1
  rw[ag] at bz
  exact(oD eg).mp bz
def u5 (x:List Nat):Bool:=match x with
 | []=>ac
 |a::be=> !aM [a] [58]&&(!aM [a] [45] || (match be with
  | []=>ac
  |b::_=>aM [b] [45]))
theorem ac3:(A6 14).all (λi=>E9 (gF 12 i) ac (oK.getD i [])&&u5 (oK.getD i []))=aa:=by decide+kernel
theorem acS {dE Ju:Bool} (h:dE=aa->Ju=aa): ∀(x:List Nat) (eg:Bool),jh dE eg x->jh Ju eg x:=λx=>by
 induction x with
 |nil=>exact λ_ h=>h
 |cons c x ai=>exact λeg k=> ⟨k.1,λq=>h (k.2.1 q),k.2.2.1,ai _ k.2.2.2⟩
theorem Pf (w:Bool) (a:Nat):jh w ac (pc w a)/\u5 (pc w a)=aa:=by
 have h:=fV.mp (fL.mp ac3 _ (HR.mpr (Fh w a)))
 refine⟨acS (λg=> ?_) _ _ (acT _ _ h.1),h.2⟩
 cases w with
 |true=>rfl
 |false=>exact absurd (cS g) (HZ (mr a (by decide:12>0)))
theorem Yl {x y:List Nat} (h:u5 x=aa):u5 (x++y)=aa:=by
 cases x with
 |nil=>exact nomatch h
 |cons a x=>cases x with
  |nil=>
   have h:(!aM [a] [58]&&(!aM [a] [45] ||false))=aa:=h
   rw[rH] at h
   have h:=fV.mp h
   cases y with
   |nil=>exact fV.mpr ⟨h.1,rG.mpr (d5 h.2)⟩
   |cons b y=>exact fV.mpr ⟨h.1,rG.mpr (d5 h.2)⟩
  |cons b x=>exact h
theorem ahN (w:Bool) (k:Nat): ∀T:List Nat,jh w ac (aZ (mg w k T)):=by
 induction k with
 |zero=>exact λ_=>rfl
 |succ k ai=>exact λT=>acR (ai T.tail) _ _ (Pf w _).1
theorem ahQ (w:Bool) (k:Nat) (T:List Nat) (aq:1<=k) (bz:k<=3):jz w (aZ (mg w k T)):=by
 refine⟨?_,ahN w k T,bf (QN w k T) (tT 4 bz)⟩
 cases k with
 |zero=>exact absurd aq (Nat.not_succ_le_zero 0)
 |succ k=>
  have h:u5 (aZ (mg w (k+1) T))=aa:=Yl (Pf w (T.headD 0)).2
  revert h
  generalize aZ (mg w (k+1) T)=x
  intro h
  cases x with
  |nil=>exact nomatch h
  |cons a be=>
   have h:=fV.mp h
   refine⟨a,be,rfl,λe=> ?_,λe=> ?_⟩
   ·rw[e] at h;exact nomatch h.1
   ·rw[e] at h
    have h:=h.2
    cases be with
    |nil=>exact nomatch h
    |cons b r=>exact⟨r,by rw[(gv (gL.mp (show aM [b] [45]=aa from h))).1]⟩
theorem zG {dE:Bool}: ∀(x:List Nat) (eg:Bool),jh dE eg x-> ∀c∈x,c∈mf:=λx=>by
 induction x with
 |nil=>exact λ_ _ _ h=>nomatch h
 |cons c r ai=>exact λeg h d hd=> (e5.mp hd).elim (λe=>e▸h.1) λhd=>ai _ h.2.2.2 d hd
theorem GY {c:Nat} (h:c∈mf):q7 c:=beq_iff_eq.mp (tD (q:=λc=>bO [c] dA==d7 c) (by decide) h)
theorem QL {c:Nat} (h:c∈mf):d7 c=aa\/(¬c∈kA/\c≠9):=by
 refine(rG.mp (tD (q:=λc=>d7 c|| (!kA.contains c&& !aM [c] [9])) (by decide) h)).imp id λh=> ?_
 have h:=fV.mp h
 refine⟨λm=> ?_,λe=> ?_⟩
 ·have:=h.1;rw[rP.mpr m] at this;exact nomatch this
 ·have:=h.2;rw[e] at this;exact nomatch this
theorem NK: ∀r l:List Nat,l.length+r.length<=1000->vI (b7 l r):=λr=>by
 induction r with
 |nil=>
  intro l h
  cases l with
  |nil=>exact λp h=>nomatch h
  |cons a l=>exact λp hp=>by rw[jU.mp hp];exact⟨h,fu _⟩
 |cons c r ai=>
  intro l h
  rw[du] at h
  rcases cJ (d7 c) with ag|ag
  ·rw[jc ag]
   refine λp hp=> (e5.mp hp).elim (λe=> ?_) (ai [] (by rw[eX];omega) p)
   rw[e]
   exact⟨bf (gG ..) h,(by decide:1<=10)⟩
  ·rw[iK ag]
   exact ai (l++ [c]) (by rw[bL,du,eX];omega)
theorem jE {b:Bool} {x y:List (List Nat)} {n:Nat} (aH:x.length<=n) (cO:y.length<=n):(cond b x y).length<=n:=by cases b;exact cO;exact aH
theorem aa6 {e ind:List Nat}: ∀(r l:List Nat) (b:Bool),(h9 e ind b l r).length<=l.length+2*r.length+2:=λr=>by
 induction r with
 |nil=>exact λl b=>jE (bf (fh (ed _)) (gG _ 2)) (lF 2 _)
 |cons c r ai=>
  intro l b
  have aC:=λb=>ai (l++ [c]) b
  have bz:=λb=>ai [c] b
  have hm:(l.map (fl e)).length=l.length:=ed _
  simp only[bL,du,eX] at aC bz⊢
  refine jE (jE ?_ ?_) (jE ?_ ?_)
  ·have:=aC aa;omega
  ·have:=bz ac;rw[bL,du];omega
  ·have:=bz aa;rw[du];omega
  ·have:=aC ac;omega
theorem Xu {e ind:List Nat}: ∀(r l:List Nat) (b s ls:Bool),(gp e ind b s ls l r).length<=l.length+3*r.length+3:=λr=>by
 induction r with
 |nil=>exact λl b s ls=>jE (bf (fh (ed _)) (gG _ 3)) (jE (HU (cS rfl)) (HU (cS rfl)))
 |cons c r ai=>
  intro l b s ls
  have aC:=ai (l++ [c]) (bO [c] dA) (aM [c] [32]) ls
  have bz:=λls=>ai [c] (bO [c] dA) (aM [c] [32]) ls
  have ee:(sq e l ls c).length<=1:=jE (fi 1) (fu 1)
  have hm:(l.map (fl e)).length=l.length:=ed _
  simp only[bL,du,eX] at aC bz⊢
  have g2:(gp e ind (bO [c] dA) (aM [c] [32]) ls (l++ [c]) r).length<=l.length+3*(r.length+1)+3:=by omega
  have g3:(l::gp e ind (bO [c] dA) (aM [c] [32]) ls [c] r).length<=l.length+3*(r.length+1)+3:=by have:=bz ls;rw[du];omega
  refine jE (jE g2 ?_) (jE (jE g2 g3) (jE g3 g2))
  have:=bz (aM [c] [32])
  rw[bL,bL,du];omega
theorem LD {dW:Bool} {e:List Nat} {v:Option Nat} {t:eH} {im fold:Bool} {n:Nat} {x:List Nat} (aH:x.length<=12):(nQ dW e v t im fold n x).length<=60:=by
 have aq:=Mn dW e v t
 have aC:(uP im).length<=1:=jE (fu 1) (fi 1)
 have bz:(yh fold e n x).length<=40:=jE (bf (Xu x [] aa ac aa) (by rw[eX];omega)) (bf (aa6 x [] aa) (by rw[eX];omega))
 unfold nQ kj
 rw[bL,bL,du,du];omega
theorem WN {fold:Bool} {e:List Nat} {n:Nat} {x:List Nat} (aD: ∀c∈x,q7 c) (hs:q6 x):aZ (yh fold e n x)=aZ (eO fold n e (b7 [] x)):=by
 cases fold with
 |false=>exact(aa7 (e:=e) (n:=n) x [] aD).1
 |true=>exact(Xv (e:=e) (n:=n) x aD hs).1 ac aa [] λ_=>rfl
theorem Ed (e:List Nat) (b:Bool):aZ (c3 e b)=aZ (fR e b):=by
 cases b with
 |true=>show([46,46,46]++e)++ []= [46,46,46]++(e++ []);rw[bt]
 |false=>rfl
theorem abC (e:List Nat) (v:Option Nat):aZ (lZ e v)=aZ (jo e v):=by
 cases v with
 |none=>rfl
 |some d=>exact bt (vQ d) e []
theorem abA (e:List Nat) (t:eH):aZ (gz e t)=aZ (kn e t):=by
 cases t with
 |no=>rfl
 |one=>exact bt (eE [33,101,33] [33,120]) e []
 |two=>exact(bt (eE [33] [33,121]) e _).trans (congrArg (λz=>eE [33] [33,121]++(e++z)) (bt (eE [33,101,33] [116]) e []))
theorem u9 {n:Nat} {x:List Nat} {w:Bool} (aH:jz w x):jd n (b7 [] x)=dI n x/\d6 (b7 [] x)=f7 x:=bT aH.hd λa be h=>by
 have u4:=λc aD=>GY (zG _ _ aH.ok c aD)
 rw[h.1] at u4⊢
 exact⟨(Mf (u4 a eo)).symm,by rw[Ds u4,Mh];rfl⟩
theorem Dc {e:List Nat} {n:Nat} {f h:Bool} {d:dD} {w:Bool} (aH:jz w d.x):aZ (mP e n f h d)=aZ (e7 e n f h d):=by
 have H:=u9 (n:=n) aH
 have u4:=λc aD=>GY (zG _ _ aH.ok c aD)
 have Yu: ∀b:Bool,d.im f=b->d.dg f= !b:=λb ag=>by
  rw[<-ag]
  unfold dD.im dD.dg dD.eV
  cases f<;>cases d.b<;>cases gZ d.v d.t<;>rfl
 have E:=WN (fold:=d.fold) (e:=e) (n:=n) u4 (Pb _ _ aH.ok)
 have A: ∀b,d.im f=b->aZ (uP b++kj b d.fold e n d.x)=aZ (gA (gK (!b)) d.fold n e (b7 [] d.x)):=λb _=>by
  show aZ (uP b++(mT b (bJ d.fold::(dI n d.x++f7 d.x))::e::yh d.fold e n d.x))=(gK (!b)++([bJ d.fold]++(jd n (b7 [] d.x)++d6 (b7 [] d.x)))++e)++aZ (eO d.fold n e (b7 [] d.x))
  rw[H.1,H.2,<-E,dG,bt,bt]
  cases b with
  |true=>rfl
  |false=>rfl
 show aZ ((pn h e d.v d.t++(uP (d.im f)++kj (d.im f) d.fold e n d.x))++fR e d.c)=aZ (c3 e (h&&d.eV)++(lZ e d.v++(gz e d.t++(gA (gK (d.dg f)) d.fold n e (b7 [] d.x)++c3 e d.c))))
 rw[Yu _ rfl,dG,dG,A _ rfl]
 show(aZ (fR e (h&&d.eV)++(jo e d.v++kn e d.t))++_)++_=_
 rw[dG,dG,dG,dG,dG,dG,Ed,Ed,abC,abA,bt,bt,bt]
def Ow (s:S):S:= .cons Et (.cons Ey (.cons Ez (.cons EA (.cons EB (.cons EC (.cons ED (.cons EE (.cons Ov (.cons Oh (.cons Oi s))))))))))
def Ox (s:S):S:= .cons zh (.cons Eu (.cons Oj (.cons Ew (.cons Ex (.cons Ol (.cons Om (.cons Oo s)))))))
def EG:S:= .cons Oq (.cons Ot (.cons Ou .nil))
def EF:S:=Ow (Ox EG)
theorem zd (e:List Nat) (b:Bool):(c3 e b).length<=1:=jE (fi 1) (fu 1)
theorem Og (e:List Nat) (v:Option Nat):(lZ e v).length<=1:=by cases v;exact fu 1;exact fi 1
theorem N1 (e:List Nat) (t:eH):(gz e t).length<=2:=by cases t<;>exact cS rfl
theorem cK.hl {w:Bool} {a b:S} {σ σ₁ Q1:St} (aq:cK w a σ σ₁) (aC:cK w b σ₁ Q1):cK w (.cons a b) σ Q1:=λG K F=>aC G K (aq G (FJ (λσ=>bN (SL w) b σ K) K) F)
theorem cK.nil {w:Bool} {σ:St}:cK w .nil σ σ:=λ_ _ F=>F
section
variable {w:Bool} {r:bB} {p:aF} {ln:Nat} {R:List (List Nat)} {D:List aj} {e:List Nat} {nn:Nat}
def aF.k5 (p:aF) (d:dD) (f:Bool) (fr:Option cb) (fe:List (List Nat)×List ae):aF:=((((p.j3 (d.i f) fr fe).dP d.c).bZ []).di .none).aQ 444
theorem VA {d:dD} {f:Bool} {n0:Nat} {fr:Option cb} (k:ff r e nn) (ag:d.b=odd n0) (ar:r.n=co n0) (DM:r.iT=ab (.f (c4 d.v))) (ci:r.tag=ab (.f d.t.bI)) (sI:r.val=ab (.f (.str d.x))) (vd:r.hn=ab (.f (.str [bJ d.fold]))) (aD:r.clo=cH d.c) (aW: ∀y,d.v=ab y->y<12) (aH:jz p.dE d.x) (bV:b8 p 500) (h0:fp p.dd):
  ∃bw fe,cK w EG (b5 r (((p.f0 fr).bZ []).aQ (lp f)) ln R D) (b5 r (p.k5 d f fr fe) bw R D):=by
 refine bT (aac (w:=w) (r:=r) (p:=p) (ln:=ln) (R:=R) (D:=D) (i:=d.i f) (fr:=fr) k sI vd aW aH (bV.le (by decide)) h0) λl1 fe Tv=> ?_
 have Ti:b8 (p.j3 (d.i f) fr fe) 10:=b8.o (p:=p) (nQ p.dW p.lb d.v d.t (d.im f) d.fold p.dd d.x) rfl (bV.le (bf (h1 (LD aH.le) 10) (by decide)))
 refine ak (aad (w:=w) (r:=r) (p:=p.j3 (d.i f) fr fe) (ln:=l1) (R:=R) (D:=D) k aD Ti) λe0 Tw=> ⟨e0,fe, ?_⟩
 have IZ:=aab (w:=w) (r:=r) (p:=((p.f0 fr).bZ []).aQ (lp f)) (ln:=ln) (R:=R) (D:=D) k ar DM ci
 rw[<-ag] at IZ
 exact IZ.hl (Tv.hl (Tw.hl cK.nil))
noncomputable def bB.u (r:bB) (n m v t y x d s h l c g:Option ae):bB:={r with n:=n,m:=m,iT:=v,tag:=t,hn:=y,val:=x,eb:=d,dg:=s,eu:=h,ez:=l,clo:=c,dq:=g}
theorem ff.u {n m v t y x d s h l c g:Option ae} (k:ff r e nn):ff (r.u n m v t y x d s h l c g) e nn:=⟨k.bU,k.ic,k.jG,k.row,k.j2⟩
theorem FR {T:List Nat} {n:Nat} (h:T.length<=n):T.tail.length<=n:=bf (by rw[wW];exact oJ ..) h
theorem el.le (h:el e):e.length<=10:=by rcases h with rfl|rfl|rfl<;>decide
theorem Vy {T:List Nat} {f c h:Bool} {d:dD} (k:ff r e nn) (bj:r.i=co (sJ f)) (aD:r.clo=cH c) (cw:r.dq=cH h) (aA:e.length<=10) (dQ:T.length<=100) (eI:R.length<=100) (dI:D.length<=100) (hd:b6 w T=d) {s:S} {σ:St}
  (t:cK w s (b5 (r.u (co (T.headD 0)) (co (T.tail.headD 0)) (ab (.f (c4 d.v))) (ab (.f d.t.bI)) (ab (.f (.str [bJ d.fold]))) (ab (.f (.str d.x))) (cH d.eV) (cH (d.dg f)) r.eu r.ez r.clo r.dq) (p.d3 (fo T)) ln ((R++c3 e (h&&d.eV))++lZ e d.v) (D++pb f (fI (c|| (h&&d.eV))))) σ):cK w (Ow s) (b5 r (p.d3 T) ln R D) σ:=by
 rw[<-hd] at t
 have lK:cK w Et (b5 r (p.d3 T) ln R D) (b5 (r.u (co (T.headD 0)) r.m r.iT r.tag r.hn r.val r.eb r.dg r.eu r.ez r.clo r.dq) (p.d3 T.tail) ln R D):=aan (r:=r) dQ
 have mC:cK w Ey (b5 (r.u (co (T.headD 0)) r.m r.iT r.tag r.hn r.val r.eb r.dg r.eu r.ez r.clo r.dq) (p.d3 T.tail) ln R D) (b5 (r.u (co (T.headD 0)) (co (T.tail.headD 0)) r.iT r.tag r.hn r.val r.eb r.dg r.eu r.ez r.clo r.dq) (p.d3 T.tail.tail) ln R D):=aam (r:=(r.u (co (T.headD 0)) r.m r.iT r.tag r.hn r.val r.eb r.dg r.eu r.ez r.clo r.dq)) (FR dQ)
 have qh:cK w Ez (b5 (r.u (co (T.headD 0)) (co (T.tail.headD 0)) r.iT r.tag r.hn r.val r.eb r.dg r.eu r.ez r.clo r.dq) (p.d3 T.tail.tail) ln R D) (b5 (r.u (co (T.headD 0)) (co (T.tail.headD 0)) (ab (.f (c4 (b6 w T).v))) r.tag r.hn r.val r.eb r.dg r.eu r.ez r.clo r.dq) (p.d3 T.tail.tail) ln R D):=aat (r:=(r.u (co (T.headD 0)) (co (T.tail.headD 0)) r.iT r.tag r.hn r.val r.eb r.dg r.eu r.ez r.clo r.dq)) rfl
 have oX:cK w EA (b5 (r.u (co (T.headD 0)) (co (T.tail.headD 0)) (ab (.f (c4 (b6 w T).v))) r.tag r.hn r.val r.eb r.dg r.eu r.ez r.clo r.dq) (p.d3 T.tail.tail) ln R D) (b5 (r.u (co (T.headD 0)) (co (T.tail.headD 0)) (ab (.f (c4 (b6 w T).v))) (ab (.f (b6 w T).t.bI)) r.hn r.val r.eb r.dg r.eu r.ez r.clo r.dq) (p.d3 T.tail.tail) ln R D):=aaq (r:=(r.u (co (T.headD 0)) (co (T.tail.headD 0)) (ab (.f (c4 (b6 w T).v))) r.tag r.hn r.val r.eb r.dg r.eu r.ez r.clo r.dq)) (n:=T.headD 0) rfl
 have xr:cK w EB (b5 (r.u (co (T.headD 0)) (co (T.tail.headD 0)) (ab (.f (c4 (b6 w T).v))) (ab (.f (b6 w T).t.bI)) r.hn r.val r.eb r.dg r.eu r.ez r.clo r.dq) (p.d3 T.tail.tail) ln R D) (b5 (r.u (co (T.headD 0)) (co (T.tail.headD 0)) (ab (.f (c4 (b6 w T).v))) (ab (.f (b6 w T).t.bI)) (ab (.f (.str [bJ (b6 w T).fold]))) r.val r.eb r.dg r.eu r.ez r.clo r.dq) (p.d3 T.tail.tail) ln R D):=aap (r:=(r.u (co (T.headD 0)) (co (T.tail.headD 0)) (ab (.f (c4 (b6 w T).v))) (ab (.f (b6 w T).t.bI)) r.hn r.val r.eb r.dg r.eu r.ez r.clo r.dq)) (m:=T.tail.headD 0) rfl
 have BW:cK w EC (b5 (r.u (co (T.headD 0)) (co (T.tail.headD 0)) (ab (.f (c4 (b6 w T).v))) (ab (.f (b6 w T).t.bI)) (ab (.f (.str [bJ (b6 w T).fold]))) r.val r.eb r.dg r.eu r.ez r.clo r.dq) (p.d3 T.tail.tail) ln R D) (b5 (r.u (co (T.headD 0)) (co (T.tail.headD 0)) (ab (.f (c4 (b6 w T).v))) (ab (.f (b6 w T).t.bI)) (ab (.f (.str [bJ (b6 w T).fold]))) (ab (.f (.str (b6 w T).x))) r.eb r.dg r.eu r.ez r.clo r.dq) (p.d3 (fo T)) ln R D):=aas (r:=(r.u (co (T.headD 0)) (co (T.tail.headD 0)) (ab (.f (c4 (b6 w T).v))) (ab (.f (b6 w T).t.bI)) (ab (.f (.str [bJ (b6 w T).fold]))) r.val r.eb r.dg r.eu r.ez r.clo r.dq)) (T:=T.tail.tail) (m:=T.tail.headD 0) rfl (FR (FR dQ)) rfl
 have Tz:cK w ED (b5 (r.u (co (T.headD 0)) (co (T.tail.headD 0)) (ab (.f (c4 (b6 w T).v))) (ab (.f (b6 w T).t.bI)) (ab (.f (.str [bJ (b6 w T).fold]))) (ab (.f (.str (b6 w T).x))) r.eb r.dg r.eu r.ez r.clo r.dq) (p.d3 (fo T)) ln R D) (b5 (r.u (co (T.headD 0)) (co (T.tail.headD 0)) (ab (.f (c4 (b6 w T).v))) (ab (.f (b6 w T).t.bI)) (ab (.f (.str [bJ (b6 w T).fold]))) (ab (.f (.str (b6 w T).x))) (cH (b6 w T).eV) r.dg r.eu r.ez r.clo r.dq) (p.d3 (fo T)) ln R D):=aar (r:=(r.u (co (T.headD 0)) (co (T.tail.headD 0)) (ab (.f (c4 (b6 w T).v))) (ab (.f (b6 w T).t.bI)) (ab (.f (.str [bJ (b6 w T).fold]))) (ab (.f (.str (b6 w T).x))) r.eb r.dg r.eu r.ez r.clo r.dq)) (v:=(b6 w T).v) (t:=(b6 w T).t) rfl rfl
 have TA:cK w EE (b5 (r.u (co (T.headD 0)) (co (T.tail.headD 0)) (ab (.f (c4 (b6 w T).v))) (ab (.f (b6 w T).t.bI)) (ab (.f (.str [bJ (b6 w T).fold]))) (ab (.f (.str (b6 w T).x))) (cH (b6 w T).eV) r.dg r.eu r.ez r.clo r.dq) (p.d3 (fo T)) ln R D) (b5 (r.u (co (T.headD 0)) (co (T.tail.headD 0)) (ab (.f (c4 (b6 w T).v))) (ab (.f (b6 w T).t.bI)) (ab (.f (.str [bJ (b6 w T).fold]))) (ab (.f (.str (b6 w T).x))) (cH (b6 w T).eV) (cH ((b6 w T).dg f)) r.eu r.ez r.clo r.dq) (p.d3 (fo T)) ln R D):=aao (r:=(r.u (co (T.headD 0)) (co (T.tail.headD 0)) (ab (.f (c4 (b6 w T).v))) (ab (.f (b6 w T).t.bI)) (ab (.f (.str [bJ (b6 w T).fold]))) (ab (.f (.str (b6 w T).x))) (cH (b6 w T).eV) r.dg r.eu r.ez r.clo r.dq)) (f:=f) (n:=T.headD 0) (b:=(b6 w T).eV) bj rfl rfl
 have TB:=aae (w:=w) (r:=(r.u (co (T.headD 0)) (co (T.tail.headD 0)) (ab (.f (c4 (b6 w T).v))) (ab (.f (b6 w T).t.bI)) (ab (.f (.str [bJ (b6 w T).fold]))) (ab (.f (.str (b6 w T).x))) (cH (b6 w T).eV) (cH ((b6 w T).dg f)) r.eu r.ez r.clo r.dq)) (p:=(p.d3 (fo T))) (ln:=ln) (R:=R) (D:=D) k.u bj aD cw rfl (bf dI (by decide))
 have To:=λD=>Z1 (w:=w) (r:=(r.u (co (T.headD 0)) (co (T.tail.headD 0)) (ab (.f (c4 (b6 w T).v))) (ab (.f (b6 w T).t.bI)) (ab (.f (.str [bJ (b6 w T).fold]))) (ab (.f (.str (b6 w T).x))) (cH (b6 w T).eV) (cH ((b6 w T).dg f)) r.eu r.ez r.clo r.dq)) (p:=(p.d3 (fo T))) (ln:=ln) (R:=R) (D:=D) k.u cw rfl aA (bf eI (by decide))
 have Tp:=λD=>Z2 (w:=w) (r:=(r.u (co (T.headD 0)) (co (T.tail.headD 0)) (ab (.f (c4 (b6 w T).v))) (ab (.f (b6 w T).t.bI)) (ab (.f (.str [bJ (b6 w T).fold]))) (ab (.f (.str (b6 w T).x))) (cH (b6 w T).eV) (cH ((b6 w T).dg f)) r.eu r.ez r.clo r.dq)) (p:=(p.d3 (fo T))) (ln:=ln) (R:=R++c3 e (h&&(b6 w T).eV)) (D:=D) (v:=(b6 w T).v) (λ_ h=>QO h) k.u rfl aA (by rw[bL];exact bf (fW eI (zd ..)) (by decide))
 exact lK.hl (mC.hl (qh.hl (oX.hl (xr.hl (BW.hl (Tz.hl (TA.hl (TB.hl ((To _).hl ((Tp _).hl t))))))))))
theorem hi.lst (M:List cQ):hi M-> ∀z∈M,z.1= []->z.2≠ []:=by
 induction M with
 |nil=>exact λ_ z cG=>nomatch cG
 |cons p M ai=>
  intro mQ z cG he
  rcases e5.mp cG with e|cG
  ·rw[e] at he⊢
   exact λg=> (mQ.ds (d5 he)).elim (λh=>nomatch g.symm.trans h) λh=>nomatch g.symm.trans h
  ·exact ai mQ.aO z cG he
theorem Vz {n:Nat} {d:dD} {sa:Bool} (k:ff r e nn) (ar:r.n=co n) (Yo:d.c=odd (n/2)) (aH:jz w d.x) (h0:fp nn) (aA:e.length<=10) (eI:R.length<=200) (dI:D.length<=200) {s:S} {ι:Type} {σ:Option ae->ι->St}
  (t: ∀o,∃i,cK w s (b5 (r.u r.n r.m (ab (.f (c4 d.v))) (ab (.f d.t.bI)) (ab (.f (.str [bJ d.fold]))) (ab (.f (.str d.x))) r.eb (cH sa) o (ab (.f (.lst ((b7 [] d.x).map da)))) (cH d.c) (cH d.cI)) p ln (((R++gz e d.t)++gA (gK sa) d.fold nn e (b7 [] d.x))++c3 e d.c) ((D++ [kP sa (c4 d.v) d.t.bI])++ [ko d.x d.fold])) (σ o i)): ∃o i,cK w (Ox s) (b5 (r.u r.n r.m (ab (.f (c4 d.v))) (ab (.f d.t.bI)) (ab (.f (.str [bJ d.fold]))) (ab (.f (.str d.x))) r.eb (cH sa) r.eu r.ez r.clo r.dq) p ln R D) (σ o i):=by
 refine ak (Z3 (w:=w) (r:=(r.u r.n r.m (ab (.f (c4 d.v))) (ab (.f d.t.bI)) (ab (.f (.str [bJ d.fold]))) (ab (.f (.str d.x))) r.eb (cH sa) r.eu r.ez r.clo r.dq)) (p:=p) (ln:=ln) (D:=D) (t:=d.t) k.u rfl aA (bf eI (by decide))) λo BV=>ak (t o) λi t=> ⟨o,i, ?_⟩
 have BV:cK w zh (b5 (r.u r.n r.m (ab (.f (c4 d.v))) (ab (.f d.t.bI)) (ab (.f (.str [bJ d.fold]))) (ab (.f (.str d.x))) r.eb (cH sa) r.eu r.ez r.clo r.dq) p ln R D) (b5 (r.u r.n r.m (ab (.f (c4 d.v))) (ab (.f d.t.bI)) (ab (.f (.str [bJ d.fold]))) (ab (.f (.str d.x))) r.eb (cH sa) o r.ez r.clo r.dq) p ln (R++gz e d.t) D):=BV
 refine bT aH.hd λa be YX=>bT (Eo d.x [] (cW (by rw[YX.1];exact c9 _ _))) λq L dC=> ?_
 have YB:=zG _ _ aH.ok
 have lU:=NK d.x [] (bf (by rw[eX,jt];exact aH.le) (by decide))
 have Du:(b7 [] d.x).length<=13:=bf (vw d.x []) (iX aH.le)
 have bV:=hi.lst _ (Pa d.x [] (λc aD=>QL (YB c aD)) nofun)
 have H:=(u9 (n:=nn) aH).2
 have b1:(R++gz e d.t).length<=202:=by rw[bL];exact fW eI (N1 ..)
 have ii:(gA (gK sa) d.fold nn e (b7 [] d.x)).length<=27:=iX (bf (EH ..) (tT 2 Du))
 have Tq:cK w Eu (b5 (r.u r.n r.m (ab (.f (c4 d.v))) (ab (.f d.t.bI)) (ab (.f (.str [bJ d.fold]))) (ab (.f (.str d.x))) r.eb (cH sa) o r.ez r.clo r.dq) p ln (R++gz e d.t) D) (b5 (r.u r.n r.m (ab (.f (c4 d.v))) (ab (.f d.t.bI)) (ab (.f (.str [bJ d.fold]))) (ab (.f (.str d.x))) r.eb (cH sa) o (ab (.f (.lst ((b7 [] d.x).map da)))) r.clo r.dq) p ln (R++gz e d.t) D):=Z4 (r:=(r.u r.n r.m (ab (.f (c4 d.v))) (ab (.f d.t.bI)) (ab (.f (.str [bJ d.fold]))) (ab (.f (.str d.x))) r.eb (cH sa) o r.ez r.clo r.dq)) rfl (bf aH.le (by decide))
 have IY:=Z5 (w:=w) (r:=(r.u r.n r.m (ab (.f (c4 d.v))) (ab (.f d.t.bI)) (ab (.f (.str [bJ d.fold]))) (ab (.f (.str d.x))) r.eb (cH sa) o (ab (.f (.lst ((b7 [] d.x).map da)))) r.clo r.dq)) (p:=p) (ln:=ln) (R:=(R++gz e d.t)) (D:=D) (e:=e) (nn:=nn) (s:=sa) (fold:=d.fold) (q:=q) (L:=L) k.u rfl rfl (by rw[dC];rfl) h0 aA (dC▸lU) (dC▸bf Du (by decide)) (bf b1 (by decide))
 rw[<-dC] at IY
 have Tr:cK w Ew (b5 (r.u r.n r.m (ab (.f (c4 d.v))) (ab (.f d.t.bI)) (ab (.f (.str [bJ d.fold]))) (ab (.f (.str d.x))) r.eb (cH sa) o (ab (.f (.lst ((b7 [] d.x).map da)))) r.clo r.dq) p ln ((R++gz e d.t)++gA (gK sa) d.fold nn e (b7 [] d.x)) D) (b5 (r.u r.n r.m (ab (.f (c4 d.v))) (ab (.f d.t.bI)) (ab (.f (.str [bJ d.fold]))) (ab (.f (.str d.x))) r.eb (cH sa) o (ab (.f (.lst ((b7 [] d.x).map da)))) (cH d.c) r.dq) p ln ((R++gz e d.t)++gA (gK sa) d.fold nn e (b7 [] d.x)) D):=by
  rw[Yo];exact Z6 (r:=(r.u r.n r.m (ab (.f (c4 d.v))) (ab (.f d.t.bI)) (ab (.f (.str [bJ d.fold]))) (ab (.f (.str d.x))) r.eb (cH sa) o (ab (.f (.lst ((b7 [] d.x).map da)))) r.clo r.dq)) ar
 have xq:=Z7 (w:=w) (r:=(r.u r.n r.m (ab (.f (c4 d.v))) (ab (.f d.t.bI)) (ab (.f (.str [bJ d.fold]))) (ab (.f (.str d.x))) r.eb (cH sa) o (ab (.f (.lst ((b7 [] d.x).map da)))) (cH d.c) r.dq)) (p:=p) (ln:=ln) (R:=((R++gz e d.t)++gA (gK sa) d.fold nn e (b7 [] d.x))) (D:=D) (c:=d.c) (q:=q) (L:=L) rfl (by rw[dC];rfl) (dC▸bf Du (by decide)) (dC▸bV)
 rw[<-dC,H,Hh] at xq
 have xq:cK w Ex (b5 (r.u r.n r.m (ab (.f (c4 d.v))) (ab (.f d.t.bI)) (ab (.f (.str [bJ d.fold]))) (ab (.f (.str d.x))) r.eb (cH sa) o (ab (.f (.lst ((b7 [] d.x).map da)))) (cH d.c) r.dq) p ln ((R++gz e d.t)++gA (gK sa) d.fold nn e (b7 [] d.x)) D) (b5 (r.u r.n r.m (ab (.f (c4 d.v))) (ab (.f d.t.bI)) (ab (.f (.str [bJ d.fold]))) (ab (.f (.str d.x))) r.eb (cH sa) o (ab (.f (.lst ((b7 [] d.x).map da)))) (cH d.c) (cH d.cI)) p ln ((R++gz e d.t)++gA (gK sa) d.fold nn e (b7 [] d.x)) D):=xq
 have Ts:=Z8 (w:=w) (r:=(r.u r.n r.m (ab (.f (c4 d.v))) (ab (.f d.t.bI)) (ab (.f (.str [bJ d.fold]))) (ab (.f (.str d.x))) r.eb (cH sa) o (ab (.f (.lst ((b7 [] d.x).map da)))) (cH d.c) (cH d.cI))) (p:=p) (ln:=ln) (R:=((R++gz e d.t)++gA (gK sa) d.fold nn e (b7 [] d.x))) (D:=D) (c:=d.c) k.u rfl aA (by rw[bL];exact bf (fW b1 ii) (by decide))
 have Tt:=Z9 (w:=w) (r:=(r.u r.n r.m (ab (.f (c4 d.v))) (ab (.f d.t.bI)) (ab (.f (.str [bJ d.fold]))) (ab (.f (.str d.x))) r.eb (cH sa) o (ab (.f (.lst ((b7 [] d.x).map da)))) (cH d.c) (cH d.cI))) (p:=p) (ln:=ln) (R:=(((R++gz e d.t)++gA (gK sa) d.fold nn e (b7 [] d.x))++c3 e d.c)) (D:=D) (s:=sa) (v:=c4 d.v) (t:=d.t.bI) k.u rfl rfl rfl (bf dI (by decide))
 have Tu:=aaa (w:=w) (r:=(r.u r.n r.m (ab (.f (c4 d.v))) (ab (.f d.t.bI)) (ab (.f (.str [bJ d.fold]))) (ab (.f (.str d.x))) r.eb (cH sa) o (ab (.f (.lst ((b7 [] d.x).map da)))) (cH d.c) (cH d.cI))) (p:=p) (ln:=ln) (R:=(((R++gz e d.t)++gA (gK sa) d.fold nn e (b7 [] d.x))++c3 e d.c)) (D:=(D++ [kP sa (c4 d.v) d.t.bI])) (x:=d.x) (fold:=d.fold) k.u rfl rfl (by rw[bL];exact bf (h1 dI 1) (by decide))
 exact BV.hl (Tq.hl (IY.hl (Tr.hl (xq.hl (Ts.hl (Tt.hl (Tu.hl t)))))))
end
section
variable {w:Bool} {r:bB} {p:aF} {ln:Nat} {R:List (List Nat)} {D:List aj} {e:List Nat} {nn:Nat}
structure ix (w:Bool) (d:dD):Prop where
 ok:jz w d.x
 v: ∀y,d.v=ab y->y<12
theorem CZ {T:List Nat}:ix w (b6 w T):=⟨ahQ w _ _ (E6 _).1 (E6 _).2,λ_ h=>QO h⟩
def bB.uL (r:bB) (T:List Nat) (d:dD) (f:Bool) (o:Option ae):bB:=r.u (co (T.headD 0)) (co (T.tail.headD 0)) (ab (.f (c4 d.v))) (ab (.f d.t.bI)) (ab (.f (.str [bJ d.fold]))) (ab (.f (.str d.x))) (cH d.eV) (cH (d.dg f)) o (ab (.f (.lst ((b7 [] d.x).map da)))) (cH d.c) (cH d.cI)
theorem VV {f c h:Bool} {d:dD}:((D++pb f (fI (c|| (h&&d.eV))))++ [kP (d.dg f) (c4 d.v) d.t.bI])++ [ko d.x d.fold]=D++jF f c h d:=by
 rw[bt,bt];rfl
theorem aaw {f h:Bool} {d:dD}:((((R++c3 e (h&&d.eV))++lZ e d.v)++gz e d.t)++gA (gK (d.dg f)) d.fold nn e (b7 [] d.x))++c3 e d.c=R++e7 e nn f h d:=by
 unfold e7
 rw[bt,bt,bt,bt]
theorem LF {T:List Nat} {f c h:Bool} {d:dD} {fr:Option cb} (k:ff r e nn) (bj:r.i=co (sJ f)) (aD:r.clo=cH c) (cw:r.dq=cH h) (h0:fp nn) (aA:e.length<=10) (dQ:T.length<=100) (eI:R.length<=100) (dI:D.length<=100) (bV:b8 p 500) (hd:b6 w T=d) (aq:p.dd=nn) (aC:p.dE=w):
  ∃o bw fe,cK w EF (b5 r ((((p.f0 fr).bZ []).aQ (lp f)).d3 T) ln R D) (b5 (r.uL T d f o) ((p.d3 (fo T)).k5 d f fr fe) bw (R++e7 e nn f h d) (D++jF f c h d)):=by
 have K:ix w d:=hd▸CZ
 have E:=λo R D=>VA (w:=w) (r:=r.uL T d f o) (p:=p.d3 (fo T)) (ln:=ln) (R:=R) (D:=D) (d:=d) (f:=f) (n0:=T.headD 0) (fr:=fr) k.u (by rw[<-hd];rfl) rfl rfl rfl rfl rfl rfl K.v (aC▸K.ok) bV (aq▸h0)
 have b1:((R++c3 e (h&&d.eV))++lZ e d.v).length<=200:=by rw[bL,bL];exact bf (fW (fW eI (zd ..)) (Og ..)) (by decide)
 have ii:(D++pb f (fI (c|| (h&&d.eV)))).length<=200:=by rw[bL];exact bf (fW dI (by cases f;exact fi 1;exact fu 1:(pb f (fI (c|| (h&&d.eV)))).length<=1)) (by decide)
 refine bT (Vz (ι:=Nat×(List (List Nat)×List ae)) (s:=EG) (w:=w) (p:=(((p.d3 (fo T)).f0 fr).bZ []).aQ (lp f)) (ln:=ln) (n:=T.headD 0) (d:=d) (sa:=d.dg f) (r:=r.u (co (T.headD 0)) (co (T.tail.headD 0)) r.iT r.tag r.hn r.val (cH d.eV) r.dg r.eu r.ez r.clo r.dq) (σ:=λo i=>b5 (r.uL T d f o) ((p.d3 (fo T)).k5 d f fr i.2) i.1 (R++e7 e nn f h d) (D++jF f c h d)) k.u rfl (by rw[<-hd];rfl) K.ok h0 aA b1 ii λo=> ?_) λo i C=> ⟨o,i.1,i.2, ?_⟩
 ·rw[VV,aaw]
  exact bT (E o _ _) λl1 hW E=> ⟨(l1,hW),E⟩
 ·exact Vy (p:=((p.f0 fr).bZ []).aQ (lp f)) k bj aD cw aA dQ eI dI hd C
end
def ql (n:Nat) (fold:Bool) (e x:List Nat):List Nat:=dI n x++(f7 x++(e++aZ (eO fold n e (b7 [] x))))
def k3 (e:List Nat) (n:Nat) (s:Bool) (d:dD) (t:List Nat):List Nat:=cond s (gV e (eN d.v d.t) (bJ d.fold::(ql n d.fold e d.x++t))) (bJ d.fold::(ql n d.fold e d.x++t))
theorem LI {e r:List Nat} (t:eH):gV e (eN af t) r=aZ (gz e t)++(45::45::45::32::r):=by
 cases t with
 |no=>rfl
 |one=>exact(bt (eE [33,101,33] [33,120]) e _).symm.trans (congrArg (· ++(45::45::45::32::r)) (dj _).symm)
 |two=>
  show eE [33] [33,121]++(e++(eE [33,101,33] [116]++(e++(45::45::45::32::r))))=((eE [33] [33,121]++e)++((eE [33,101,33] [116]++e)++ []))++_
  rw[dj,bt,bt,bt]
theorem VR {e r:List Nat} (v:Option Nat) (t:eH):gV e (eN v t) r=aZ (lZ e v)++(aZ (gz e t)++(45::45::45::32::r)):=by
 cases v with
 |none=>exact LI t
 |some d=>
  show vQ d++(e++gV e (eN af t) r)=((vQ d++e)++ [])++_
  rw[LI,dj,bt]
theorem ix.ch {w:Bool} {d:dD} (h:ix w d): ∀c∈d.x,c∈mf:=zG _ _ h.ok.ok
theorem Qd {d:dD} {f:Bool} (h:d.dg f=ac):gZ d.v d.t=aa:=by
 unfold dD.dg dD.eV at h
 revert h
 cases f<;>cases d.b<;>cases gZ d.v d.t<;>decide
theorem OV {v:Option Nat} {t:eH} (h:gZ v t=aa):v=af/\t= .no:=by
 cases v with
 |some d=>exact nomatch h
 |none=>cases t with
  |no=>exact⟨rfl,rfl⟩
  |one=>exact nomatch h
  |two=>exact nomatch h
theorem D8 {e:List Nat} {n:Nat} {f h w:Bool} {d:dD} (hd:ix w d) (t:List Nat):aZ (e7 e n f h d)++t=aZ (c3 e (h&&d.eV))++k3 e n (d.dg f) d (aZ (c3 e d.c)++t):=by
 have H:=u9 (n:=n) hd.ok
 have E:aZ (gA (gK (d.dg f)) d.fold n e (b7 [] d.x))=gK (d.dg f)++(bJ d.fold::ql n d.fold e d.x):=by
  show(gK (d.dg f)++([bJ d.fold]++(jd n (b7 [] d.x)++d6 (b7 [] d.x)))++e)++aZ (eO d.fold n e (b7 [] d.x))=_
  rw[H.1,H.2,bt,bt,bt,bt]
  rfl
 unfold e7
 rw[dG,dG,dG,dG,E,bt]
 refine congrArg (aZ (c3 e (h&&d.eV))++ ·) ?_
 rcases cJ (d.dg f) with hs|hs
 ·rw[hs,show k3 e n aa d (aZ (c3 e d.c)++t)=gV e (eN d.v d.t) (bJ d.fold::(ql n d.fold e d.x++(aZ (c3 e d.c)++t))) from rfl,VR,bt,bt,bt,bt]
  rfl
 ·have N:=OV (Qd hs)
  rw[hs,N.1,N.2]
  show((bJ d.fold::ql n d.fold e d.x)++aZ (c3 e d.c))++t=bJ d.fold::(ql n d.fold e d.x++(aZ (c3 e d.c)++t))
  rw[bt];rfl
theorem CY {e t:List Nat} {n:Nat} {w:Bool} {d:dD} (hd:ix w d) (bu:el e) (ar:fp n) (ci:Tok t):BT d.fold n (ql n d.fold e d.x) t d.x:=bT hd.ok.hd λa be h=>by
 have aD:=hd.ch
 have aA:=hd.ok.le
 rw[h.1] at aD aA⊢
 exact UB bu ar (λc h=>GY (aD c h)) (λc h=>QL (aD c h)) ci aA
theorem Ef (e:List Nat) (b:Bool) (t:List Nat):aZ (c3 e b)++t=cond b (46::46::46::(e++t)) t:=by
 cases b with
 |true=>exact congrArg (λz=>46::46::46::(z++t)) (dj e)
 |false=>rfl
theorem agZ {e r:List Nat} {ds:List f3}:Tok (gV e ds r):=by
 cases ds with
 |nil=>exact⟨45,_,rfl,by decide⟩
 |cons d ds=>exact⟨37,_,rfl,by decide⟩
theorem FT {e t:List Nat} {b:Bool} (h:Tok t):Tok (aZ (c3 e b)++t):=by
 rw[Ef]
 cases b with
 |true=>exact⟨46,_,rfl,by decide⟩
 |false=>exact h
theorem Qp:Tok [0]:=⟨0,[],rfl,by decide⟩
section
variable {b e t:List Nat} {r:b4} {p:Ps} {n:Nat} {w c:Bool} {d:dD} {vs:List aj}
theorem Fw (bu:el e) (aS:aL 34 r=af) (h:jk b r (aZ (c3 e c)++ [0]) p):Run [fI c,iS] p (aZ (c3 e c)++ [0]):=by
 rw[Ef] at h⊢
 cases c with
 |true=>exact ad1 bu aS h
 |false=>exact ad2 aS h
theorem ad8 {v:Nat->cb} {s:gR} (bu:el e) (ar:fp n) (hd:ix w d) (ci:Tok t) (h:jk b (io v s) (aZ (c3 e c)++k3 e n aa d t) p) (k: ∀q ks l,jk b (pA v s ks l) t q->Run vs q t):
  Run (fI c::kP aa (c4 d.v) d.t.bI::ko d.x d.fold::vs) p (aZ (c3 e c)++k3 e n aa d t):=by
 rw[Ef] at h⊢
 cases c with
 |true=>exact ad4 bu hd.v (CY hd bu ar ci) h k
 |false=>exact ad5 bu hd.v (CY hd bu ar ci) h k
theorem PB {v:Nat->cb} {s:gR} (bu:el e) (ar:fp n) (hd:ix w d) (ci:Tok t) (h:jS b (io v s) [] 1855 (k3 e n (d.dg aa) d t) p) (aD:(cx b (k3 e n (d.dg aa) d t)).2=0) (i9: ∀q ks l,jk b (pA v s ks l) t q->Run vs q t) (n1: ∀q,jk b (io v s) t q->Run vs q t):
  Run (kP (d.dg aa) (c4 d.v) d.t.bI::ko d.x d.fold::vs) p (k3 e n (d.dg aa) d t):=by
 have eS:=CY hd bu ar ci
 have N:=Qd (d:=d) (f:=aa)
 revert h aD N
 cases d.dg aa with
 |true=>exact λh aD _=>ad3 bu hd.v eS h aD i9
 |false=>
  intro h _ N
  have N:=OV (N rfl)
  rw[N.1,N.2]
  exact ad0 eS h n1
end
theorem Ee {e t:List Nat} {d:dD} {h:Bool} (cw:h=aa->d.cI=aa):aZ (c3 e d.c)++(aZ (c3 e h)++t)=aZ (c3 e (d.c||h))++t:=by
 rcases cJ d.c with aD|aD
 ·rw[aD]
  cases h with
  |false=>rfl
  |true=>
   have:=cw rfl
   unfold dD.cI at this
   rw[aD,wG,ho] at this
   exact nomatch this
 ·rw[aD];rfl
theorem Np (b:List Nat):(cx b b).2=0:=by
 unfold cx
 rw[Pm];rfl
theorem PC {t:List Nat} {m:aj} {r:b4} {vs:List aj} (k: ∀q,jS (t++ [0]) r [] 1855 (t++ [0]) q->Run vs q (t++ [0])):Run (lr::vs) (kf t m r) (t++ [0]):=
 Run.go (q:=(kf t m r).gt.to 1855) rfl rfl .a (afh ⟨rfl,cW rfl⟩) (.ss _ _ _) rfl (k _ ⟨⟨rfl,rfl,rfl,rfl,rfl,rfl⟩,rfl,rfl,[],rfl⟩)
section
variable {e:List Nat} {n:Nat} {w:Bool} {m:aj} {v:Nat->cb}
def VT (d:dD):List aj:=lr::(jF aa ac ac d++ [fI (d.c||d.cI),iS])
theorem ad6 {d:dD} (bu:el e) (ar:fp n) (hd:ix w d):Run (VT d) (kf (aZ (e7 e n aa ac d++c3 e d.cI)) m (io v .a)) (aZ (e7 e n aa ac d++c3 e d.cI)++ [0]):=by
 have T:aZ (e7 e n aa ac d++c3 e d.cI)++ [0]=k3 e n (d.dg aa) d (aZ (c3 e (d.c||d.cI))++ [0]):=by
  rw[dG,bt,D8 hd,Ee (λh=>h)];rfl
 refine PC λq h=> ?_
 have de:=Np (aZ (e7 e n aa ac d++c3 e d.cI)++ [0])
 revert h de
 generalize aZ (e7 e n aa ac d++c3 e d.cI)++ [0]=b at T⊢
 intro h de
 rw[T]
 exact PB bu ar hd (FT Qp) (T▸h) (T▸de) (λq ks l s=>Fw bu rfl s) λq s=>Fw bu rfl s
def VU (d1 dB:dD):List aj:=lr::(jF aa ac ac d1++(jF ac d1.c d1.cI dB++ [fI (dB.c||dB.cI),iS]))
theorem ad9 {d1 dB:dD} (bu:el e) (ar:fp n) (lg:ix w d1) (hd2:ix w dB):Run (VU d1 dB) (kf (aZ (e7 e n aa ac d1++(e7 e n ac d1.cI dB++c3 e dB.cI))) m (io v .b)) (aZ (e7 e n aa ac d1++(e7 e n ac d1.cI dB++c3 e dB.cI))++ [0]):=by
 have T:aZ (e7 e n aa ac d1++(e7 e n ac d1.cI dB++c3 e dB.cI))++ [0]=k3 e n (d1.dg aa) d1 (aZ (c3 e (d1.c|| (d1.cI&&dB.eV)))++k3 e n aa dB (aZ (c3 e (dB.c||dB.cI))++ [0])):=by
  rw[dG,bt,D8 lg,dG,bt,D8 hd2,Ee (d:=dB) (h:=dB.cI) (λh=>h),Ee (d:=d1) (h:=d1.cI&&dB.eV) (λh=> (fV.mp h).1)];rfl
 refine PC λq h=> ?_
 have de:=Np (aZ (e7 e n aa ac d1++(e7 e n ac d1.cI dB++c3 e dB.cI))++ [0])
 revert h de
 generalize aZ (e7 e n aa ac d1++(e7 e n ac d1.cI dB++c3 e dB.cI))++ [0]=b at T⊢
 intro h de
 rw[T]
 have go: ∀(v:Nat->cb) (s:gR) (q:Ps),(∀ks l,aL 34 (pA v s ks l)=af)->jk b (io v s) (aZ (c3 e (d1.c|| (d1.cI&&dB.eV)))++k3 e n aa dB (aZ (c3 e (dB.c||dB.cI))++ [0])) q->Run (fI (d1.c|| (d1.cI&&dB.eV))::kP aa (c4 dB.v) dB.t.bI::ko dB.x dB.fold:: [fI (dB.c||dB.cI),iS]) q (aZ (c3 e (d1.c|| (d1.cI&&dB.eV)))++k3 e n aa dB (aZ (c3 e (dB.c||dB.cI))++ [0])):=
  λv s q aS h=>ad8 bu ar hd2 (FT Qp) h λq ks l h=>Fw bu (aS ks l) h
 exact PB bu ar lg (FT agZ) (T▸h) (T▸de) (λq ks l h=>go (λi=>cond (bA i 9) (.dict ks l) (v i)) .c q (λ_ _=>rfl) h) λq h=>go v .b q (λ_ _=>rfl) h
end
def eM (x:List Nat):Prop:= ∀c∈x,c∈k0
theorem eM.cF {x y:List Nat} (h:eM x) (g:eM y):eM (x++y):=λc aD=> (A4.mp aD).elim (h c) (g c)
theorem iC:eM []:=nofun
theorem kZ {x:List Nat} (h:x.all (λc=>k0.contains c)=aa):eM x:=λc aD=>rP.mp (fL.mp h c aD)
theorem TU (n:Nat):eM (ind n):=λc aD=>by rw[RJ aD];decide
theorem Ja {d:Nat} (h:d<12):eM (dv d):=
 kZ (fL.mp (show(A6 12).all (λd=> (dv d).all (λc=>k0.contains c))=aa by decide+kernel) d (HR.mpr h))
theorem B8 {e:List Nat} (bu:el e):eM e:=by rcases bu with rfl|rfl|rfl<;>exact kZ (by decide)
theorem TV {w:Bool} {d:dD} (hd:ix w d):eM d.x:=λc aD=>rP.mp (tD (q:=λc=>k0.contains c) (by decide) (hd.ch c aD))
def I9 (L:List cQ):Prop:= ∀p∈L,eM p.1/\eM p.2
theorem TR: ∀r l:List Nat,eM l->eM r->I9 (b7 l r):=λr=>by
 induction r with
 |nil=>
  intro l h _
  cases l with
  |nil=>exact nofun
  |cons a l=>exact λp hp=>by rw[jU.mp hp];exact⟨h,iC⟩
 |cons c r ai=>
  intro l h g
  have L6:eM [c]:=λx aH=>by rw[jU.mp aH];exact g c eo
  have Ma:eM r:=λx aH=>g x (eY _ aH)
  rcases cJ (d7 c) with ag|ag
  ·rw[jc ag]
   exact λp hp=> (e5.mp hp).elim (λe=>e▸⟨h,L6⟩) (ai [] iC Ma p)
  ·rw[iK ag]
   exact ai (l++ [c]) (h.cF L6) Ma
theorem r4 {b:Bool} {x y:List Nat} (h:eM x) (g:eM y):eM (cond b x y):=by cases b;exact g;exact h
theorem TS {fold:Bool} {n:Nat} {e:List Nat} (he:eM e) (L:List cQ):I9 L->eM (aZ (eO fold n e L)):=by
 induction L with
 |nil=>exact λ_=>iC
 |cons p L ai=>
  intro h
  have aq:=h _ eo
  have ai:=ai λp hp=>h p (eY _ hp)
  obtain ⟨l,d⟩:=p
  show eM ((lj n l++ej e d)++aZ (cond (hH fold l d L) [e] []++eO fold n e L))
  rw[dG]
  refine(eM.cF ?_ (r4 aq.2 he)).cF (eM.cF ?_ ai)
  ·cases l with
   |nil=>exact iC
   |cons a l=>exact(TU n).cF aq.1
  ·cases hH fold l d L with
   |true=>exact he.cF iC
   |false=>exact iC
theorem xx {e:List Nat} (he:eM e) (b:Bool):eM (aZ (c3 e b)):=by
 cases b with
 |true=>exact((kZ (x:= [46,46,46]) (by decide)).cF he).cF iC
 |false=>exact iC
theorem B9 {e:List Nat} {n:Nat} {f h w:Bool} {d:dD} (hd:ix w d) (bu:el e) (ar:fp n):eM (aZ (e7 e n f h d)):=by
 have he:=B8 bu
 unfold e7 gA
 rw[dG,dG,dG,dG,qv]
 refine(xx he _).cF (eM.cF ?_ (eM.cF ?_ (eM.cF (eM.cF ?_ (TS he _ (TR d.x [] iC (TV hd)))) (xx he _))))
 ·have aW:=hd.v
  revert aW
  cases d.v with
  |none=>exact λ_=>iC
  |some y=>exact λaW=> (((kZ (x:= [37,89,65,77,76,32,49,46]) (by decide)).cF (Ja (aW y rfl))).cF he).cF iC
 ·cases d.t with
  |no=>exact iC
  |one=>exact((kZ (x:=eE [33,101,33] [33,120]) (by decide)).cF he).cF iC
  |two=>exact((kZ (x:=eE [33] [33,121]) (by decide)).cF he).cF (((kZ (x:=eE [33,101,33] [116]) (by decide)).cF he).cF iC)
 ·refine(eM.cF (r4 (kZ (by decide)) iC) (eM.cF ?_ (eM.cF (r4 (Ja (by rcases ar with rfl|rfl|rfl<;>decide)) iC) ?_))).cF he
  ·cases d.fold<;>exact kZ (by decide)
  ·rw[(u9 (n:=n) hd.ok).2]
   unfold f7 iF
   exact r4 (r4 (kZ (by decide)) (r4 (kZ (by decide)) iC)) (kZ (by decide))
noncomputable def Nq:S:=(.exp (.aG (.lo 103) 25 (.cons (.call (.gl 209) .nil .nil) .nil) .nil))
noncomputable def Nr:S:=(.ite (.lo 106) (.cons (.exp (.cF (.lo 36) (.bin .Add (.ks [46,46,46]) (.lo 83)))) .nil) .nil)
noncomputable def Nt:S:=(.se 8 (.lst (.cons (.tup (.cons (.ks [100,111,99,117,109,101,110,116,32,101,110,100]) (.cons (.or (.cons (.lo 81) (.cons (.lo 106) .nil))) .nil))) (.cons (.tup (.cons (.ks [115,116,114,101,97,109,32,101,110,100]) .nil)) .nil))))
noncomputable def Nu:S:=(.aN 41 (.aG (.at (.lo 103) 97) 41 .nil .nil))
noncomputable def Nv:S:=(.ite (.cmp .NotEq (.lo 41) (.join (.ks []) (.lo 36))) (.cons (.ret (.bF ac)) .nil) .nil)
noncomputable def Nw:S:=(.aN 90 (.call (.gl 74) (.cons (.lo 41) .nil) .nil))
noncomputable def aaF:S:=(.aN 11 (.cell 103 .nil))
noncomputable def Pt:X:=(.cmp .IsNot (.aG (.lo 90) 153 .nil .nil) .cq)
noncomputable def Pu:S:=(.cons (.exp (.cF (.lo 11) (.call (.gl 128) (.cons (.aG (.lo 90) 133 .nil .nil) .nil) .nil))) .nil)
def aaG:S:=(.eR Pt Pu)
noncomputable def aaH:S:=(.ret (.uT (.lo 11) (.lo 8)))
section
variable {w:Bool} {r:bB} {p:aF} {ln:Nat} {R:List (List Nat)} {D:List aj} {e:List Nat} {nn:Nat}
theorem Told.inst {ev v:aj} (h:Told ev v): ∃C ns vs,ev= .inst C ns vs:=by cases h<;>exact⟨_,_,_,rfl⟩
noncomputable def bB.tb (r:bB) (t:List Nat):bB:={r with txt:=ab (.f (.str t)),ra:=ab (.ap 30),got:=ab (.ap 103)}
def zT (r:bB) (p:Ps) (u:List Nat) (cj gD:cb) (G:List aj):St:=⟨r.loc,p.hp u,[(101,cj),(102,gD),(103,.list (G.map .f))],[103,102,101]⟩
theorem adB {t:List Nat} (cj gD:cb): ∀(vs:List aj) (p:Ps) (u:List Nat) (G:List aj),Run vs p u->G.length+vs.length<=1000->
  ∃q g4,aJ (fa (ev (SL w) Pt).t (bN (SL w) Pu) (zT (r.tb t) p u cj gD G)) .aQ (zT (r.tb t) q g4 cj gD (G++vs)):=λvs=>by
 induction vs with
 |nil=>exact λp u G h _=> ⟨p,u,by rw[dj];exact eQ (by exact b9 λ_ _ F k=>F _ _ (aff h.1 h.2) ac rfl k)⟩
 |cons v vs ai=>
  intro p u G h aA
  obtain ⟨ev,q,ts,ci,c6,dC,hp⟩:=h
  rw[du] at aA
  refine bT (ai q ts (G++ [v]) c6 (by rw[bL,du,eX];omega)) λe9 g4 i=> ⟨e9,g4, ?_⟩
  rw[bt] at i
  have aec:cm (G.map ae.f)=aa:=fZ (by rw[ed];omega)
  have ey:q.ev .none=q:=congrArg (λc=> ({q with ce:=c}:Ps)) dC.symm
  have Wc:zT (r.tb t) q ts cj gD (G++ [v])=⟨(r.tb t).loc,(q.ev .none).hp ts,[(101,cj),(102,gD),(103,.list (G.map .f++ [.f v]))],[103,102,101]⟩:=by
   rw[ey]
   exact congrArg (λl=> (⟨(r.tb t).loc,q.hp ts,[(101,cj),(102,gD),(103,.list l)],[103,102,101]⟩:St)) lD
  refine fb ?_ i
  rw[Wc]
  have T:=λhp=>ci.run (hp:=hp)
  refine c5 ci.inst λC ns l x=> ?_
  rw[x] at hp T
  exact b9 λ_ _ F k=>F _ _ hp aa rfl _ _ aeV _ _ (T _) aec k
theorem aaf (k:ff r e nn) (ar:b8 p 10): ∃bw,cK w Nq (b5 r ((p.bZ []).aQ 444) ln R D) (b5 r (((((p.eJ ac).o (fR p.lb p.dW)).bZ []).di .none).aQ 429) bw R D):=by
 rw[k.eq]
 refine ak (WT (p:=p) (ln:=ln) ar) λbw E=> ⟨bw,λG K F=> ?_⟩
 exact F _ _ (hR rfl rfl) _ _ E
theorem aag {h:Bool} (k:ff r e nn) (cw:r.dq=cH h) (aA:e.length<=10) (eI:R.length<=1000):cK w Nr (b5 r p ln R D) (b5 r p ln (R++c3 e h) D):=by
 rw[sW,k.eq,yC (r:=r.cx e nn) cw]
 intro G K F
 have s:=l8 eI
 cases h with
 |false=>
  rw[show cf R++cf (c3 e ac)=cf R from dj _]
  exact F ac rfl
 |true=>exact F aa rfl (C0 aA) s
theorem aah {c h:Bool} (k:ff r e nn) (aD:r.clo=cH c) (cw:r.dq=cH h) (dI:D.length<=1000):cK w Nt (b5 r p ln R D) (b5 r p ln R (D++ [fI (c||h),iS])):=by
 rw[show b5 r p ln R (D++ [fI (c||h),iS])=⟨r.loc,p.hp ln,[(101,.list (cf R)),(102,.list (D.map .f++ [.f (fI (c||h)),.f iS]))],[102,101]⟩ from congrArg (λl=> (⟨r.loc,p.hp ln,[(101,.list (cf R)),(102,.list l)],[102,101]⟩:St)) lD,k.eq,uE (r:=r.cx e nn) aD,yC (r:=(r.cx e nn).sc _) cw]
 intro G K F
 have s:=vR dI
 cases c with
 |true=>exact F aa rfl ⟨s,rfl⟩
 |false=>exact F ac rfl ⟨s,rfl⟩
noncomputable def bB.tr (r:bB) (t:List Nat):bB:={r with txt:=ab (.f (.str t))}
def aF.l3 (p:aF) (O:List (List Nat)):aF:={p with out:=cf O}
theorem Qg (C:List (List Nat)):(match eL (cf C) with
  |some fs=>kM fs
  |none=>af)=ab C:=by rw[GU];exact Qf C
theorem aai {O:List (List Nat)} (k:ff r e nn) (hs:(aZ O).length<=16777216):cK w Nu (b5 r (p.l3 O) ln R D) (b5 (r.tr (aZ O)) (p.l3 O) ln R D):=by
 have X:aJ (Gm [.ap 14] ((p.l3 O).hp ln)) (.f (.str (aZ O))) ((p.l3 O).hp ln):=by
  delta Gm
  exact aV λ_ _ F k=>F _ (Qg O) hs k
 rw[k.eq]
 intro G K F
 exact F _ _ X
theorem aaj {t:List Nat} (k:ff r e nn) (he:t=aZ R) (hs:(aZ R).length<=16777216):cK w Nv (b5 (r.tr t) p ln R D) (b5 (r.tr t) p ln R D):=by
 rw[k.eq]
 intro G K F
 exact F _ (Qg R) hs _ (congrArg not (gL.mpr he))
theorem aak {t:List Nat} (aE:eM t) (hs:(t++ [0]).length<=16777216) (hd: ∀m,nP ((kf t m []).hp (t++ [0])) (p.hp ln)=aa): ∃m,cK w Nw (b5 (r.tr t) p ln R D) ⟨bB.loc {r.tr t with ra:=ab (.ap 30)},(kf t m (p.hp ln)).hp (t++ [0]),[(101,.list (cf R)),(102,.list (D.map .f))],[102,101]⟩:=by
 refine ak (afc (hp:=p.hp ln) aE hs hd) λm P=> ⟨m,λG K F=> ?_⟩
 exact F _ _ P
end
theorem uG {b:Bool} {x y:List Nat} {n:Nat} (aH:x.length<=n) (cO:y.length<=n):(cond b x y).length<=n:=by cases b;exact cO;exact aH
theorem abD {fold:Bool} {n:Nat} {e:List Nat} (ar:n<=10) (he:e.length<=10) (L:List cQ):vI L->(aZ (eO fold n e L)).length<=1100*L.length:=by
 induction L with
 |nil=>exact λ_=>fi _
 |cons p L ai=>
  intro lU
  have aq:=lU _ eo
  have ai:=ai λp hp=>lU p (eY _ hp)
  obtain ⟨l,d⟩:=p
  show((lj n l++ej e d)++aZ (cond (hH fold l d L) [e] []++eO fold n e L)).length<=1100*(L.length+1)
  have aC:(lj n l).length<=1010:=by
   have:=aq.1
   cases l with
   |nil=>exact fu _
   |cons a l=>
    show(gP n 32++(a::l)).length<=1010
    rw[bL,A3];exact bf (fW ar this) (by decide)
  have bz:(ej e d).length<=10:=uG aq.2 he
  have ee:(aZ (cond (hH fold l d L) [e] [])).length<=10:=by
   cases hH fold l d L with
   |true=>exact bf (fh (congrArg A1 (dj e))) he
   |false=>exact fu _
  rw[dG,bL,bL,bL]
  omega
theorem zc {e:List Nat} (he:e.length<=10) (b:Bool):(aZ (c3 e b)).length<=13:=by
 cases b with
 |true=>exact bf (fh ((congrArg A1 (dj ([46,46,46]++e))).trans bL)) (iW he 3)
 |false=>exact fu _
theorem D7 {e:List Nat} {n:Nat} {f h w:Bool} {d:dD} (hd:ix w d) (he:e.length<=10) (ar:n<=10):(aZ (e7 e n f h d)).length<=20000:=by
 have aq:=zc he (h&&d.eV)
 have pk:=zc he d.c
 have aC:(aZ (lZ e d.v)).length<=30:=by
  cases d.v with
  |none=>exact fu _
  |some y=>
   have:=x9 y
   show((([37,89,65,77,76,32]++(49::46::dv y))++e)++ []).length<=30
   rw[dj,bL,bL];exact bf (fW (iW (h1 this 2) 6) he) (by decide)
 have bz:(aZ (gz e d.t)).length<=60:=by
  cases d.t with
  |no=>exact fu _
  |one=>
   show((eE [33,101,33] [33,120]++e)++ []).length<=60
   rw[dj,bL];exact bf (iW he _) (by decide)
  |two=>
   show((eE [33] [33,121]++e)++((eE [33,101,33] [116]++e)++ [])).length<=60
   rw[dj,bL,bL,bL];exact bf (fW (iW he _) (iW he _)) (by decide)
 have ee:(gK (d.dg f)++([bJ d.fold]++(jd n (b7 [] d.x)++d6 (b7 [] d.x)))++e).length<=30:=by
  have a:=Oy n (b7 [] d.x)
  have b:(d6 (b7 [] d.x)).length<=1:=by
   rw[(u9 (n:=n) hd.ok).2]
   exact uG (uG (fi 1) (uG (fi 1) (fu 1))) (fi 1)
  have c:(gK (d.dg f)).length<=4:=uG (fi 4) (fu 4)
  rw[bL,bL,bL,bL]
  exact bf (fW (fW c (fW (fi 1) (fW a b))) he) (by decide)
 have aA:=hd.ok.le
 have fE:=abD (fold:=d.fold) ar he _ (NK d.x [] (bf (by rw[eX,jt];exact aA) (by decide)))
 have gx:=vw d.x []
 unfold e7 gA
 rw[dG,dG,dG,dG,qv,bL,bL,bL,bL,bL]
 omega
def leB:S:= .cons aaF (.cons aaG (.cons aaH .nil))
def vt:S:= .cons Nq (.cons Nr (.cons Nt (.cons Nu (.cons Nv (.cons Nw leB)))))
def oI (w:Bool) (s:S) (σ:St):Prop:= ∃σ',∀(G:Prop) (K:cD->St->aB),aB.path G (bN (SL w) s σ K)->aB.path G (K (.hF (.f (.bool aa))) σ')
theorem cK.to {w:Bool} {a b:S} {σ σ₁:St} (aq:cK w a σ σ₁) (aC:oI w b σ₁):oI w (.cons a b) σ:=ak aC λσ' aC=> ⟨σ',λG K F=>aC G K (aq G (FJ (λσ=>bN (SL w) b σ K) K) F)⟩
section
variable {w:Bool} {r:bB} {p:aF} {ln:Nat} {R:List (List Nat)} {D:List aj} {e:List Nat} {nn:Nat}
theorem WV {t:List Nat} {q:Ps} {u:List Nat} (k:ff r e nn) (sG:Run D q u) (dI:D.length<=1000) (heq:kD 3 D=aa):
  oI w leB ⟨bB.loc {r.tr t with ra:=ab (.ap 30)},q.hp u,[(101,.list (cf R)),(102,.list (D.map .f))],[102,101]⟩:=by
 have s:=vR dI
 refine bT (adB (w:=w) (r:=r.cx e nn) (t:=t) (.list (cf R)) (.list (D.map .f)) D q u [] sG (by rw[eX,jt];exact dI)) λe9 g4 L=> ?_
 rw[k.eq]
 refine⟨zT ((r.cx e nn).tb t) e9 g4 (.list (cf R)) (.list (D.map .f)) D,λG K F=> ?_⟩
 exact F _ rfl _ _ L _ (wk D) ⟨⟨rfl,s⟩,heq⟩
noncomputable def QM (h:b4) (i:Nat):cb:=(h.map Prod.snd).getD i (.list [])
def r0 (s:gR) (r:b4):Prop:=(s= .a/\ ∃D,r= [(16,D)])\/(s= .b/\ ∃D fe,r= [(16,D),(17,fe)])
theorem aF.zR {r:b4} (h:p.r=r):p={p with r:=r}:=congrArg (λr=> ({p with r:=r}:aF)) h
theorem r0.ok {s:gR} (h:r0 s p.r):p.hp ln=io (QM (p.hp ln)) s/\ ∀t m,nP ((kf t m []).hp (t++ [0])) (p.hp ln)=aa:=by
 rcases h with⟨rfl,D,h⟩ | ⟨rfl,D,fe,h⟩
 ·rw[p.zR h];exact⟨rfl,λ_ _=>rfl⟩
 ·rw[p.zR h];exact⟨rfl,λ_ _=>rfl⟩
theorem Qn {c h:Bool} {O:List (List Nat)} {s:gR} (k:ff r e nn) (aD:r.clo=cH c) (cw:r.dq=cH h) (aq:p.dW=h) (aC:p.lb=e) (bz:p.out=cf O) (aA:e.length<=10) (Yi:aZ O=aZ R) (eI:R.length<=100) (dI:D.length<=100) (qO:O.length<=500) (Ye:eM (aZ (R++c3 e h))) (j7:(aZ (R++c3 e h)).length<=1000000) (c6:r0 s p.r)
  (sG: ∀m v,Run (D++ [fI (c||h),iS]) (kf (aZ (R++c3 e h)) m (io v s)) (aZ (R++c3 e h)++ [0])) (heq:kD 3 (D++ [fI (c||h),iS])=aa):oI w vt (b5 r ((p.bZ []).aQ 444) ln R D):=by
 refine ak (aaf (w:=w) (p:=p) (ln:=ln) (R:=R) (D:=D) k (by show p.out.length+10<=1000000;rw[bz,lN];exact bf (h1 qO 10) (by decide))) λl1 lK=> ?_
 have e1:(((((p.eJ ac).o (fR p.lb p.dW)).bZ []).di .none).aQ 429)=((((p.eJ ac).bZ []).di .none).aQ 429).l3 (O++fR e h):=by
  rw[aq,aC]
  exact congrArg (λl=> (((((p.eJ ac).bZ []).di .none).aQ 429:aF) |>λx=> ({x with out:=l}:aF))) ((congrArg (· ++cf (fR e h)) bz).trans (h4 _ _).symm)
 rw[e1] at lK
 have dQ:aZ (O++fR e h)=aZ (R++c3 e h):=by rw[dG,dG,Yi,Ed]
 have X:=r0.ok (p:=((((p.eJ ac).bZ []).di .none).aQ 429).l3 (O++fR e h)) (ln:=l1) c6
 have hs:(aZ (R++c3 e h)).length<=16777216:=bf j7 (by decide)
 have mC:=aag (w:=w) (p:=((((p.eJ ac).bZ []).di .none).aQ 429).l3 (O++fR e h)) (ln:=l1) (R:=R) (D:=D) k cw aA (bf eI (by decide))
 have qh:=aah (w:=w) (p:=((((p.eJ ac).bZ []).di .none).aQ 429).l3 (O++fR e h)) (ln:=l1) (R:=R++c3 e h) (D:=D) k aD cw (bf dI (by decide))
 have oX:=aai (w:=w) (p:=(((p.eJ ac).bZ []).di .none).aQ 429) (ln:=l1) (R:=R++c3 e h) (D:=D++ [fI (c||h),iS]) (O:=O++fR e h) k (dQ▸hs)
 have xr:=aaj (w:=w) (p:=((((p.eJ ac).bZ []).di .none).aQ 429).l3 (O++fR e h)) (ln:=l1) (R:=R++c3 e h) (D:=D++ [fI (c||h),iS]) k dQ hs
 rw[dQ] at oX xr
 refine ak (aak (w:=w) (r:=r) (p:=((((p.eJ ac).bZ []).di .none).aQ 429).l3 (O++fR e h)) (ln:=l1) (R:=R++c3 e h) (D:=D++ [fI (c||h),iS]) Ye (by rw[bL];exact bf (h1 j7 1) (by decide)) λm=>X.2 _ m) λm BW=> ?_
 have sG:=sG m (QM ((((((p.eJ ac).bZ []).di .none).aQ 429).l3 (O++fR e h)).hp l1))
 rw[<-X.1] at sG
 exact lK.to (mC.to (qh.to (oX.to (xr.to (BW.to (WV k sG (by rw[bL];exact bf (h1 dI 2) (by decide)) heq))))))
end
theorem uU (n:Nat) (A B:List aj):kD n (A++B)=(kD n A&&kD n B):=by
 induction A with
 |nil=>rfl
 |cons a A ai=>exact(congrArg (sm n a&& ·) ai).trans (wD ..).symm
theorem Dd (f c h:Bool) (d:dD):kD 3 (jF f c h d)=aa:=by
 obtain ⟨b,v,t,fold,x,cl⟩:=d
 cases f<;>cases v<;>cases t<;>rfl
theorem za (e:List Nat) (n:Nat) (f h:Bool) (d:dD) (aH:d.x.length<=12):(e7 e n f h d).length<=40:=by
 have aq:=zd e (h&&d.eV)
 have aC:=Og e d.v
 have bz:=N1 e d.t
 have ee:=EH d.fold n e (b7 [] d.x)
 have fE:=vw d.x []
 have pk:=zd e d.c
 unfold e7 gA
 rw[bL,bL,bL,bL,du];omega
theorem yd (f c h:Bool) (d:dD):(jF f c h d).length<=3:=by cases f;exact fi 3;exact kx 2
theorem yl {e:List Nat} {n:Nat} {f h:Bool} {d:dD} (aH:d.x.length<=12):(mP e n f h d).length<=62:=by
 unfold mP
 rw[bL]
 exact fW (LD aH) (show(fR e d.c).length<=2 by cases d.c;exact fu 2;exact fi 2)
theorem Vp (T:List Nat):(fo T).length<=T.length:=by
 unfold fo
 rw[A2,wW,wW]
 exact bf (oJ ..) (bf (oJ ..) (oJ ..))
section
variable {w:Bool} {r:bB} {p:aF} {ln:Nat} {e:List Nat} {nn:Nat}
theorem LC {d:dD} {f:Bool} {fr:Option cb} {fe:List (List Nat)×List ae} {O:List (List Nat)} (h:p.out=cf O):(p.k5 d f fr fe).out=cf (O++mP p.lb p.dd f p.dW d):=by
 show(p.out++cf (nQ p.dW p.lb d.v d.t (d.im f) d.fold p.dd d.x))++cf (fR p.lb d.c)=_
 rw[h,bt,<-h4,<-h4];rfl
theorem agL {d:dD} {O:List (List Nat)} (k:ff r e nn) (aD:r.clo=cH d.c) (cw:r.dq=cH d.cI) (aq:p.dW=d.cI) (aC:p.lb=e) (bz:p.out=cf O) (qO:O=mP e nn aa ac d) (he:el e) (ar:fp nn) (hd:ix w d) (c6:r0 .a p.r):oI w vt (b5 r ((p.bZ []).aQ 444) ln (e7 e nn aa ac d) (lr::jF aa ac ac d)):=by
 have aA:=hd.ok.le
 have zq:nn<=10:=by rcases ar with rfl|rfl|rfl<;>decide
 have C:=D7 (f:=aa) (h:=ac) hd he.le zq
 have G:=zc he.le d.cI
 refine Qn k aD cw aq aC bz he.le (by rw[qO];exact Dc hd.ok) (bf (za e nn aa ac d aA) (by decide)) (bf (iX (yd ..)) (by decide)) (by rw[qO];exact bf (yl aA) (by decide)) ?_ ?_ c6 (λm v=>ad6 he ar hd) ?_
 ·rw[dG];exact(B9 hd he ar).cF (xx (B8 he) _)
 ·rw[dG,bL];omega
 ·show kD 3 ([lr]++(jF aa ac ac d++ [fI (d.c||d.cI),iS]))=aa
  rw[uU,uU,Dd];rfl
theorem agM {d1 dB:dD} {O:List (List Nat)} (k:ff r e nn) (aD:r.clo=cH dB.c) (cw:r.dq=cH dB.cI) (aq:p.dW=dB.cI) (aC:p.lb=e) (bz:p.out=cf O) (qO:O=mP e nn aa ac d1++mP e nn ac d1.cI dB) (he:el e) (ar:fp nn) (lg:ix w d1) (hd2:ix w dB) (c6:r0 .b p.r):
  oI w vt (b5 r ((p.bZ []).aQ 444) ln (e7 e nn aa ac d1++e7 e nn ac d1.cI dB) ((lr::jF aa ac ac d1)++jF ac d1.c d1.cI dB)):=by
 have l1:=lg.ok.le
 have e0:=hd2.ok.le
 have zq:nn<=10:=by rcases ar with rfl|rfl|rfl<;>decide
 have iv:=D7 (f:=aa) (h:=ac) lg he.le zq
 have iV:=D7 (f:=ac) (h:=d1.cI) hd2 he.le zq
 have G:=zc he.le dB.cI
 refine Qn k aD cw aq aC bz he.le (by rw[qO,dG,dG,Dc lg.ok,Dc hd2.ok]) (by rw[bL];exact bf (fW (za e nn aa ac d1 l1) (za e nn ac d1.cI dB e0)) (by decide)) (by rw[bL];exact bf (fW (iX (yd ..)) (yd ..)) (by decide))
  (by rw[qO,bL];exact bf (fW (yl l1) (yl e0)) (by decide)) ?_ ?_ c6 (λm v=> ?_) ?_
 ·rw[dG,dG];exact((B9 lg he ar).cF (B9 hd2 he ar)).cF (xx (B8 he) _)
 ·rw[dG,dG,bL,bL];omega
 ·have R:=ad9 (m:=m) (v:=v) he ar lg hd2
  rw[bt (e7 e nn aa ac d1),bt]
  exact R
 ·show kD 3 (([lr]++jF aa ac ac d1)++jF ac d1.c d1.cI dB++ [fI (dB.c||dB.cI),iS])=aa
  rw[uU,uU,uU,Dd,Dd];rfl
end
noncomputable def mS:List Nat:= [2,3,4,0,10,1]
def j9 (a:Nat):Nat:=mS.getD (a%6) 0
noncomputable def inR (n:Nat):Bool:=gF 2 n&&gF n 9
def om (a:Nat):Nat:=cond (inR (j9 a)) (j9 a) 2
theorem MK {q:Nat->Bool} (h:mS.all q=aa) (a:Nat):q (j9 a)=aa:=by
 unfold j9
 rw[AZ,nr (show a%6<mS.length from mr _ (by decide))]
 exact fL.mp h _ (HL _)
theorem agz (a:Nat):fp (om a):=by
 have h:=MK (q:=λn=>bA (cond (inR n) n 2) 2|| (bA (cond (inR n) n 2) 3||bA (cond (inR n) n 2) 4)) (by decide) a
 rcases rG.mp h with h|h
 ·exact d5 (fg h)
 ·exact cW ((rG.mp h).imp fg fg)
noncomputable def Jn:List aj:= [.none,.str [13],.str [13,10],.str [10],.str [120]]
noncomputable def mF (a:Nat):Nat:=a/6%5
def i5 (a:Nat):aj:=Jn.getD (mF a) .none
def iD (a:Nat):List Nat:= [[10],[13],[13,10],[10],[10]].getD (mF a) [10]
theorem Cf (n:Nat):mF n=0\/mF n=1\/mF n=2\/mF n=3\/mF n=4:=by
 have:mF n<5:=mr _ (by decide)
 revert this
 generalize mF n=k
 omega
theorem acQ (a:Nat):el (iD a):=by
 unfold iD
 rcases Cf a with h|h|h|h|h<;>rw[h]
 ·exact d5 rfl
 ·exact cW (d5 rfl)
 ·exact cW (cW rfl)
 ·exact d5 rfl
 ·exact d5 rfl
def ey (w:Bool) (dd:Nat) (lb:List Nat) (T:List Nat) (st:Nat):aF:=⟨.dy 10 st,.none,.none,ac,ac,ac,ac,0,aa,aa,ac,w,dd,lb,.f .none,.none,.none,[],[],[],[],nc T,[]⟩
def yf (n:Nat):S:=n.repeat S.aO xF
def yg (w:Bool) (n:Nat) (v:aj) (T:List Nat) (dd:Nat) (k:Nat):St:=⟨[(37,ab (.ap 10)),(97,ab (.ap 14)),(129,ab (.f .none)),(88,ab (.f (.int (.ofNat n)))),(72,ab (.f .none)),(198,ab (.f (.bool w))),(148,ab (.f (v)))],
 (10,.inst 799 (OZ.take k) (([.ap 14,.f .none,.ap 11,.dy 10 422,.ap 12,.f .none,.ap 13,.f .none,.f (.int 0),.f (.bool ac),.f (.bool ac),.f (.bool ac),.f (.bool ac),.f (.int 0),.f (.int 0),.f (.bool aa),.f (.bool aa),.f (.bool ac),.f .none,.f (.bool w),.f (.int (.ofNat dd)),.f (.int 80),.f (.str [10])]:List ae).take k))::
 (14,.inst 834 [36] [.ap 15])::(20,nc T)::(15,.list []):: [(11,.list []),(12,.list []),(13,.list [])],[],[]⟩
def vc (T:List Nat):b4:= [(14,.inst 834 [36] [.ap 15]),(20,nc T),(15,.list [])]
section
variable {w:Bool} {T:List Nat} {n dd:Nat} {v:aj} {G:Prop} {W:ae->b4->Prop}
theorem WK (F:aB.path G (bN (aI []) xF ⟨locs [37,97,129,88,72,198,148] [.ap 10,.ap 14,.f .none,.f (.int (.ofNat n)),.f .none,.f (.bool w),.f (v)] [],(10,.inst 799 [] [])::vc T,[],[]⟩ (kh W))):aB.path G (bN (aI []) (yf 21) (yg w n v T 2 21) (kh W)):=by
 exact F _ rfl _ rfl _ rfl
theorem WL (ar:n∈mS) (F:aB.path G (bN (aI []) (yf 21) (yg w n v T 2 21) (kh W))):aB.path G (bN (aI []) (yf 25) (yg w n v T (cond (inR n) n 2) 23) (kh W)):=by
 rcases e5.mp ar with rfl|ar
 ·exact F aa rfl aa rfl aa rfl ac rfl
 rcases e5.mp ar with rfl|ar
 ·exact F aa rfl aa rfl aa rfl ac rfl
 rcases e5.mp ar with rfl|ar
 ·exact F aa rfl aa rfl aa rfl ac rfl
 rcases e5.mp ar with rfl|ar
 ·exact F ac rfl ac rfl
 rcases e5.mp ar with rfl|ar
 ·exact F aa rfl aa rfl ac rfl ac rfl
 rcases e5.mp ar with rfl|ar
 ·exact F aa rfl ac rfl ac rfl
 ·exact nomatch ar
theorem WM {lb:List Nat} {k:W (.f .none) ((ey w dd lb T 422).hp 0)} (aW:(v= .none/\lb= [10])\/(v= .str [13]/\lb= [13])\/(v= .str [13,10]/\lb= [13,10])\/(v= .str [10]/\lb= [10])\/(v= .str [120]/\lb= [10])) (F:aB.path G (bN (aI []) (yf 25) (yg w n v T dd 23) (kh W))):G:=by
 rcases aW with⟨rfl,rfl⟩ | ⟨rfl,rfl⟩ | ⟨rfl,rfl⟩ | ⟨rfl,rfl⟩ | ⟨rfl,rfl⟩
 ·exact F _ rfl ac rfl k
 ·exact F _ rfl aa rfl k
 ·exact F _ rfl aa rfl k
 ·exact F _ rfl aa rfl k
 ·exact F _ rfl ac rfl k
end
theorem Jo (a:Nat):(i5 a= .none/\iD a= [10])\/(i5 a= .str [13]/\iD a= [13])\/(i5 a= .str [13,10]/\iD a= [13,10])\/(i5 a= .str [10]/\iD a= [10])\/(i5 a= .str [120]/\iD a= [10]):=by
 unfold i5 iD
 rcases Cf a with h|h|h|h|h<;>rw[h]
 ·exact d5 ⟨rfl,rfl⟩
 ·exact cW (d5 ⟨rfl,rfl⟩)
 ·exact cW (cW (d5 ⟨rfl,rfl⟩))
 ·exact cW (cW (cW (d5 ⟨rfl,rfl⟩)))
 ·exact cW (cW (cW (cW ⟨rfl,rfl⟩)))
theorem ML (a:Nat):j9 a∈mS:=rP.mp (MK (q:=λn=>mS.contains n) (by decide) a)
section
variable {w:Bool} {r:bB} {T:List Nat} {i a:Nat}
theorem aeQ:aJ (Aj [.ap 10,.ap 14,.f .none,.f (.int (.ofNat (j9 i))),.f .none,.f (.bool w),.f (i5 a)] ((10,.inst 799 [] [])::vc T)) (.f .none) ((ey w (om i) (iD a) T 422).hp 0):=by
 delta Aj
 exact aV λG W F k=>WM (k:=k) (Jo a) (WL (ML i) (WK F))
noncomputable def qV:S:=(.aN 52 (.call (.gl 126) (.cons (.clo 40) .nil) .nil))
noncomputable def qW:S:=(.aN 88 (.cn (.lst (.cons (.a5 2) (.cons (.a5 3) (.cons (.a5 4) (.cons (.a5 0) (.cons (.a5 10) (.cons (.a5 1) .nil))))))) (.bin .Mod (.call (.gl 126) (.cons (.clo 40) .nil) .nil) (.a5 6))))
noncomputable def NP:S:=(.aN 46 (.cn (.call (.gl 183) .nil .nil) (.bin .Mod (.bin .FloorDiv (.lo 52) (.a5 6)) (.a5 5))))
noncomputable def NQ:S:=(.aN 83 (.j8 (.or (.cons (.cmp .Eq (.lo 46) (.ks [13])) (.cons (.cmp .Eq (.lo 46) (.ks [13,10])) .nil))) (.lo 46) (.ks [10])))
noncomputable def NR:S:=(.aN 38 (.j8 (.fw .LtE .LtE (.a5 2) (.lo 88) (.a5 9)) (.lo 88) (.a5 2)))
noncomputable def NS:S:=(.aN 103 (.call (.gl 100) (.cons (.call (.gl 21) .nil .nil) .nil) (.eZ 88 (.lo 88) (.eZ 198 (.clo 43) (.eZ 148 (.lo 46) .nil)))))
noncomputable def NT:S:=(.exp (.aG (.lo 103) 25 (.cons (.call (.gl 240) .nil .nil) .nil) .nil))
noncomputable def NL:S:=(.aN 36 (.cell 101 .nil))
noncomputable def NM:S:=(.aN 8 (.cell 102 (.cons (.tup (.cons (.ks [115,116,114,101,97,109]) .nil)) .nil)))
noncomputable def NN:S:=(.aN 81 (.bF ac))
noncomputable def NO:S:=(.aN 106 (.bF ac))
def ke (r:bB) (T:List Nat):St:=⟨r.loc,[(20,nc T)],[],[]⟩
noncomputable def bB.o (r:bB) (f i k e s:Option ae):bB:={r with hu:=f,ind:=i,ask:=k,bU:=e,ic:=s}
theorem acJ {a:Nat} {i k e s:Option ae}:cK w NP (ke (r.o (co a) i k e s) T) (ke (r.o (co a) i (ab (.f (i5 a))) e s) T):=λG K F=>by
 have I:gd Jn (.ofNat (mF a))=ab (i5 a):=by
  unfold i5
  rcases Cf a with h|h|h|h|h<;>rw[h]<;>rfl
 exact F _ _ (λ_ k=>k) ⟨by decide,by decide⟩ (by decide) _ (lX rfl I)
theorem acK {a:Nat} {f i e s:Option ae}:cK w NQ (ke (r.o f i (ab (.f (i5 a))) e s) T) (ke (r.o f i (ab (.f (i5 a))) (ab (.f (.str (iD a)))) s) T):=by
 rcases Jo a with h|h|h|h|h
 all_goals rw[h.1,h.2];intro G K F
 ·exact F ac rfl ac rfl
 ·exact F aa rfl
 ·exact F ac rfl aa rfl
 ·exact F ac rfl ac rfl
 ·exact F ac rfl ac rfl
theorem acL {n:Nat} {f k e s:Option ae} (ar:n∈mS):cK w NR (ke (r.o f (co n) k e s) T) (ke (r.o f (co n) k e (co (cond (inR n) n 2))) T):=λG K F=>by
 rcases e5.mp ar with rfl|ar
 ·exact F aa rfl aa rfl
 rcases e5.mp ar with rfl|ar
 ·exact F aa rfl aa rfl
 rcases e5.mp ar with rfl|ar
 ·exact F aa rfl aa rfl
 rcases e5.mp ar with rfl|ar
 ·exact F ac rfl
 rcases e5.mp ar with rfl|ar
 ·exact F aa rfl ac rfl
 rcases e5.mp ar with rfl|ar
 ·exact F ac rfl
 ·exact nomatch ar
noncomputable def bB.kk (r:bB):bB:={r with jG:=ab (.ap 10)}
theorem acM {i a:Nat} {f e s:Option ae}:cK w NS (ke (r.o f (co (j9 i)) (ab (.f (i5 a))) e s) T) ⟨(bB.kk (r.o f (co (j9 i)) (ab (.f (i5 a))) e s)).loc,(ey w (om i) (iD a) T 422).hp 0,[],[]⟩:=λG K F=>by
 have TM:aJ (Ar [.ap 14] [(14,.inst 834 [] []),(20,nc T)]) (.f .none) (vc T):=by
  delta Ar
  exact aV λ_ _ F k=>F _ rfl k
 have X:aJ (Qy [] [(20,nc T)]) (.ap 14) (vc T):=λK k=> ⟨rfl,TM _ ⟨rfl,rfl,k⟩⟩
 have E:aJ (Qw [.ap 14,.f .none,.f (.int (.ofNat (j9 i))),.f .none,.f (.bool w),.f (i5 a)] (vc T)) (.ap 10) ((ey w (om i) (iD a) T 422).hp 0):=λK k=> ⟨rfl,aeQ _ ⟨rfl,rfl,k⟩⟩
 exact F _ _ X _ _ E
end
def Ec:S:= .qI 2 (.bin .Add (.a5 1) (.bin .Mod (.bin .FloorDiv (.lo 52) (.a5 2)) (.a5 2))) EF
noncomputable def q3 (a:Nat):Nat:=a/2%2
def Z0:S:= .cons NT (.cons NL (.cons NM (.cons NN (.cons NO (.cons Ec vt)))))
def sS:S:= .cons NP (.cons NQ (.cons NR (.cons NS Z0)))
theorem cK.jC {w:Bool} {s:S} {σ σ':St} (h:cK w s σ σ'):aJ (Q7.jC (bN (SL w) s) σ) af σ':=gT λG W F k=>h G (cp W) F k
section
variable {w:Bool} {r:bB} {T:List Nat} {e:List Nat} {n a:Nat}
theorem aal {l:List ae} {σ':St} {hp lh:b4} {lu:List Nat} (L:aJ (gW 2 (bN (SL w) EF) (n9 0 (1+q3 a)) ⟨(r.o (co a) r.ind r.ask r.bU r.ic).loc,hp,lh,lu⟩) .aQ σ'):cK w Ec ⟨(r.o (co a) r.ind r.ask r.bU r.ic).loc,hp,lh,lu⟩ σ':=λG K F=>by
 have ar:1+q3 a<=1000000:=bf (iW (kv (mr _ (by decide))) 1) (by decide:1+2<=1000000)
 exact F ⟨by decide,by decide⟩ (by decide) (⟨AR (by decide) (kU _),oG.mpr ar⟩:(-1000000:Int)<=c1 (1+q3 a)/\c1 (1+q3 a)<=1000000) _ _ L
def bB.fS (r:bB) (k:Nat):bB:={r with i:=co k}
theorem abx (k:ff r e n) (hf:r.hu=co a) (aD:r.clo=cH ac) (cw:r.dq=cH ac) (he:el e) (ar:fp n) (dQ:T.length<=100):oI w (.cons Ec vt) (b5 r (ey w n e T 436) 0 [] [lr]):=by
 have i9:ff (r.fS 0) e n:=⟨k.bU,k.ic,k.jG,k.row,k.j2⟩
 have lg:=CZ (w:=w) (T:=T)
 have hd2:=CZ (w:=w) (T:=fo T)
 have pq:=lg.ok.le
 have c6:r=r.o (co a) r.ind r.ask r.bU r.ic:=congrArg (λo=> ({r with hu:=o}:bB)) hf
 have F:=λσ' L=>aal (w:=w) (r:=r) (a:=a) (l:= []) (σ':=σ') (hp:=(ey w n e T 436).hp 0) (lh:= [(101,.list (cf [])),(102,.list ([lr].map .f))]) (lu:= [102,101]) L
 rw[<-c6] at F
 refine c5 (LF (w:=w) (r:=r.fS 0) (p:=ey w n e T 436) (ln:=0) (R:= []) (D:= [lr]) (T:=T) (f:=aa) (fr:=af) i9 rfl aD cw ar he.le dQ (fu _) (by decide) (cS rfl) rfl rfl rfl) λhS l1 hW Q=> ?_
 have e1:(((ey w n e T 436).d3 (fo T)).k5 (b6 w T) aa af hW).out=cf (mP e n aa ac (b6 w T)):=LC (O:= []) rfl
 have n1:ff ((r.fS 0).uL T (b6 w T) aa hS) e n:=⟨k.bU,k.ic,k.jG,k.row,k.j2⟩
 have bX:q3 a=0\/q3 a=1:=by
  have:q3 a<2:=mr _ (by decide)
  omega
 rcases bX with h0|h0
 ·rw[h0] at F
  refine cK.to (F _ (k9 Q.jC la)) ?_
  exact agL (p:=((ey w n e T 436).d3 (fo T)).k5 (b6 w T) aa af hW) n1 rfl rfl rfl rfl e1 rfl he ar lg (d5 ⟨rfl,_,rfl⟩)
 ·rw[h0] at F
  refine c5 (LF (w:=w) (r:=((r.fS 0).uL T (b6 w T) aa hS).fS 1) (p:=((ey w n e T 436).d3 (fo T)).k5 (b6 w T) aa af hW) (ln:=l1) (R:=e7 e n aa ac (b6 w T)) (D:=lr::jF aa ac ac (b6 w T)) (T:=fo T) (c:=(b6 w T).c) (h:=(b6 w T).cI) (f:=ac) (fr:=ab (.dict hW.1 hW.2)) ⟨k.bU,k.ic,k.jG,k.row,k.j2⟩ rfl rfl rfl ar he.le (bf (Vp T) dQ) (bf (za _ _ _ _ _ pq) (by decide)) (bf (iX (yd ..)) (by decide))
   (by show _+500<=1000000;rw[e1,lN];exact bf (h1 (yl pq) 500) (by decide)) rfl rfl rfl) λiN e0 pZ Te=> ?_
  have e2:(((((ey w n e T 436).d3 (fo T)).k5 (b6 w T) aa af hW).d3 (fo (fo T))).k5 (b6 w (fo T)) ac (ab (.dict hW.1 hW.2)) pZ).out=cf (mP e n aa ac (b6 w T)++mP e n ac (b6 w T).cI (b6 w (fo T))):=LC (p:=(((ey w n e T 436).d3 (fo T)).k5 (b6 w T) aa af hW).d3 (fo (fo T))) e1
  refine cK.to (F _ (k9 Q.jC (k9 Te.jC la))) ?_
  exact agM (p:=((((ey w n e T 436).d3 (fo T)).k5 (b6 w T) aa af hW).d3 (fo (fo T))).k5 (b6 w (fo T)) ac (ab (.dict hW.1 hW.2)) pZ) ⟨k.bU,k.ic,k.jG,k.row,k.j2⟩ rfl rfl rfl rfl e2 rfl he ar lg hd2 (cW ⟨rfl,_,_,rfl⟩)
def bB.vP (r:bB) (a i:Nat):bB:={r with hu:=co a,ind:=co (j9 i),ask:=ab (.f (i5 a)),bU:=ab (.f (.str (iD a))),ic:=co (om i),jG:=ab (.ap 10)}
noncomputable def bB.zP (r:bB):bB:={r with row:=ab (.ap 101)}
noncomputable def bB.jN (r:bB):bB:={r with row:=ab (.ap 101),j2:=ab (.ap 102)}
def bB.Pq (r:bB):bB:={r with row:=ab (.ap 101),j2:=ab (.ap 102),clo:=cH ac}
def bB.zQ (r:bB):bB:={r with row:=ab (.ap 101),j2:=ab (.ap 102),clo:=cH ac,dq:=cH ac}
theorem acN {i:Nat}:cK w NT ⟨(r.vP a i).loc,(ey w (om i) (iD a) T 422).hp 0,[],[]⟩ ⟨(r.vP a i).loc,(ey w (om i) (iD a) T 436).hp 0,[],[]⟩:=λG K F=>by
 exact F _ _ (hR rfl rfl) _ _ (WU (p:=ey w (om i) (iD a) T 422))
theorem acC {hp:b4}:cK w NL ⟨r.loc,hp,[],[]⟩ ⟨r.zP.loc,hp,[(101,.list [])],[101]⟩:=λG K F=>by exact F _ rfl
theorem acD {hp:b4}:cK w NM ⟨r.zP.loc,hp,[(101,.list [])],[101]⟩ ⟨r.jN.loc,hp,[(101,.list []),(102,.list [.f lr])],[102,101]⟩:=λG K F=>by exact F _ rfl
theorem acE {hp lh:b4} {lu:List Nat}:cK w NN ⟨r.jN.loc,hp,lh,lu⟩ ⟨r.Pq.loc,hp,lh,lu⟩:=λG K F=>by exact F
theorem acF {hp lh:b4} {lu:List Nat}:cK w NO ⟨r.Pq.loc,hp,lh,lu⟩ ⟨r.zQ.loc,hp,lh,lu⟩:=λG K F=>by exact F
theorem adE {i:Nat} {k e s:Option ae} (dQ:T.length<=100):oI w sS (ke (r.o (co a) (co (j9 i)) k e s) T):=by
 have L:=abx (w:=w) (r:=(r.vP a i).zQ) (T:=T) (e:=iD a) (n:=om i) (a:=a) ⟨rfl,rfl,rfl,rfl,rfl⟩ rfl rfl rfl (acQ a) (agz i) dQ
 exact cK.to acJ (cK.to acK (cK.to (acL (ML i)) (cK.to acM (cK.to acN (cK.to acC (cK.to acD (cK.to acE (cK.to acF L))))))))
end
noncomputable def qZ:X:=(.hB 20 4 [] (.bin .Mod (.lo 4) (.a5 5040)) (.aK (.lo 93) .no (.a5 12)))
noncomputable def q0:X:=(.cmp .Eq (.bin .Mod (.lo 52) (.a5 2)) (.a5 1))
def ub:cL:=⟨jm,jl,ma,oj,gC,pI,[]⟩
def jy:cL:=⟨jm,jl,ma,oj,gC,pI,[(40,.ap 20)]⟩
def rz (T:cL) (x:X) (σ:St) (K:ae->St->Prop):Prop:=((ev T x).x σ λv σ=> .ret (K v σ)).holds
def m6 (T:cL) (s:S) (σ:St) (K:cD->St->Prop):Prop:=(bN T s σ λf σ=> .ret (K f σ)).holds
theorem QR {T:cL} {x:X} {σ σ':St} {v:ae} (g: ∀(G:Prop) (K:ae->St->Prop),aB.path G ((ev T x).x σ λv σ=> .ret (K v σ))->K v σ'->G):aJ (rz T x σ) v σ':=λK k=>g _ K (aB.rb _ id) k
theorem PG {T:cL} {s:S} {σ σ':St} {f:cD} (g: ∀(G:Prop) (K:cD->St->Prop),aB.path G (bN T s σ λf σ=> .ret (K f σ))->K f σ'->G):aJ (m6 T s σ) f σ':=λK k=>g _ K (aB.rb _ id) k
noncomputable def rq (zs:List Int):List Nat:=(zs.take 12).map λz=> (z%5040).toNat
theorem ag2 (zs:List Int):(rq zs).length<=12:=by unfold rq;rw[ed,HN];exact R6 ..
section
variable {r:bB} {T:List Nat}
noncomputable def bB.pR (r:bB) (zs:List Int):bB:={r with PY:=ab (.f (.lst (zs.map .int)))}
theorem UC {loc:List (Nat×Option ae)}: ∀(zs:List Int) (acc:List ae),aJ (jD (pW 4 (ev ub (.bin .Mod (.lo 4) (.a5 5040))).x) ((zs.map aj.int).map .f) acc ⟨loc,[],[],[]⟩) (acc++(zs.map λz=>ae.f (.int (z%5040)))) ⟨loc,[],[],[]⟩:=λzs=>by
 induction zs with
 |nil=>exact λacc=>by rw[show acc++List.map (λz:Int=>ae.f (.int (z%5040))) []=acc from dj acc];exact Lk
 |cons z zs ai=>
  intro acc
  have i:=ai (acc++ [.f (.int (z%5040))])
  rw[bt] at i
  exact Lj (σ':=⟨[(4,ab (.f (.int z)))],[],[],[]⟩) (λG K F=>by exact F (by decide)) rfl i
theorem acB {zs:List Int} (aA:zs.length<=63):aJ (rz ub qZ ⟨(r.pR zs).loc,[],[],[]⟩) (.ap 20) ⟨(r.pR zs).loc,[(20,nc (rq zs))],[],[]⟩:=by
 have s1:cm (zs.map aj.int)=aa:=fZ (by rw[ed];exact bf aA (by decide))
 have e2: ∀σ,ti (.f (.lst (zs.map .int))) (.f .none) (.f (.int 12)) σ=ab (.f (.lst ((zs.take 12).map aj.int))):=λσ=>by
  show(match cm (zs.map aj.int) with
   |true=>match iu (zs.map aj.int) .none (.int 12) with
    |some r=>ab (ae.f (.lst r))
    |none=>af
   |false=>af)=_
  rw[s1]
  show ab (ae.f (.lst (((zs.map aj.int).drop 0).take (12-0))))=_
  rw[HG,List.map_take]
 have s2:cm ((zs.take 12).map aj.int)=aa:=fZ (by rw[ed,HN];exact bf (R6 ..) (by decide))
 have ij:([]++((zs.take 12).map λz=>ae.f (.int (z%5040))))=(rq zs).map λn=>ae.f (.int (.ofNat n)):=by
  rw[RP]
  unfold rq
  rw[oH]
  exact List.map_congr_left λz _=>congrArg (λi=>ae.f (.int i)) (Int.toNat_of_nonneg (Int.emod_nonneg z (by decide))).symm
 have C:=UC (loc:=(r.pR zs).loc) (zs.take 12) []
 rw[ij] at C
 exact QR λG K F k=>by exact F _ (e2 _) s2 _ _ C _ rfl k
theorem PO (dQ:T.length<=100):aJ (wj [.ap 20] [(20,nc T)]) (.f (.int (.ofNat (T.headD 0)))) [(20,nc T.tail)]:=by
 delta wj
 cases T with
 |nil=>exact aV λ_ _ F k=>F rfl ac rfl k
 |cons a T=>exact aV λ_ _ F k=>F (Ad dQ) aa rfl (Ad dQ) k
theorem acG {f i k e s:Option ae} (dQ:T.length<=100):aJ (m6 jy qV (ke (r.o f i k e s) T)) .aQ (ke (r.o (co (T.headD 0)) i k e s) T.tail):=PG λG K F k=>by exact F _ _ (PO dQ) k
theorem acH {f i k e s:Option ae} (dQ:T.length<=100):aJ (m6 jy qW (ke (r.o f i k e s) T)) .aQ (ke (r.o f (co (j9 (T.headD 0))) k e s) T.tail):=by
 have I:gd (mS.map λn=>aj.int (.ofNat n)) (.ofNat (T.headD 0%6))=ab (.int (.ofNat (j9 (T.headD 0)))):=by
  show(mS.map λn=>aj.int (.ofNat n))[T.headD 0%6]? =_
  unfold j9
  rw[HK,AZ,nr (show T.headD 0%6<mS.length from mr _ (by decide))]
  rfl
 exact PG λG K F k=>by exact F _ _ (PO dQ) (by decide) _ (lX rfl I) k
theorem acI {i k e s:Option ae} {a:Nat}:aJ (rz jy q0 (ke (r.o (co a) i k e s) T)) (.f (.bool (odd a))) (ke (r.o (co a) i k e s) T):=by
 rw[show odd a=decide (c1 (a%2)=1) from(x5 (a%2) 1).symm]
 exact QR λG K F k=>by exact F (by decide) k
end
section
theorem Jc {l:List ae}:(eL l).isSome=aa->r5 l=aa:=by
 induction l with
 |nil=>exact λ_=>rfl
 |cons a l ai=>cases a with
  |f v=>
   show(match eL l with
    |some r=>ab (v::r)
    |none=>af).isSome=aa->r5 l=aa
   cases e:eL l with
   |none=>exact ck
   |some r=>exact λ_=>ai (by rw[e];rfl)
  |_=>exact ck
theorem aa9 {α:Type} {n:Nat} {l m:List (Nat×α)}:aL n (l++m)=(aL n l).or (aL n m):=by
 induction l with
 |nil=>rfl
 |cons p l ai=>
  show(match bA p.1 n with
   |true=>ab p.2
   |false=>aL n (l++m))=(match bA p.1 n with
   |true=>ab p.2
   |false=>aL n l).or (aL n m)
  cases bA p.1 n with
  |true=>rfl
  |false=>exact ai
theorem Dm {l m:b4} {y:Nat}:gl (l++m) y=(gl l y).or (gl m y):=by
 unfold gl
 cases d4 y 100 with
 |true=>exact aa9
 |false=>rfl
theorem Vu {b:b4} {y:Nat} {v:cb} {a:b4}:nP a b=aa->aL y a=ab v->aL y b=af:=by
 induction a with
 |nil=>exact λ_=>a0
 |cons p r ai=>
  intro d h
  have d:=(gE ..).mp d
  have h:(match bA p.1 y with
   |true=>ab p.2
   |false=>aL y r)=ab v:=h
  cases q:bA p.1 y with
  |false=>rw[q] at h;exact ai d.2 h
  |true=>
   have d:=d.1
   rw[fg q] at d
   revert d
   cases aL y b with
   |none=>exact λ_=>rfl
   |some _=>exact ck
noncomputable def ly (g:Nat->Option cb) (ρ' ax:Nat->aR) (n:Nat):aR:=cond (g (n/2)).isSome (ρ' n) (ax n)
theorem AG {g:Nat->Option cb} {ρ' ax:Nat->aR} {y:Nat}:ly g ρ' ax (2*y)=cond (g y).isSome (ρ' (2*y)) (ax (2*y))/\ly g ρ' ax (2*y+1)=cond (g y).isSome (ρ' (2*y+1)) (ax (2*y+1)):=by
 unfold ly
 rw[show 2*y/2=y by omega,show(2*y+1) /2=y by omega]
 exact⟨rfl,rfl⟩
variable [WP]
theorem ab9 {a b:b4} {y:Nat} {ao:cb} (d:nP a b=aa) (e:gl b y=ab ao):gl a y=af:=by
 have lt:=mq (qL e)
 unfold gl at e⊢
 rw[show d4 y 100=aa from lt] at e⊢
 show aL y a=af
 cases q:aL y a with
 |none=>rfl
 |some v=>exact a0 ((Vu d q).symm.trans e)
section
theorem fc.join {aP Fr:bh} {ax ρ':Nat->aR} {a b:b4} {own:aR->Prop} {h₀ h:cu} (iv:fc aP (hx own h₀ Fr) ρ' (gl a) [] h) (iV:fc aP Fr ax (gl b) [] h) (d:nP a b=aa) (o: ∀y ao,gl b y=ab ao-> ∀x∈adr ax y ao,own x) (al: ∀x,own x-> ∃o,h₀.get? x=ab o):
  fc aP Fr (ly (gl a) ρ' ax) (gl (a++b)) [] h/\(∀y,dO (gl a) [] y->dO (gl (a++b)) [] y/\ly (gl a) ρ' ax (2*y)=ρ' (2*y))/\ ∀y,dO (gl b) [] y->dO (gl (a++b)) [] y/\ly (gl a) ρ' ax (2*y)=ax (2*y):=by
 have N: ∀y,dO (gl a) [] y->dO (gl (a++b)) [] y/\ly (gl a) ρ' ax (2*y)=ρ' (2*y)/\ly (gl a) ρ' ax (2*y+1)=ρ' (2*y+1):=λy u=>u.elim (λu=>by
  rw[AG.1,AG.2,u.1]
  refine⟨.inl ⟨?_,u.2⟩,rfl,rfl⟩
  rw[Dm,Sa,u.1];rfl) λu=>absurd u eG
 have O: ∀y,dO (gl b) [] y->dO (gl (a++b)) [] y/\ly (gl a) ρ' ax (2*y)=ax (2*y)/\ly (gl a) ρ' ax (2*y+1)=ax (2*y+1):=λy u=>u.elim (λu=>ak (w4.mp u.1) λao e=>by
  rw[AG.1,AG.2,ab9 d e]
  refine⟨.inl ⟨?_,u.2⟩,rfl,rfl⟩
  rw[Dm,Sa,u.1,Rd]) λu=>absurd u eG
 have U: ∀{g:b4} {y ao},gl g y=ab ao->dO (gl g) [] y:=λ{g y ao} e=> .inl ⟨by rw[e];rfl,qL e⟩
 have two: ∀y ao,gl (a++b) y=ab ao->gl a y=ab ao/\adr (ly (gl a) ρ' ax) y ao=adr ρ' y ao\/gl b y=ab ao/\adr (ly (gl a) ρ' ax) y ao=adr ax y ao:=λy ao e=>by
  rw[Dm] at e
  cases q:gl a y with
  |some v=>
   rw[q] at e
   have n:=(N y (U q)).2
   exact .inl ⟨e,o1 n ao⟩
  |none=>
   rw[q] at e
   have n:=(O y (U e)).2
   exact .inr ⟨e,o1 n ao⟩
 have out: ∀{x},hx own h₀ Fr x=af-> ¬own x/\Fr x=af:=λ{x} e=>by
  have n: ¬own x:=λz=>ak (al x z) λo q=>by rw[u6 z,q] at e;exact a0 e.symm
  rw[u7 n] at e
  exact⟨n,e⟩
 refine⟨⟨iV.bE,iV.fr,λy ao e=> (two y ao e).elim (λe=> ?_) λe=> ?_,λy ao e x aH=> (two y ao e).elim (λe=> ?_) λe=> ?_,λy z ao bo e1 e2 ne x aH cO=> ?_⟩,λy u=> ⟨(N y u).1,(N y u).2.1⟩,λy u=> ⟨(O y u).1,(O y u).2.1⟩⟩
 ·have n:=N y (U e.1)
  exact iw (dT.refl _) (λz u=> (N z u).1) (λz u=> (N z u).2.1) (λ_ _=>rfl) n.2.1 n.2.2 (iv.cell y ao e.1)
 ·have n:=O y (U e.1)
  exact iw (dT.refl _) (λz u=> (O z u).1) (λz u=> (O z u).2.1) (λ_ _=>rfl) n.2.1 n.2.2 (iV.cell y ao e.1)
 ·rw[e.2] at aH
  exact⟨(iv.ca y ao e.1 x aH).1,(out (iv.ca y ao e.1 x aH).2).2⟩
 ·rw[e.2] at aH
  exact iV.ca y ao e.1 x aH
 ·refine(two y ao e1).elim (λe=> (two z bo e2).elim (λf=> ?_) λf=> ?_) λe=> (two z bo e2).elim (λf=> ?_) λf=> ?_<;>rw[e.2] at aH<;>rw[f.2] at cO
  ·exact iv.gm y z ao bo e.1 f.1 ne x aH cO
  ·exact(out (iv.ca y ao e.1 x aH).2).1 (o z bo f.1 x cO)
  ·exact(out (iv.ca z bo f.1 x cO).2).1 (o y ao e.1 x aH)
  ·exact iV.gm y z ao bo e.1 f.1 ne x aH cO
variable {prog:cP} {w:ba} {S fD:cL} {Kf:bY} {k:Nat} {base:cu}
theorem Xp {C e6 id:Nat} {fT:Nat} {p:List Nat×List (Nat×aj)} {pt eK:a3} (X:Kf.In base) (hm:rV Kf C=aa) (bj:hK Kf (.ref C) "__init__" =ab (ab (.ref e6))) (hf:oS Kf (.ref e6)=ab (.type "function"))
  (init:lB prog w S base k e6) (qQ:aL e6 S.a8=ab (fT::p.1,p.2)) (qR:aL e6 S.pt=ab eK) (qS:iL fT p.1=ac) (nX:aL C fD.a8=ab p) (nY:aL C fD.pt=ab pt) (lt:id<100)
  (mR: ∀full hp K,pt full hp K->(eL full).isSome=aa/\eK (.ap id::full) [(id,.inst C [] [])] λr dn=>r= .f .none/\nP dn hp=aa/\(aL id dn).isSome=aa/\K (.ap id) (dn++hp)):
  lB prog w fD base (k+1) C:=by
 intro q8 zO e1 e2
 cases bQ (nX.symm.trans e1)
 cases bQ (nY.symm.trans e2)
 intro A s aP Fr ax hp pos vs kw kvs full K R aw Cl ag aW aS hy i8 g1 g2 h back
 have h:=mR full hp K h
 have f5:=Ji (ρ':=ax) (U':=dO (gl []) []) aW aS hy i8 (Jc h.1)
 have al: ∀b,(∃y ao,gl hp y=ab ao/\b∈adr ax y ao)-> ∃o,s.heap.get? b=ab o:=λb z=>bT z λy ao z=>lL (Cl.cell y ao z.1) b z.2
 exact EK (Fr:=hx (λb=> ∃y ao,gl hp y=ab ao/\b∈adr ax y ao) s.heap Fr) (hp:= []) X hm bj hf init qQ qR qS lt aw
  (Cl.hide (λb o=>bT o λy ao o=> (Cl.ca y ao o.1 b o.2).1) (λx ao e=>a0 ((qM x).symm.trans e)) (λx ao e=>a0 ((qM x).symm.trans e)) λx ao e=>a0 ((qM x).symm.trans e))
  ag f5.1 f5.2 hy i8 g1 g2 rfl h.2 λeF ρ' dn s' x B a cg=>by
   have J:=B.aY.join (Cl.QI (λb o=>bT o λy ao o=> (Cl.ca y ao o.1 b o.2).2) (λx ao e a aE=> ⟨x,ao,e,aE⟩) B.bE B.aY.bE B.aY.fr) cg.1 (λy ao e x aH=> ⟨y,ao,e,aH⟩) al
   exact back _ _ _ s' _ _ ⟨B.bE,λy u=> (J.2.2 y u).1,λy u=> (J.2.2 y u).2,J.1,B.gens,B.os⟩ (show d9 _ _ _ (.ap id) x from⟨(J.2.1 id a.1).1,a.2.trans (congrArg w6 (J.2.1 id a.1).2.symm)⟩) cg.2.2
end
end
section
theorem jb {α:Type} {a:Nat} {v:α} {l:List (Nat×α)}:aL a l=ab v->(a,v)∈l:=by
 induction l with
 |nil=>exact a0
 |cons p l ai=>
  show(match bA p.1 a with
   |true=>ab p.2
   |false=>aL a l)=ab v->_
  cases q:bA p.1 a with
  |true=>exact λh=>by rw[<-fg q,<-bQ h];exact eo
  |false=>exact λh=>eY _ (ai h)
theorem ahH {l:List ae}: ∀{r:List aj},eL l=ab r->l=r.map .f:=by
 induction l with
 |nil=>exact λh=>by rw[<-bQ h];rfl
 |cons a l ai=>cases a with
  |f v=>
   intro r h
   have h:(match eL l with
    |some r=>ab (v::r)
    |none=>af)=ab r:=h
   revert h
   cases e:eL l with
   |none=>exact a0
   |some ir=>exact λh=>by rw[<-bQ h,ai e];rfl
  |_=>exact a0
def AN:Nat->(List aj->Prop)->Prop
 |0,P=>P []
 |n+1,P=> ∀a,AN n λl=>P (a::l)
theorem cur {l:List aj}: ∀{P:List aj->Prop},AN l.length P->P l:=by
 induction l with
 |nil=>exact λh=>h
 |cons a l ai=>exact λh=>ai (h a)
def hc:List (Nat×Q7.S):= [(873,Jz),(245,JA),(225,JB),(379,xF),(615,JC),(774,Cm),(699,JK),(415,JL),(407,JM),(664,JO),(671,Cp),(657,JP),(629,JQ),(706,JX),(112,J0),(35,J1),(1841,J2),(1198,Kc),(1235,Ke),(817,Kg),(831,Kh),(824,Ki),(356,Kj),(277,Kk),(1138,Kl),(1559,Km),(1335,KC),(1356,KE),(1342,KN),(1363,xT),(193,KO),(917,KP),(852,KQ),(1176,KR),(2039,KS),(2057,Cw),(2050,KU),(2062,xU),(2069,KV),(422,JJ),(400,JN),(721,JU),(736,JV),(713,JW),(1228,Ct),(1214,Cu),(1206,Kd),(1321,KA),(692,Ck),(728,JT),(750,JY),(743,JZ),(1190,Kb),(1221,Ka),(1573,Kn),(1566,Ko),(1314,Kz),(1692,KG),(1622,xM),(1786,KI),(1765,xO),(1772,xP),(1636,xR),(643,JD),(451,JE),(444,Co),(781,Cq),(788,Cr),(1848,J8),(1412,Ks),(1384,Kx),(1377,Ky),(1713,sf),(1699,xI),(1706,xJ),(1664,xK),(1650,KJ),(1657,KL),(1608,xQ),(1629,xS),(436,JG),(650,JR),(636,JS),(1405,Kr),(1398,Kt),(1685,xH),(1643,xN),(480,JI),(1524,Kp),(1615,KH),(466,JH),(1391,Kq),(1517,Ku),(1510,Kv),(458,JF),(1328,Kw),(393,Cn),(1300,Cv),(1307,KD),(1869,J5),(1912,J7),(1883,Cs),(1890,J3),(1862,xG),(1876,J4),(1855,J6),(1834,J9)]
noncomputable def zo:List (Nat×Nat):= [(876,873),(248,245),(900,852),(228,225),(888,852),(799,379),(53,35),(834,817),(359,356),(280,277),(1141,1138),(208,112),(932,852),(196,193),(920,917),(2029,1820)]
variable [WP]
structure rM (prog:cP) (Kf:bY) (base:cu):Prop where
 top:Top Kf base (aI [])
 fns: ∀a b,aL a hc=ab b-> ∀p,aL a gC=ab p->rK base a p b
 EP: ∀C f,aL C zo=ab f->rV Kf C=aa/\hK Kf (.ref C) "__init__" =ab (ab (.ref f))/\oS Kf (.ref f)=ab (.type "function")
 keep: ∀a p,aL a gC=ab p->Bs Kf (.ref a)=aa
 fn: ∀a p,aL a gC=ab p->aL a jl=af->fnIn Kf a=aa
 aee: ∃c f xs r,qs= .cons (.exp (.mb c f xs)) r/\tJ prog Kf base 1291 ([37,97],[]) c f xs r
 aed: ∃c f xs r,qr= .cons (.exp (.mb c f xs)) r/\tJ prog Kf base 1820 ([37,97],[]) c f xs r
theorem Ac {Kf:bY} {base:cu} {pt:List (Nat×a3)} {clo:List (Nat×ae)} (h:Top Kf base (aI [])):Top Kf base ⟨jm,jl,ma,oj,gC,pt,clo⟩:=
 ⟨⟨h.gY,h.cls,h.ih,h.mL⟩,h.dd,h.sub,h.yD,h.Lp,h.g,h.lim⟩
section
variable (prog:cP) (w:ba) (base:cu) (k:Nat)
def ft (x:Nat×a3):Prop:=(∃p,aL x.1 gC=ab p)/\ ∀fD:cL,fD.a8=gC->aL x.1 fD.pt=ab x.2->lB prog w fD base k x.1
def Ok (l:List (Nat×a3)):Prop:= ∀x∈l,ft prog w base k x
end
variable {prog:cP} {w:ba} {Kf:bY} {base:cu}
theorem Ok.nil {k:Nat}:Ok prog w base k []:=λx h=>absurd h eG
theorem Ok.cons {k:Nat} {x:Nat×a3} {l:List (Nat×a3)} (h:ft prog w base k x) (t:Ok prog w base k l):Ok prog w base k (x::l):=wU.mpr ⟨h,t⟩
theorem Ok.up {k:Nat} {l:List (Nat×a3)} (h:Ok prog w base k l):Ok prog w base (k+1) l:=λx m=> ⟨(h x m).1,λfD e1 e2 p pt VZ V1 A s aP Fr ax hp pos vs kw kvs full K R aw=>
 (h x m).2 fD e1 e2 p pt VZ V1 A s aP Fr ax hp pos vs kw kvs full K R ⟨bf (iW (tT 3 (kx k)) _) aw.1,bf (iW (tT 20 (kx k)) _) aw.2.1,aw.2.2⟩⟩
theorem Ok.fns {k:Nat} {l:List (Nat×a3)} (X:rM prog Kf base) (h:Ok prog w base k l) (S:cL) (e1:S.a8=gC) (e2:S.pt=l) (ij:S.ih=jl):iy prog w Kf S base k where
 ok a u e:=(h (a,u) (jb (e2▸e))).2 S e1 e
 keep a u e:=ak (h (a,u) (jb (e2▸e))).1 λp q=>X.keep a p q
 fn a u e n:=ak (h (a,u) (jb (e2▸e))).1 λp q=>X.fn a p q (ij▸n)
variable (ay:WP.P=w.params) (X:rM prog Kf base) {pt:List (Nat×a3)} {k:Nat} (F:iy prog w Kf (aI pt) base k)
section
include ay X F
theorem ft.b {a:Nat} {u:a3} {b:Q7.S} {p:List Nat×List (Nat×aj)} {ex:List Nat} (hp:aL a gC=ab p) (ag:aL a hc=ab b) (eT:u=bH (aI pt) p.1 ex b):ft prog w base (k+1) (a,u):=
 ⟨⟨p,hp⟩,λfD e1 e2=>Xn (S:=aI pt) (X.fns a b ag p hp) X.top.lim (λΓ env sc e Ev=>FE ay (Ac X.top) F b Γ env sc e Ev) rfl (e1▸hp) e2 λfull hp K h=>eT▸h⟩
theorem ft.s {a:Nat} {u:a3} {b:Q7.S} {p:List Nat×List (Nat×aj)} {ex:List Nat} (hp:aL a gC=ab p) (D: ∃c f xs r,b= .cons (.exp (.mb c f xs)) r/\tJ prog Kf base a p c f xs r) (eT:u=bH (aI pt) p.1 ex b):ft prog w base (k+1) (a,u):=
 ⟨⟨p,hp⟩,λfD e1 e2=>nh D λc f xs r D=>Xr (S:=aI pt) D.2 ay (Ac X.top) F rfl (e1▸hp) e2 λfull hp K h=>by rw[eT,D.1] at h;exact h⟩
end
variable {a e6 id:Nat} {u rt:a3} {p:List Nat×List (Nat×aj)} (hp:aL a gC=ab p) (hm:aL a zo=ab e6) (dC:aL e6 gC=ab (37::p.1,p.2)) (bj:aL e6 pt=ab rt) (hs:iL 37 p.1=ac)
include X F hp hm dC bj hs
theorem ft.c {ns:List Nat} (eT:u=jK a ns) (h:AN ns.length λl=> ∀K:ae->b4->Prop,K (.f .none) [(99,.inst a ns (l.map .f))]->rt (.ap 99::l.map .f) [(99,.inst a [] [])] K):ft prog w base (k+1) (a,u):=
 have m:=X.EP a e6 hm
 ⟨⟨p,hp⟩,λfD e1 e2=>Xo (S:=aI pt) X.top.gY m.1 m.2.1 m.2.2 (F.ok e6 rt bj) dC bj hs (e1▸hp) e2 λfull hp K g=>by
  rw[eT] at g
  exact ak g λl g=>by
   rw[<-fg g.2.1] at h
   refine⟨Jc (by rw[g.1];rfl), ?_⟩
   rw[ahH g.1]
   exact cur h _ ⟨rfl,ns,l,rfl,g.2.2⟩⟩
theorem ft.m (eT:u=EO a id rt) (lt:id<100):ft prog w base (k+1) (a,u):=
 have m:=X.EP a e6 hm
 ⟨⟨p,hp⟩,λfD e1 e2=>Xq (S:=aI pt) X.top.gY m.1 m.2.1 m.2.2 (F.ok e6 rt bj) dC bj hs (e1▸hp) e2 lt λfull hp K g=>by rw[eT] at g;exact g⟩
theorem ft.f (eT:u=OE a id rt) (lt:id<100):ft prog w base (k+1) (a,u):=
 have m:=X.EP a e6 hm
 ⟨⟨p,hp⟩,λfD e1 e2=>Xp (S:=aI pt) X.top.gY m.1 m.2.1 m.2.2 (F.ok e6 rt bj) dC bj hs (e1▸hp) e2 lt λfull hp K g=>by rw[eT] at g;exact g⟩
end
section
variable [WP] {prog:cP} {w:ba} {Kf:bY} {base:cu} (ay:WP.P=w.params) (X:rM prog Kf base)
include ay X
theorem N3:Ok prog w base 1 eK:=by
 have F:=Ok.fns X (Ok.nil (w:=w) (k:=0)) (aI []) rfl rfl rfl
 have B:= @ft.b _ prog w Kf base ay X [] 0 F
 with_unfolding_all exact .cons (B rfl rfl rfl) (.cons (B rfl rfl rfl) (.cons (B rfl rfl rfl) (.cons (B rfl rfl rfl) (.cons (B rfl rfl rfl) (.cons (B rfl rfl rfl) (.cons (B rfl rfl rfl) (.cons (B rfl rfl rfl) (.cons (B rfl rfl rfl) (.cons (B rfl rfl rfl) (.cons (B rfl rfl rfl) (.cons (B rfl rfl rfl) (.cons (B rfl rfl rfl) (.cons (B rfl rfl rfl) (.cons (B rfl rfl rfl) (.cons (B rfl rfl rfl) (.cons (B rfl rfl rfl) (.cons (B rfl rfl rfl) (.cons (B rfl rfl rfl) (.cons (B rfl rfl rfl) (.cons (B rfl rfl rfl) (.cons (B rfl rfl rfl) (.cons (B rfl rfl rfl) (.cons (B rfl rfl rfl) (.cons (B rfl rfl rfl) (.cons (B rfl rfl rfl) (.cons (B rfl rfl rfl) (.cons (B rfl rfl rfl) (.cons (B rfl rfl rfl) (.cons (B rfl rfl rfl) (.cons (B rfl rfl rfl) (.cons (B rfl rfl rfl) (.cons (B rfl rfl rfl) (.cons (B rfl rfl rfl) (.cons (B rfl rfl rfl) (.cons (B rfl rfl rfl) (.cons (B rfl rfl rfl) (.cons (B rfl rfl rfl) (.cons (B rfl rfl rfl) .nil))))))))))))))))))))))))))))))))))))))
theorem N4:Ok prog w base 2 eP:=by
 have F:=Ok.fns X (N3 ay X) (aI eK) rfl rfl rfl
 have B:= @ft.b _ prog w Kf base ay X eK 1 F
 have C:= @ft.c _ prog w Kf base X eK 1 F
 with_unfolding_all exact .cons (C rfl rfl rfl rfl rfl rfl λ_ _ _ _ _ h=>h) (.cons (C rfl rfl rfl rfl rfl rfl λ_ _ _ _ h=>h) (.cons (C rfl rfl rfl rfl rfl rfl λ_ _ _ h=>h) (.cons (C rfl rfl rfl rfl rfl rfl λ_ _ _ _ _ _ h=>h) (.cons (C rfl rfl rfl rfl rfl rfl λ_ _ _ h=>h) (.cons (ft.m X F rfl rfl rfl rfl rfl rfl (by decide)) (.cons (B rfl rfl rfl) (.cons (B rfl rfl rfl) (.cons (B rfl rfl rfl) (.cons (B rfl rfl rfl) (.cons (B rfl rfl rfl) (.cons (C rfl rfl rfl rfl rfl rfl λ_ _ _ _ _ _ _ h=>h) (.cons (B rfl rfl rfl) (.cons (B rfl rfl rfl) (.cons (B rfl rfl rfl) (.cons (ft.m X F rfl rfl rfl rfl rfl rfl (by decide)) (.cons (C rfl rfl rfl rfl rfl rfl λ_ _ _ _ _ _ _ _ _ h=>h) (.cons (C rfl rfl rfl rfl rfl rfl λ_ _ _ _ _ _ _ _ h=>h) (.cons (C rfl rfl rfl rfl rfl rfl λ_ _ _ _ _ _ h=>h) (.cons (B rfl rfl rfl) (.cons (C rfl rfl rfl rfl rfl rfl λ_ _ _ h=>h) (.cons (C rfl rfl rfl rfl rfl rfl λ_ _ _ h=>h) (.cons (C rfl rfl rfl rfl rfl rfl λ_ _ _ _ h=>h) (.cons (C rfl rfl rfl rfl rfl rfl λ_ _ _ _ h=>h) (N3 ay X).up)))))))))))))))))))))))
theorem N8:Ok prog w base 3 dr:=by
 have F:=Ok.fns X (N4 ay X) (aI eP) rfl rfl rfl
 have B:= @ft.b _ prog w Kf base ay X eP 2 F
 with_unfolding_all exact .cons (B rfl rfl rfl) (.cons (B rfl rfl rfl) (.cons (B rfl rfl rfl) (.cons (B rfl rfl rfl) (.cons (B rfl rfl rfl) (.cons (B rfl rfl rfl) (.cons (B rfl rfl rfl) (.cons (B rfl rfl rfl) (.cons (B rfl rfl rfl) (.cons (B rfl rfl rfl) (.cons (B rfl rfl rfl) (.cons (B rfl rfl rfl) (.cons (B rfl rfl rfl) (.cons (B rfl rfl rfl) (.cons (B rfl rfl rfl) (N4 ay X).up))))))))))))))
theorem N9:Ok prog w base 4 g0:=by
 have F:=Ok.fns X (N8 ay X) (aI dr) rfl rfl rfl
 have B:= @ft.b _ prog w Kf base ay X dr 3 F
 with_unfolding_all exact .cons (B rfl rfl rfl) (.cons (B rfl rfl rfl) (.cons (B rfl rfl rfl) (.cons (B rfl rfl rfl) (.cons (B rfl rfl rfl) (.cons (B rfl rfl rfl) (.cons (B rfl rfl rfl) (.cons (B rfl rfl rfl) (.cons (B rfl rfl rfl) (.cons (B rfl rfl rfl) (.cons (B rfl rfl rfl) (.cons (B rfl rfl rfl) (.cons (B rfl rfl rfl) (.cons (B rfl rfl rfl) (.cons (B rfl rfl rfl) (.cons (B rfl rfl rfl) (.cons (B rfl rfl rfl) (N8 ay X).up))))))))))))))))
theorem Oa:Ok prog w base 5 pJ:=by
 have F:=Ok.fns X (N9 ay X) (aI g0) rfl rfl rfl
 have B:= @ft.b _ prog w Kf base ay X g0 4 F
 with_unfolding_all exact .cons (B rfl rfl rfl) (.cons (B rfl rfl rfl) (.cons (B rfl rfl rfl) (.cons (ft.s (ex:= []) ay X F rfl X.aee rfl) (.cons (B rfl rfl rfl) (.cons (B rfl rfl rfl) (.cons (B rfl rfl rfl) (.cons (B rfl rfl rfl) (N9 ay X).up)))))))
theorem Ob:Ok prog w base 6 pK:=by
 have F:=Ok.fns X (Oa ay X) (aI pJ) rfl rfl rfl
 have B:= @ft.b _ prog w Kf base ay X pJ 5 F
 with_unfolding_all exact .cons (B rfl rfl rfl) (.cons (ft.s (ex:= []) ay X F rfl X.aed rfl) (.cons (B rfl rfl rfl) (.cons (B rfl rfl rfl) (Oa ay X).up)))
theorem Oc:Ok prog w base 7 td:=by
 have F:=Ok.fns X (Ob ay X) (aI pK) rfl rfl rfl
 have B:= @ft.b _ prog w Kf base ay X pK 6 F
 with_unfolding_all exact .cons (B rfl rfl rfl) (.cons (ft.f X F rfl rfl rfl rfl rfl rfl (by decide)) (.cons (B rfl rfl rfl) (.cons (B rfl rfl rfl) (.cons (B rfl rfl rfl) (Ob ay X).up))))
theorem Od:Ok prog w base 8 kg:=by
 have F:=Ok.fns X (Oc ay X) (aI td) rfl rfl rfl
 have B:= @ft.b _ prog w Kf base ay X td 7 F
 with_unfolding_all exact .cons (B rfl rfl rfl) (.cons (B rfl rfl rfl) (Oc ay X).up)
theorem Oe:Ok prog w base 9 iP:=by
 have F:=Ok.fns X (Od ay X) (aI kg) rfl rfl rfl
 have B:= @ft.b _ prog w Kf base ay X kg 8 F
 with_unfolding_all exact .cons (B rfl rfl rfl) (.cons (B rfl rfl rfl) (.cons (B rfl rfl rfl) (Od ay X).up))
theorem Of:Ok prog w base 10 pL:=by
 have F:=Ok.fns X (Oe ay X) (aI iP) rfl rfl rfl
 have B:= @ft.b _ prog w Kf base ay X iP 9 F
 with_unfolding_all exact .cons (B rfl rfl rfl) (.cons (B rfl rfl rfl) (.cons (B rfl rfl rfl) (Oe ay X).up))
theorem N5:Ok prog w base 11 tc:=by
 have F:=Ok.fns X (Of ay X) (aI pL) rfl rfl rfl
 have B:= @ft.b _ prog w Kf base ay X pL 10 F
 with_unfolding_all exact .cons (B rfl rfl rfl) (.cons (B rfl rfl rfl) (Of ay X).up)
theorem N6:Ok prog w base 12 vN:=by
 have F:=Ok.fns X (N5 ay X) (aI tc) rfl rfl rfl
 have B:= @ft.b _ prog w Kf base ay X tc 11 F
 with_unfolding_all exact .cons (B rfl rfl rfl) (.cons (B rfl rfl rfl) (N5 ay X).up)
theorem N7:Ok prog w base 13 pI:=by
 have F:=Ok.fns X (N6 ay X) (aI vN) rfl rfl rfl
 have B:= @ft.b _ prog w Kf base ay X vN 12 F
 with_unfolding_all exact .cons (B rfl rfl rfl) (N6 ay X).up
end
section
theorem ze {α:Type} {G:Prop} {n:Nat} {v:α} {p:Nat×α} {l:List (Nat×α)} (h:aL n (p::l)=ab v) (i9:n=p.1->v=p.2->G) (n1:aL n l=ab v->G):G:=by
 have h:(match bA p.1 n with
  |true=>ab p.2
  |false=>aL n l)=ab v:=h
 cases q:bA p.1 n with
 |true=>rw[q] at h;exact i9 (fg q).symm (bQ h).symm
 |false=>rw[q] at h;exact n1 h
@[irreducible] def y9 (b:Bool) (σ:St):Prop:=m6 (SL b) sS σ λg _=>g= .hF (.f (.bool aa))
def D6 (v:ae) (σ:St):Prop:= ∃b,v= .f (.bool b)/\y9 b σ
@[irreducible] def vq (σ:St):Prop:=rz jy q0 σ D6
@[irreducible] def vp (σ:St):Prop:=m6 jy qW σ λg σ=>g= .aQ/\vq σ
@[irreducible] def vo (σ:St):Prop:=m6 jy qV σ λg σ=>g= .aQ/\vp σ
@[irreducible] def vn (σ:St):Prop:=rz ub qZ σ λv σ=>v= .ap 20/\vo σ
noncomputable def sU:bB:=⟨af,af,af,af,af,af,af,af,af,af,af,af,af,af,af,af,af,af,af,af,af,af,af,af,af⟩
theorem aay {zs:List Int} (cG:zs.length<=63):vn ⟨(sU.pR zs).loc,[],[],[]⟩:=
 have t1:(rq zs).length<=100:=bf (ag2 zs) (by decide)
 have aO: ∀{l:List Nat},l.length<=100->l.tail.length<=100:=λ{l} h=>by rw[wW];exact bf (oJ _ _) h
 by delta vn vo vp vq D6 y9;exact acB (r:=sU) cG _ ⟨rfl,acG (r:=sU.pR zs) t1 _ ⟨rfl,acH (r:=sU.pR zs) (aO t1) _ ⟨rfl,acI (r:=sU.pR zs) _ ⟨_,rfl,ak (adE (w:=odd ((rq zs).headD 0)) (r:=sU.pR zs) (aO (aO t1))) λσ' h=>h _ (λg _=> .ret (g= .hF (.f (.bool aa)))) (aB.rb _ id) rfl⟩⟩⟩⟩
noncomputable def s1 (l:List cy):cy:=l.headD default
def xV (sc:cN) (b:List cy):List cy:=
 .Assign [jf 40 (ec (s1 b))] ((au sc qZ).e (b3 (s1 b))) (s1 b).pos::(dH sc qV).e (s1 b.tail)::(dH sc qW).e (s1 b.tail.tail):: .Assign [jf 43 (ec (s1 b.tail.tail.tail))] ((au sc q0).e (b3 (s1 b.tail.tail.tail))) (s1 b.tail.tail.tail).pos::(dH sc sS).bZ b.tail.tail.tail.tail
def K4 (sc:cN) (b:List cy):Bool:=(au sc qZ).x (b3 (s1 b))&&(dH sc qV).s (s1 b.tail)&&(dH sc qW).s (s1 b.tail.tail)&&q5 ((au sc q0).e (b3 (s1 b.tail.tail.tail)))&&(au sc q0).x (b3 (s1 b.tail.tail.tail))&&(dH sc sS).b b.tail.tail.tail.tail
theorem agJ {env:dm} {dw:Expr} {g:List Comprehension} {sc:cN} {t:a7} {p q:er} {l:Nat} (aS:env.kindOf t=ab .cell):xk (.ListComp dw g sc q) (ab (.Name t p)) l env=pure ac:=by
 show(pure (env.blockKind== .function&&env.kindOf t==ab .local&&p.line==q.line&& !(sc.names.any λx=>x.1==t&&(x.2== .local||x.2== .cell))):hJ Bool)=pure ac
 rw[aS,show((ab Sz==ab NameKind.local):Bool)=ac by decide,ho,wF,wF]
variable [WP]
theorem aX.adD {Γ:bM} {T:bG} {s:az} {c:aR} {o ef:bW} {h':cu} {pin:Nat->Option aR} (N:aX Γ T s) (aD:Γ.Fr c=ab o) (hs:Bk c s.heap h') (bV:h'.get? c=ab ef) (hp: ∀x a,pin x=ab a->T.U x/\T.ax (2*x)=a):
  aX ⟨Γ.Fr.ins c ef,Γ.L,Γ.base,Γ.gens,Γ.os,pin⟩ T {s with heap:=h'}:=by
 have f:=(N.aY.fr c o aD).2
 have ne: ∀{b},Γ.Fr b=af->b≠c:=λ{b} e q=>by rw[q,aD] at e;exact a0 e.symm
 refine⟨⟨λb x e=> (hs.2 b λq=>by rw[q,f] at e;exact a0 e).trans (N.aY.bE b x e),λb x e=> ?_,λy ao e=>iw (dT.refl _) (λ_ h=>h) (λ_ _=>rfl) (λa aE=> (hs.2 a (ne (N.aY.ca y ao e a aE).2)).symm) rfl rfl (N.aY.cell y ao e),
  λy ao e a aE=>have z:=N.aY.ca y ao e a aE;⟨z.1,(bh.f9 _ _ (ne z.2)).trans z.2⟩,N.aY.gm⟩,⟨ak N.lo.ns λm h=> ⟨m,h.1.sameBut hs (ne N.lo.free.2),h.2⟩,⟨N.lo.free.1,(bh.f9 _ _ (ne N.lo.free.2)).trans N.lo.free.2⟩,N.lo.b0,N.lo.lu⟩,N.base,N.gens,N.os,hp⟩
 by_cases q:b=c
 ·rw[q] at e⊢
  exact⟨bQ ((bh.gb _ _ _).symm.trans e)▸bV,f⟩
 ·have e:=(bh.f9 _ _ q).symm.trans e
  exact⟨(hs.2 b q).trans (N.aY.fr b x e).1,(N.aY.fr b x e).2⟩
section
variable {prog:cP} {w:ba} {Kf:bY} {base:cu} {A:c2} {E:ah->az->Prop} {s bk:az} {sc:cN} {env:dm} {Γ:bM} {T:bG} {S:cL}
theorem Qc {n:Nat} {c:aR} {o:bW} {v:ah} {pin:Nat->Option aR} {Q:Unit->az->Prop} (Ev:dk sc env Γ S) (cq:pz sc (nm n)=aa) (l:env.cells.lookup (nm n)=ab c) (hf:Γ.Fr c=ab o) (hd:o.data= .cell af) (N:aX Γ T s) (hp: ∀x a,pin x=ab a->T.U x/\T.ax (2*x)=a)
  (q: ∀ef s',ef.data= .cell (ab v)->aX ⟨Γ.Fr.ins c ef,Γ.L,Γ.base,Γ.gens,Γ.os,pin⟩ T s'->Q () s'):bg (bp prog w) A (storeName env (nm n) v) Q E s:=
 wpAny_storeName_cell Ev.fn (Ev.is cq) l ⟨o,(N.aY.fr c o hf).1,hd⟩ λh' aD hs=>ak aD λef bV=>q ef _ bV.2 (N.adD hf hs bV.1 hp)
theorem Pz {x:Q7.X} {k:Nat} {p:Expr} {P:St->Prop} {K:ae->St->Prop} {Q:ah->az->Prop} (e:P=λσ=>rz S x σ K) (cn:bc prog w Γ k S sc env x) {t:Expr} (uV:(au sc x).e p=t) (hp:(au sc x).x p=aa) (aw:fq A k) (N:aX Γ T s) (h:P T.σ) (q: ∀a4 v av s',T.dS a4->aX Γ a4 s'->a4.A av v->K av a4.σ->Q v s'):bg (bp prog w) A (dz t env) Q E s:=uV▸cn.cX p hp aw N (show rz S x T.σ K by rw[e] at h;exact h) q
theorem runC {x:Q7.S} {k:Nat} {p:cy} {r:List cy} {P K:St->Prop} {Q:nv->az->Prop} (e:P=λσ=>m6 S x σ λg σ=>g= .aQ/\K σ) (cn:et prog w Γ k S sc env x) {t:cy} (uV:(dH sc x).e p=t) (hp:(dH sc x).s p=aa) (aw:fq A k) (N:aX Γ T s) (h:P T.σ) (q: ∀a4 s',T.dS a4->aX Γ a4 s'->K a4.σ->bg (bp prog w) A (nA r env) Q E s'):bg (bp prog w) A (nA (t::r) env) Q E s:=
 BK (uV▸cn.s p hp aw N (show m6 S x T.σ λg σ=>g= .aQ/\K σ by rw[e] at h;exact h) λa4 g f s' x N hf h=>by
  rw[h.1] at hf
  rw[show f= .next from hf]
  exact q a4 s' x N h.2)
theorem adY {x:Q7.S} {k:Nat} {p:List cy} {P:St->Prop} {K:cD->St->Prop} {Q:nv->az->Prop} (e:P=λσ=>m6 S x σ K) (cn:et prog w Γ k S sc env x) {t:List cy} (uV:(dH sc x).bZ p=t) (hp:(dH sc x).b p=aa) (aw:fq A k) (N:aX Γ T s) (h:P T.σ) (q: ∀a4 g f s',T.dS a4->aX Γ a4 s'->AP a4 f g->K g a4.σ->Q f s'):bg (bp prog w) A (nA t env) Q E s:=uV▸cn.b p hp aw N (show m6 S x T.σ K by rw[e] at h;exact h) q
noncomputable abbrev bM.sd (base:cu) (s:az) (L:aR):bM:=⟨λ_=>af,L,base,s.gens,s.os,λ_=>af⟩
theorem aax {L df j1:aR} {m CK:a7->Option ah} {cs:List (a7×aR)} {v:ah} {x:aj} {ex:List Nat} (ag: ∀b o,base.get? b=ab o->s.heap.get? b=ab o) (I:InCallC s L m cs CK bk) (mV:cs.lookup (nm 40)=ab df) (mW:cs.lookup (nm 43)=ab j1) (X2:CK (nm 40)=af) (X3:CK (nm 43)=af)
  (hm:m (nm 93)=ab v) (aW:bq s.heap.get? x v): ∃l4 hj,l4.data= .cell af/\hj.data= .cell af/\j1≠df/\aX (((bM.sd base s L).hold j1 hj).hold df l4) ⟨s.heap.get?,λ_=>0,⟨locs [93] [.f x] ex,[],[],[]⟩⟩ bk:=by
 have ne:j1≠df:=λq=>absurd (n7 40 43 (name_of_addr I.apart (mem_of_lookup mV) (mem_of_lookup (q▸mW)))) (by decide)
 have j5: ∀y,St.g ⟨locs [93] [.f x] ex,[],[],[]⟩ y=af:=λy=> (congrFun (Dp rfl) y).trans (qM y)
 have n0: ∀{y ao},St.g ⟨locs [93] [.f x] ex,[],[],[]⟩ y≠ab ao:=λ{y ao} e=>a0 ((j5 y).symm.trans e)
 have ri: ∀b,L<=b->s.heap.get? b=af:=λb ag=>by
  cases q:s.heap.get? b with
  |none=>rfl
  |some o=>exact absurd (oO q) (mu.mpr (bf I.toInCall.fresh ag))
 have b0: ∀{n c},cs.lookup (nm n)=ab c->L<c:=λl=>I.above _ _ (mem_of_lookup l)
 have Lb:=I.cell _ _ mV
 have Lc:=I.cell _ _ mW
 rw[X2] at Lb
 rw[X3] at Lc
 have N:aX (bM.sd base s L) ⟨s.heap.get?,λ_=>0,⟨locs [93] [.f x] ex,[],[],[]⟩⟩ bk:=by
  refine⟨⟨I.toInCall.keep,λ_ _ e=>a0 e,λy ao e=> (n0 e).elim,λy ao e=> (n0 e).elim,λy z ao bo e=> (n0 e).elim⟩,⟨⟨m,I.toInCall.ns,λn av e=> ?_⟩,⟨ri _ (fi _),rfl⟩,λy ao e=> (n0 e).elim,λy h=>absurd h eG⟩,ag, ?_, ?_,λ_ _ e=>a0 e⟩
  ·rw[NF] at e
   exact ze e (λe1 e2=> ⟨v,by rw[e1];exact hm,by rw[e2];exact aW⟩) a0
  ·exact bT I.toInCall.same λh t e=>by rw[e]
  ·exact bT I.toInCall.same λh t e=>by rw[e]
 exact ak Lb λl4 ci=>ak Lc λhj hw=> ⟨l4,hj,ci.2,hw.2,ne,
  (N.hold ⟨ri _ (kv (b0 mW)),rfl,HY (b0 mW),λy ao e=> (n0 e).elim⟩ hw.1).hold ⟨ri _ (kv (b0 mV)),(bh.f9 _ _ ne.symm),HY (b0 mV),λy ao e=> (n0 e).elim⟩ ci.1⟩
theorem aaz (ay:WP.P=w.params) (X:rM prog Kf base) {b:List cy} (fx:sc.kind= .function) (M6:pz sc (nm 40)=aa) (Zz:pz sc (nm 43)=aa) (eS:K4 sc b=aa) {t0:List cy} (ci:xV sc b=t0) {df j1:aR} {l4 hj:bW} (Hr:env.scope=sc) (Rk:env.globals=jx) (Rl:env.builtins=oU)
  (mV:env.cells.lookup (nm 40)=ab df) (mW:env.cells.lookup (nm 43)=ab j1) (VP:l4.data= .cell af) (VX:hj.data= .cell af) (ne:j1≠df) (N:aX (((bM.sd base s env.locals).hold j1 hj).hold df l4) T bk) (aw:fq A 13) (h:vn T.σ):
  bg (bp prog w) A (nA t0 env) (λf s'=>f= .ret (.bool aa)/\dT T.aP s'.heap.get? /\s'.gens=s.gens/\s'.os=s.os) E bk:=by
 rw[<-ci]
 have G:=λ{Γ:bM} {S:cL} (e:Γ.base=base) (l:Γ.L=env.locals) (c: ∀n v,aL n S.clo=ab v->wH env Γ n v)=> (⟨Hr,fx,l.symm,Rk,Rl,c⟩:dk sc env Γ S)
 have oo:=λ(clo:List (Nat×ae)) (x:Q7.X) (Γ:bM)=>FF (prog:=prog) (w:=w) (k:=13) ay (Ac (pt:=pI) (clo:=clo) X.top) (Ok.fns X (N7 ay X) ⟨jm,jl,ma,oj,gC,pI,clo⟩ rfl rfl rfl) x Γ env sc
 have ss:=λ(clo:List (Nat×ae)) (x:Q7.S) (Γ:bM)=>FE (prog:=prog) (w:=w) (k:=13) ay (Ac (pt:=pI) (clo:=clo) X.top) (Ok.fns X (N7 ay X) ⟨jm,jl,ma,oj,gC,pI,clo⟩ rfl rfl rfl) x Γ env sc
 have B:=k1 eS
 have hL: ∀{l p},xk ((au sc qZ).e (b3 (s1 b))) (ab (.Name (nm 40) p)) l env=pure ac:=λ{l p}=>agJ (by unfold H8;rw[Hr];exact beq_iff_eq.mp M6)
 have La:=B.2.2.2.1
 unfold xV
 generalize e1:(au sc qZ).e (b3 (s1 b))=t1 at hL⊢
 generalize e2:(dH sc qV).e (s1 b.tail)=jP
 generalize ij:(dH sc qW).e (s1 b.tail.tail)=t3
 generalize nR:(au sc q0).e (b3 (s1 b.tail.tail.tail))=FO at La⊢
 generalize nS:(dH sc sS).bZ b.tail.tail.tail.tail=ai5
 have Ht:=G (Γ:=((bM.sd base s env.locals).hold j1 hj).hold df l4) (S:=ub) rfl rfl λn v e=>a0 e
 refine BK (IE (Pz (S:=ub) (P:=vn) (K:=λv σ=>v= .ap 20/\vo σ) (by delta vn;rfl) (oo [] qZ _ rfl Ht) e1 B.1 aw N h λbS v av dh bi aT bl h=> ?_) hL)
 have bl:bS.A (.ap 20) v:=h.1▸bl
 refine Qc (pin:=λx=>cond (bA x 20) (ab (bS.ax (2*20))) af) Ht M6 mV (bh.gb _ _ _) VP aT (λx a e=> ?_) λzH fU VQ aT=> ?_
 ·cases q:bA x 20 with
  |false=>rw[q] at e;exact a0 e
  |true=>rw[q] at e;rw[fg q];exact⟨bl.1,bQ e⟩
 have mL: ∀{Fr:bh},Fr df=ab zH-> ∀n v,aL n [(40,ae.ap 20)]=ab v->wH env ⟨Fr,env.locals,base,s.gens,s.os,λx=>cond (bA x 20) (ab (bS.ax (2*20))) af⟩ n v:=λ{Fr} hf n u e=>
  ze e (λe1 e2=>by rw[e1,e2];exact⟨df,zH,v,mV,hf,VQ,_,rfl,bl.2⟩) a0
 have wL:=G (S:=jy) rfl rfl (mL (Fr:=((((bM.sd base s env.locals).hold j1 hj).hold df l4).Fr.ins df zH)) (bh.gb _ _ _))
 have tM:=ss [(40,.ap 20)] qV _ rfl wL
 have RA:=ss [(40,.ap 20)] qW _ rfl wL
 have RB:=oo [(40,.ap 20)] q0 _ rfl wL
 refine runC (x:=qV) (S:=jy) (P:=vo) (K:=vp) (by delta vo;rfl) tM e2 B.2.1 aw aT h.2 λfj iR cC bR h=> ?_
 refine runC (x:=qW) (S:=jy) (P:=vp) (K:=vq) (by delta vp;rfl) RA ij B.2.2.1 aw bR h λi1 iR eW dU h=> ?_
 refine BK (IE (Pz (S:=jy) (P:=vq) (K:=D6) (by delta vq;rfl) RB nR B.2.2.2.2.1 aw dU h λkY v4 av rp g6 fM k2 h=>ak h λc h=> ?_) (tn La))
 rw[h.1] at k2
 refine Qc wL Zz mW ((bh.f9 _ _ ne).trans ((bh.f9 _ _ ne).trans (bh.gb _ _ _))) VX fM fM.pin λPc Ql VY gQ=> ?_
 have Rn:=G (S:=SL c) rfl rfl λn u e=>ze e (λe1 e2=>mL (Fr:=(((((bM.sd base s env.locals).hold j1 hj).hold df l4).Fr.ins df zH).ins j1 Pc)) ((bh.f9 _ _ ne.symm).trans (bh.gb _ _ _)) n u (by rw[e1,e2];rfl)) λe=>ze e (λe1 e2=>by rw[e1,e2];exact⟨j1,Pc,v4,mW,bh.gb _ _ _,VY,bq.i k2⟩) a0
 refine adY (S:=SL c) (P:=y9 c) (K:=λg _=>g= .hF (.f (.bool aa))) (by delta y9;rfl) (ss [(40,.ap 20),(43,.f (.bool c))] sS _ rfl Rn) nS B.2.2.2.2.2 aw gQ h.2 λTH g f ai4 G4 nu hf h=> ?_
 rw[show g=_ from h] at hf
 exact ak hf λu e=> ⟨by rw[e.1,show u= .bool aa from bq.i e.2],λb o e=>nu.aY.bE b o (G4.bE _ _ (g6.bE _ _ (eW.bE _ _ (cC.bE _ _ (bi.bE _ _ e))))),nu.gens,nu.os⟩
end
end
theorem items_int {R:WRecords} {xs:List w7}:Ir R xs .int=aa-> ∃zs:List Int,xs=zs.map .int:=by
 induction xs with
 |nil=>exact λ_=> ⟨[],rfl⟩
 |cons d xs ai=>
  intro h
  have h:=b2 (show(Ip R d .int&&Ir R xs .int)=aa from h)
  cases d with
  |int z=>exact ak (ai h.2) λzs e=> ⟨z::zs,by rw[e];rfl⟩
  |_=>exact ck h.1
theorem T4 {R:WRecords} {args:List w7} (h:Iq R args [.list .int]=aa): ∃zs:List Int,args= [.list (zs.map .int)]:=by
 cases args with
 |nil=>exact ck h
 |cons d ds=>
  have h:=b2 (show(Ip R d (.list .int)&&Iq R ds [])=aa from h)
  cases ds with
  |cons e es=>exact ck h.2
  |nil=>
   cases d with
   |list xs=>exact ak (items_int (R:=R) (xs:=xs) ((rH _).symm.trans (show(Ir R xs .int||false)=aa from h.1))) λzs e=> ⟨zs,by rw[e]⟩
   |_=>exact ck h.1
def Nn (sc:cN) (body:List cy):Bool:=
 (sc.kind== .function)&&pz sc (nm 40)&&pz sc (nm 43)&&fG sc (nm 93)&&(!sc.isCoroutine&& !sc.isGenerator)&&K4 sc body
theorem UJ {n:a7} {names:List (a7×mw)}: ∀{k:Nat} {acc:List (a7×aR)},(acc.lookup n).isSome=aa\/(n,Sz)∈names->((cellsFrom k names acc).lookup n).isSome=aa:=by
 induction names with
 |nil=>exact λh=>h.elim id λh=>absurd h eG
 |cons x r ai=>
  intro k acc h
  unfold cellsFrom
  split
  ·refine ai (h.elim (λh=> .inl ?_) λh=> (e5.mp h).elim (λh=> .inl ?_) .inr)
   ·rw[mo]
    split
    ·rfl
    ·exact h
   ·rw[mo,(tX h).1,beq_self_eq_true];rfl
  ·rename_i aD
   exact ai (h.elim .inl λh=> (e5.mp h).elim (λh=> (aD (by rw[<-(tX h).2];rfl)).elim) .inr)
def uh (w:ba) (h:cu):Prop:= ∃base Kf,(∀b o,base.get? b=ab o->h.get? b=ab o)/\ @rM ⟨w.params⟩ H6 Kf base
def TK:ah->w7->Prop
 |v,.int i=> ∃t,v= .int i t
 |_,_=>True
theorem Well.Zd {P:cv} {h:cu} {v:ah} {d:w7} (w:Well P h v d):TK v d:=by
 cases w with
 |int i t=>exact⟨t,rfl⟩
 |_=>trivial
theorem ahV {P:cv} {h:cu} [WP] {zs:List Int}: ∀{vs:List ah},WellAll P h vs (zs.map .int)->ew h.get? (zs.map .int) vs:=by
 induction zs with
 |nil=>exact λh=>by cases h;exact .nil
 |cons z zs ai=>exact λh=>by cases h with
  |cons aq aC=>exact ak (Well.Zd aq) λt e=>e▸ .cons (.int _ _) (ai aC)
set_option backward.match.sparseCases true in
theorem adf {zs:List Int} (h:rQ.row.toRowW.pre.holds [] {args:= [.list (zs.map .int)]}=aa):zs.length<=63:=by
 have h:(WTm.and (.not (.lt (.lit (.int 63)) (.len (.arg 0)))) (.lit (.bool aa))).holds [] {args:= [.list (zs.map .int)]}=aa:=h
 have e:(WTm.and (.not (.lt (.lit (.int 63)) (.len (.arg 0)))) (.lit (.bool aa))).value [] {args:= [.list (zs.map .int)]}=ab (.bool (!decide ((63:Int)< ((zs.map Io).length:Int)))):=by
  show(match(ab (Bo (!decide ((63:Int)< ((zs.map Io).length:Int)))):Option w7) with
   |some (.bool ac)=>ab (Bo ac)
   |some (.bool aa)=>ab (Bo aa)
   |_=>af)=_
  cases (!decide ((63:Int)< ((zs.map Io).length:Int)))<;>rfl
 unfold WTm.holds at h
 rw[e] at h
 rw[ed] at h
 by_cases q:(63:Int)< (zs.length:Int)
 ·simp only[q,decide_true] at h
  cases h
 ·omega
theorem Uq {fd:jV} {f5:iz} {v:ah} (hp:fd.params=⟨[],[f5],af,[],[],af,[]⟩) (hd:fd.defaults= .none) (pl:nm 93=f5.arg):Iw fd ⟨[v],[]⟩=pure [(f5.arg,v)]:=by
 unfold Iw
 rw[hp,hd]
 cases f5 with|mk a b c=>
 cases (pl:nm 93=a)
 exact rfl
theorem adb {e:WCtx} (h:e.res=ab (.bool aa)):(It .res (.lit (.bool aa))).holds [] e=aa:=by
 have s:same (.bool aa) (.bool aa)=aa:=by decide+kernel
 have v:(It .res (.lit (.bool aa))).value [] e=ab (.bool aa):=by
  cases e with|mk a r x=>
  cases (h:r=_)
  exact(show _=ab (Bo (same (.bool aa) (.bool aa))) from rfl).trans (by rw[s])
 unfold WTm.holds
 rw[v]
theorem ahU {q:cP} {loose:List a7} {XP:(a7->Option ah)->cu->Prop} {d:DefRec} {kwd:List (a7×Expr)} {f5:iz} (hp:d.params=⟨[],[f5],af,[],[],af,[]⟩) (pl:nm 93=f5.arg) (bu:xV d.scope d.body=d.body) (eS:Nn d.scope d.body=aa):
  WalkO q loose XP uh rQ.row.toRowW d kwd λf vs=>iA f vs:=by
 intro w ai3 bk l0 n6 G Y a o pm cd doc CT M9 bV hd Yj dI aiO cI args vals as DJ aiM aiP YV aiN
 letI:WP:=⟨w.params⟩
 obtain ⟨base,Kf,ag,X⟩:=Y
 obtain ⟨b1,ii,Jx,Jy,uz,Ui⟩:=k1 eS
 obtain ⟨uz,Cj⟩:=b2 uz
 replace b1:=beq_iff_eq.mp b1
 replace uz:=jg uz
 replace Cj:=jg Cj
 have DK:(Iq [] args [.list .int]&&rQ.row.toRowW.pre.holds [] {args:=args})=aa:=DJ
 rw[gE] at DK
 obtain ⟨zs,rfl⟩:=T4 DK.1
 have cG:=adf DK.2
 cases YV with
 |cons aq aC=>
  cases aC
  cases aq with
  | @list ad vs xs aA hw=>
   have aW:bq bk.heap.get? (.lst (zs.map .int)) (.ref ad):= .lst (n:=0) aA (ahV hw)
   obtain ⟨name,params,body,scope,pos⟩:=d
   dsimp only at hp bu
   subst hp
   have Ym:CT= .none:=by
    rcases dI.pos with⟨_,h⟩ | ⟨h,_⟩
    ·exact h
    ·exact absurd rfl h
   refine IF ?_
   refine codeAny_call_cells (binds:= [(f5.arg,.ref ad)]) (by decide) bV hd (X.top.lim.keeps ag) Yj rfl ?_ rfl (λx aH=> ?_) (λdh I=> ?_) uz Cj b1
   ·exact Uq rfl Ym pl
   ·simp only[e5,eG,or_false] at aH
    subst aH
    rw[<-pl]
    exact .inl (beq_iff_eq.mp Jy)
   ·have h7:(callEnvC {docDef name ⟨[],[f5],af,[],[],af,[]⟩ body scope pm cd doc with defaults:=CT,kwdefaults:=M9} bk.heap.objs.size a).kindOf f5.arg=ab .local:=by
     rw[<-pl]
     exact beq_iff_eq.mp Jy
    have kc:nm 40≠nm 93:=λq=>absurd (n7 _ _ q) (by decide)
    have gM:nm 43≠nm 93:=λq=>absurd (n7 _ _ q) (by decide)
    have Mt: ∀n,pz scope (nm n)=aa-> ∃c,(callEnvC {docDef name ⟨[],[f5],af,[],[],af,[]⟩ body scope pm cd doc with defaults:=CT,kwdefaults:=M9} bk.heap.objs.size a).cells.lookup (nm n)=ab c:=λn ar=>
     w4.mp (UJ (.inr (mem_of_lookup (beq_iff_eq.mp ar))))
    refine ak (Mt 40 ii) λdf mV=>ak (Mt 43 Jx) λj1 mW=>bT (aax (v:= .ref ad) (ex:= [52,88,46,83,38,103,36,8,81,106,2,4,3,110,39,68,71,42,66,87,58,41,90,11]) ag I mV mW ?_ ?_ ?_ aW) λl4 hj Z=> ?_
    ·show(t4 _ [(f5.arg,.ref ad)] λ_=>af) (nm 40)=_
     unfold t4 t4
     rw[if_pos h7]
    ·show(t4 _ [(f5.arg,.ref ad)] λ_=>af) (nm 43)=_
     unfold t4 t4
     rw[if_pos h7]
    ·show(bindL _ [(f5.arg,.ref ad)] λ_=>af) (nm 93)=_
     unfold bindL bindL
     rw[if_pos h7]
     rw[pl]
     simp
    ·refine h3 (aaz (prog:=H6) (w:=w) (b:=body) rfl X b1 ii Jx Ui bu rfl rfl rfl mV mW Z.1 Z.2.1 Z.2.2.1 Z.2.2.2 ⟨show callerA.depth+1+3*13<=990 by decide,show callerA.units+3+20*13<=9000 by decide,rfl⟩ (aay cG)) (λf s' dC=> ?_) λe s' dC=>dC
     obtain ⟨rfl,keep,Ys,YK⟩:=dC
     refine⟨.inl ⟨.bool aa,.bool aa,[],rfl,λ_=>rfl,.bool aa, ?_,λ_=> ⟨.nil,λa aE=>by cases aE⟩⟩,.of_keep keep,YK,.of_eq (Ys.trans cI)⟩
     show(Ip [] (.bool aa) .bool&&(It .res (.lit (.bool aa))).holds [] {args:= [.list (zs.map .int)],res:=ab (.bool aa),after:= [.list (zs.map .int)]})=aa
     exact i3 rfl (adb rfl)
end Q7
namespace Hd
noncomputable abbrev cA:cP:=H6
noncomputable def zC:List cy->Nat->cy
 | [],_=> .Pass default
 |a::_,0=>a
 |_::l,n+1=>zC l n
noncomputable def U1 (s:cy):List cy:=match s with
 | .ClassDef _ _ _ b _ _ _ _ _ _ _=>b
 |_=> []
noncomputable def su (c d:Nat):cy:=zC (U1 (zC cA.main.body c)) d
noncomputable def Dk (c:Nat):cy:=zC cA.main.body c
noncomputable def a6 (x:a7) (t:Nat):ah:= .str x t
noncomputable def kI (i:Int) (t:Nat):ah:= .int i t
noncomputable def ap (c:ah) (d:Option aR) (x:Data):bW:=⟨c,d,x, #[]⟩
noncomputable def obs (c:ah) (d:Option aR) (x:Data) (aK:Array (Option ah)):bW:=⟨c,d,x,aK⟩
noncomputable def d2 (l:List ah):bW:=⟨.type "tuple",af,.seq l.toArray 0, #[]⟩
noncomputable def hu (l:List ah):bW:=⟨.none,af,.fields l.toArray, #[]⟩
noncomputable def yq (c:ah) (l:List ah):bW:=⟨c,af,.fields l.toArray, #[]⟩
noncomputable def bU (P:cv) (k v:ah):cT:=match k with
 | .str x _=> ⟨kW P x,k,v⟩
 |_=> ⟨0,k,v⟩
noncomputable def qK (s:cy) (nm pM:a7) (g:Nat) (cl:List (a7×aR)) (CU pm cd df:ah):jV:=match s with
 | .FunctionDef _ a8 body _ _ _ sc _ _ _=> ⟨nm,pM,a8,.stmts body,sc,g,cl,CU,.none,.none,pm,af,cd,df,0⟩
 |_=>default
noncomputable def ys (nm:a7) (c g:Nat) (pm cd:ah):jV:=qK (Dk c) nm nm g [] .none pm cd .none
noncomputable def vH:List a7->Nat->List ah
 | [],_=> []
 |x::l,t=> .str x t::vH l (t+1)
noncomputable def gI (P:cv) (n:a7) (t a:Nat):cT:=bU P (.str n t) (.ref a)
noncomputable def k4 (l:List cT) (n:Nat:=l.length):bW:=ap (.type "dict") af (.dict l.toArray n)
noncomputable def hb (c:ah) (n q:a7) (t k:Nat) (ln:Int) (na nl:Int) (b:Bool) (f:List ah) (a:Nat):bW:=yq (.type "code") ([.str n t,.str q (t+1),.str "/claim/cut.py" (t+2),.int ln 0,.int na 0,.int 0 0,.int 0 0,.int nl 0,.ref a,.bool b,.int 181 0,.ref (a+1),.none]++f++ [c,.int (c1 k) 0,.int ln 0,.str "/claim/cut.py" (k+1)])
noncomputable def D9:List (a7×mw)->List a7
 | []=> []
 |x::l=>match x.2 with
  | .local=>x.1::D9 l
  |_=>D9 l
noncomputable abbrev p5:=List bW×List cT×List ah
noncomputable def CA (P:cv) (m:a7×Nat) (cl:List Nat) (CU:ah) (s:cy) (a t:Nat):p5:=match s with
 | .FunctionDef nm a8 _ _ _ _ sc _ _ p=>
  let vs:=D9 sc.names
  let k:=t+3+vs.length
  let pM:a7:=⟨(cl++nm.cps.toList).toArray⟩
  ([d2 [],hu [],d2 (vH vs (t+3)),d2 [],ap .none af (.func (qK s nm pM 0 [] .none .none .none .none)),
   hb (.ref (a+4)) nm pM t k p.line a8.args.length 3 aa [.ref (a+2),.ref (a+3)] a,
   ap (.type "function") af (.func (qK s nm pM 3 [] CU (.str m.1 m.2) (.ref (a+5)) .none))],[gI P nm (k+2) (a+6)],[.int p.line 0,.int 4 0,.ref (a+5)])
 |_=> ([],[],[])
noncomputable def mt (P:cv) (m:a7×Nat) (cl:List Nat) (c d a t:Nat):List ah->p5
 | []=>CA P m cl .none (su c d) a t
 |C6=>let r:=CA P m cl (.ref a) (su c d) (a+1) t
  (d2 C6::r.1,r.2)
noncomputable def lS (P:cv) (m:a7×Nat) (c a t:Nat):List bW:=(CA P m [] .none (Dk c) a t).1
noncomputable def fz (f:Nat->Nat->Nat->List ah->p5) (d a:Nat):List Nat->List p5
 | []=> []
 |t::l=>f d a t []::fz f (d+1) (a+7) l
noncomputable def hM (P:cv) (s:a7) (t:Nat):p5:=([],[bU P (a6 "id" (t+1)) (a6 s t)],[])
noncomputable def Mb (P:cv) (e q:Nat):List (a7×List ah)->List cT
 | []=> []
 |x::l=>gI P x.1 (q+1) e::Mb P (e+1) (q+2) l
noncomputable def Mc (e q:Nat):List (a7×List ah)->List bW
 | []=> []
 |x::l=>yq (.type "getset_descriptor") (a6 x.1 q:: .ref e::x.2)::Mc e (q+2) l
noncomputable def pj:List (a7×List ah):= [("__dict__",[.builtin "function.__dict__",.builtin "function.__dict__#set"]),("__weakref__",[.builtin "ExceptionGroup.__weakref__",.none])]
noncomputable def bn (n:String) (l:List ah):bW:=yq (.type "builtin_function_or_method") (.builtin n::l)
noncomputable def dx (P:cv) (m:a7×Nat) (c a t e h:Nat) (r:List Nat) (v:Bool:=aa) (x z:Bool:=ac) (u:List Nat:= []) (w:List (a7×List ah):= []) (g:(Nat->Nat->Nat->List ah->p5)->List p5:=λ_=> []):List bW:=match Dk c with
 | .ClassDef n _ _ _ _ _ _ _ _ st p=>
  let l:=g (mt P m (n.cps.toList++ [46]) c)
  let q:=h+st.length
  let y:=a+z.toNat
  let s:=e+2
  let b:List ah:=r.map .ref++(bif x then [.type "Exception",.type "BaseException",.type "object"] else [.type "object"])
  let i:=l.flatMap (·.2.1)++ [gI P "__static_attributes__" q e]
  let j:=bU P (a6 "__module__" (t+7)) (a6 m.1 m.2)
  let k:=bU P (a6 "__firstlineno__" (t+11)) (.int p.line (t+10))
  [d2 (bif v then b.take 1 else []),bn "type.__prepare__" [.type "type"],k4 (j::bU P (a6 "__qualname__" (t+9)) (a6 n (t+8))::k::(i++(bif z then [gI P "__classcell__" (q+1) (a+3)] else [])))]++(bif z then [obs (.type "cell") af (.cell (ab (.ref s))) #[]] else [])++
  [d2 [],hu (l.flatMap (·.2.2)),hb .none n n (t+2) (t+5) p.line 0 0 ac [.none,.none] (y+3),obs (.type "frame") af (.plain) #[ab (.ref (y+5)),ab (.ref 3),ab (.ref (a+2)),af,ab (.str m.1 m.2),af,ab (.ref 0)]]++l.flatMap (·.1)++
  [d2 (vH st h),k4 (j::k::(i++Mb P (e+3) (q+1) w++ [bU P (a6 "__doc__" (q+1+2*w.length+z.toNat)) .none])) (2+w.length+z.toNat),
   obs (.type "type") af (.cls ⟨n,b.take 1,.ref s::b,e+1,n,aa,[],u.map .ref,ac,af,ac⟩) #[bif v then ab (.ref a) else af,af,ab (.str n t),ab (.str n (t+8)),ab (.builtin (bif x then "Exception.__new__" else "object.__new__")),ab (.bool aa)]]++
  Mc s (q+1) w++ [yq (.type "super") [.ref s,.ref s,.ref s],bn "object.__init_subclass__" [.ref s]]
 |_=> []
noncomputable def km (l:List Nat):bW->bW
 | ⟨c,d,.cls ⟨n,b,m,a,q,x,y,_,z,v,w⟩,s⟩=> ⟨c,d,.cls ⟨n,b,m,a,q,x,y,l.map .ref,z,v,w⟩,s⟩
 |o=>o
noncomputable def abQ:a7×Nat:=("__main__",164)
noncomputable def EQ:a7×Nat:=("yaml.error",194)
noncomputable def jL:a7×Nat:=("yaml.events",321)
noncomputable def sX:a7×Nat:=("yaml.emitter",665)
noncomputable def hh:a7×Nat:=("yaml.tokens",1420)
noncomputable def zp:a7×Nat:=("yaml.reader",1897)
noncomputable def vB:a7×Nat:=("yaml.scanner",2040)
noncomputable def ER:a7×Nat:=("yaml.parser",2853)
noncomputable def vC:a7×Nat:=("law_qm0007_07",3174)
noncomputable def gl (f:a7->Nat->Nat->cT):List cT:= [f "_wall" 193 21,f "Mark" 259 53,f "YAMLError" 279 67,f "MarkedYAMLError" 320 95,f "Event" 360 122,f "NodeEvent" 389 144,f "CollectionStartEvent" 424 164,f "CollectionEndEvent" 440 176,f "StreamStartEvent" 469 196,f "StreamEndEvent" 485 208,f "DocumentStartEvent" 518 228,f "DocumentEndEvent" 547 248,f "AliasEvent" 563 260,f "ScalarEvent" 600 280,f "SequenceStartEvent" 616 292,f "SequenceEndEvent" 632 304,f "MappingStartEvent" 648 316,f "MappingEndEvent" 664 328,f "EmitterError" 682 340,f "ScalarAnalysis" 725 359,f "Emitter" 1376 799,f "Rows" 1419 834,f "Token" 1452 855,f "DirectiveToken" 1485 876,f "DocumentStartToken" 1503 888,f "DocumentEndToken" 1521 900,f "StreamStartToken" 1552 920,f "StreamEndToken" 1570 932,f "BlockSequenceStartToken" 1588 944,f "BlockMappingStartToken" 1606 956,f "BlockEndToken" 1624 968,f "FlowSequenceStartToken" 1642 980,f "FlowMappingStartToken" 1660 992,f "FlowSequenceEndToken" 1678 1004,f "FlowMappingEndToken" 1696 1016,f "KeyToken" 1714 1028,f "ValueToken" 1732 1040,f "BlockEntryToken" 1750 1052,f "FlowEntryToken" 1768 1064,f "AliasToken" 1799 1083,f "AnchorToken" 1830 1102,f "TagToken" 1861 1121,f "ScalarToken" 1896 1141,f "ReaderError" 1938 1167,f "_is_printable" 1945 1176,f "Reader" 2039 1238,f "ScannerError" 2057 1252,f "SimpleKey" 2096 1271,f "Scanner" 2852 1789,f "ParserError" 2870 1801,f "Parser" 3173 2029,f "_law_PIECES" 3190 2032,f "_law_ENDINGS" 3196 2039,f "_law_HANDLES" 3209 2043,f "_law_next" 3216 2050,f "_law_lines" 3226 2057,f "_law_text" 3232 2062,f "_law_told" 3239 2069,f "law" 3245 2074]
noncomputable def dP (P:cv) (m:a7×Nat) (n:Nat) (_:bW):bW:=k4 ((bU P (a6 "__name__" 165) (a6 m.1 m.2):: [bU P (a6 "__doc__" 166) .none,bU P (a6 "__package__" 167) .none,bU P (a6 "__loader__" 168) (.builtin "__main__.__loader__#opaque"),bU P (a6 "__spec__" 169) .none,gI P "__annotations__" 170 6,gI P "__builtins__" 171 4,bU P (a6 "__file__" 173) (a6 "/claim/cut.py" 172),bU P (a6 "__cached__" 174) .none]++gl (gI P)).take n)
noncomputable def L9:List (Int×Nat)->List ah
 | []=> []
 |x::l=> .int x.1 0:: .int 0 0:: .ref x.2::L9 l
noncomputable def lc (n:Nat) (_:bW):bW:=hu (L9 ([(1,20),(5,27),(43,63),(45,76),(68,103),(76,132),(82,152),(91,172),(93,184),(99,204),(101,216),(109,236),(115,256),(117,268),(127,288),(129,300),(131,312),(133,324),(136,336),(138,348),(149,369),(1023,809),(1034,844),(1039,865),(1047,884),(1049,896),(1051,908),(1058,928),(1060,940),(1062,952),(1064,964),(1066,976),(1068,988),(1070,1000),(1072,1012),(1074,1024),(1076,1036),(1078,1048),(1080,1060),(1082,1072),(1089,1091),(1096,1110),(1103,1129),(1113,1149),(1127,1175),(1129,1182),(1191,1248),(1193,1260),(1202,1282),(2044,1797),(2046,1810),(2434,2038),(2437,2049),(2439,2056),(2451,2061),(2468,2068),(2478,2073)].take n))
noncomputable def DU:List bW->BT->Nat->BT
 | [],t,_=>t
 |o::l,t,n=>DU l (t.ins n o) (n+1)
noncomputable def lW:List (List bW)->BT->Nat->BT
 | [],t,_=>t
 |l::ls,t,n=>lW ls (DU l t n) (n+l.length)
noncomputable def m7:List (Nat×(bW->bW))->BT->BT
 | [],t=>t
 |x::l,t=>m7 l (t.set x.1 x.2)
noncomputable def TC (P:cv):BT:=DU [boot_o_0 P,boot_o_1 P,boot_o_2 P,boot_o_3 P,boot_o_4 P,boot_o_5 P,boot_o_6 P,boot_o_7 P,boot_o_8 P,boot_o_9 P,boot_o_10 P] .nil 0
noncomputable def acz (P:cv):List (List bW):= [[d2 [],hu [],hb .none "<module>" "<module>" 182 185 1 0 0 ac [.none,.none] 11,obs (.type "frame") af (.plain) #[ab (.ref 13),ab (.ref 3),ab (.ref 3),af,ab (a6 "__main__" 164),af,ab (.ref 0)]]]
noncomputable def nE (P:cv):BT:=lW (acz P) (TC P) 11
noncomputable def UL (P:cv):List (Nat×(bW->bW)):= [(2,λ_=>ap .none af (.dict [bU P (a6 "type.__subclasses__.Exception.0" 276) (kI 67 0),bU P (a6 "type.__subclasses__.Exception.n" 277) (kI 1 0)].toArray 2)),(3,dP P jL 18),(12,lc 9)]
noncomputable def acp (P:cv):List (List bW):= [lS P abQ 0 15 187,
 dx P EQ 2 22 196 51 246 [] (v:=ac) (w:=pj) (g:=λf=>fz f 0 29 [208]++ [f 1 36 223 [kI 4 221,kI 75 222]]++fz f 2 44 [237]),
 dx P EQ 3 58 260 65 272 [] (x:=aa) (u:= [95]) (w:= [("__weakref__",[.builtin "ExceptionGroup.__weakref__",.none])]),
 dx P EQ 4 71 280 93 312 [67] (x:=aa) (g:=λf=> [f 0 78 292 [.none,.none,.none,.none,.none]]++fz f 1 86 [304]),
 dx P jL 6 98 323 120 351 [] (u:= [144,176,196]) (w:=pj) (g:=λf=> [f 0 105 335 [.none,.none]]++fz f 1 113 [344]),
 dx P jL 7 127 361 142 383 [122] (u:= [164]) (g:=λf=> [f 0 134 373 [.none,.none]]),
 dx P jL 8 147 390 162 415 [144,122] (g:=λf=> [f 0 154 402 [.none,.none,.none]]),
 dx P jL 9 167 425 174 437 [122],
 dx P jL 10 179 441 194 463 [122] (g:=λf=> [f 0 186 453 [.none,.none,.none]])]
noncomputable def uc (P:cv):BT:=lW (acp P) (m7 (UL P) (nE P)) 15
noncomputable def UM (P:cv):List (Nat×(bW->bW)):= [(3,dP P sX 29),(12,lc 20),(67,km [95,340]),(122,km [144,176,196,208,228,248]),(144,km [164,260,280]),(164,km [292,316]),(176,km [304,328])]
noncomputable def acq (P:cv):List (List bW):= [dx P jL 11 199 470 206 482 [122],
 dx P jL 12 211 486 226 510 [122] (g:=λf=> [f 0 218 498 [.none,.none,.none,.none,.none]]),
 dx P jL 13 231 519 246 541 [122] (g:=λf=> [f 0 238 531 [.none,.none,.none]]),
 dx P jL 14 251 548 258 560 [144,122],
 dx P jL 15 263 564 278 590 [144,122] (g:=λf=> [f 0 270 576 [.none,.none,.none]]),
 dx P jL 16 283 601 290 613 [164,144,122],
 dx P jL 17 295 617 302 629 [176,122],
 dx P jL 18 307 633 314 645 [164,144,122],
 dx P jL 19 319 649 326 661 [176,122],
 dx P sX 21 331 667 338 679 [67] (x:=aa),
 dx P sX 22 343 683 357 710 [] (v:=ac) (w:=pj) (g:=λf=>fz f 0 350 [695])]
noncomputable def r1 (P:cv):BT:=lW (acq P) (m7 (UM P) (uc P)) 199
noncomputable def UN (P:cv):List (Nat×(bW->bW)):= [(3,dP P sX 30),(12,lc 21)]
noncomputable def acr (P:cv):List (List bW):= [dx P sX 23 364 726 797 1341 [] (v:=ac) (w:=pj) (g:=λf=> [([k4 [bU P (a6 "!" 738) (a6 "!" 739),bU P (a6 "tag:yaml.org,2002:" 740) (a6 "!!" 741)]],[gI P "DEFAULT_TAG_PREFIXES" 744 371],[]),f 1 372 745 [.none,.none,.none,.none,.none]]++fz f 2 380 [758,765,773,781]++ [f 6 408 791 [.bool ac,.bool ac]]++fz f 7 416 [800,807,814]++ [f 10 437 821 [.bool ac]]++fz f 11 445 [836,843]++ [f 13 459 850 [.bool ac,.bool ac,.bool ac,.bool ac]]++fz f 14 467 [861,868,875,882,889,896,903,910,917,924,931,939]++ [f 26 551 946 [.bool ac]]++fz f 27 559 [954,961]++ [f 29 573 968 [.bool ac]]++fz f 30 581 [976,983,990,997,1004,1012,1020,1028,1036,1043,1051,1061,1070,1083,1101,1110,1140,1147,1154]++ [f 49 714 1161 [.bool ac,.bool ac]]++fz f 50 722 [1173]++ [f 51 729 1182 [.none]]++fz f 52 737 [1190,1199]++ [f 54 751 1209 [.bool aa],([k4 [bU P (a6 "\x00" 1225) (a6 "0" 1226),bU P (a6 "\x07" 1227) (a6 "a" 1228),bU P (a6 "\x08" 1229) (a6 "b" 1230),bU P (a6 "\t" 1231) (a6 "t" 1232),bU P (a6 "\n" 1233) (a6 "n" 1234),bU P (a6 "\x0b" 1235) (a6 "v" 1236),bU P (a6 "\x0c" 1237) (a6 "f" 1238),bU P (a6 "\x0d" 1239) (a6 "r" 1240),bU P (a6 "\x1b" 1241) (a6 "e" 1242),bU P (a6 "\"" 1243) (a6 "\"" 1244),bU P (a6 "\\" 1245) (a6 "\\" 1246),bU P (a6 "" 1247) (a6 "N" 1248),bU P (a6 " " 1249) (a6 "_" 1250),bU P (a6 " " 1251) (a6 "L" 1252),bU P (a6 " " 1253) (a6 "P" 1254)]],[gI P "ESCAPE_REPLACEMENTS" 1270 759],[]),f 56 760 1271 [.bool aa]]++fz f 57 768 [1284,1293,1310]++ [f 60 789 1325 [.bool aa]])]
noncomputable def r2 (P:cv):BT:=lW (acr P) (m7 (UN P) (r1 P)) 364
noncomputable def UO (P:cv):List (Nat×(bW->bW)):= [(3,dP P hh 41),(12,lc 32)]
noncomputable def acs (P:cv):List (List bW):= [dx P sX 24 804 1377 832 1411 [] (v:=ac) (w:=pj) (g:=λf=>fz f 0 811 [1389,1396,1404]),
 dx P hh 26 839 1422 853 1443 [] (u:= [876,888,900,920,932,944,956,968,980]) (w:=pj) (g:=λf=>fz f 0 846 [1434]),
 dx P hh 27 860 1453 874 1478 [855] (g:=λf=> [hM P "<directive>" 1465]++fz f 1 867 [1467]),
 dx P hh 28 879 1486 886 1500 [855] (g:=λ_=> [hM P "<document start>" 1498]),
 dx P hh 29 891 1504 898 1518 [855] (g:=λ_=> [hM P "<document end>" 1516]),
 dx P hh 30 903 1522 918 1546 [855] (g:=λf=> [hM P "<stream start>" 1534,f 1 910 1536 [.none,.none,.none]]),
 dx P hh 31 923 1553 930 1567 [855] (g:=λ_=> [hM P "<stream end>" 1565]),
 dx P hh 32 935 1571 942 1585 [855] (g:=λ_=> [hM P "<block sequence start>" 1583]),
 dx P hh 33 947 1589 954 1603 [855] (g:=λ_=> [hM P "<block mapping start>" 1601]),
 dx P hh 34 959 1607 966 1621 [855] (g:=λ_=> [hM P "<block end>" 1619]),
 dx P hh 35 971 1625 978 1639 [855] (g:=λ_=> [hM P "[" 1637])]
noncomputable def ud (P:cv):BT:=lW (acs P) (m7 (UO P) (r2 P)) 804
noncomputable def UP (P:cv):List (Nat×(bW->bW)):= [(3,dP P zp 52),(12,lc 43),(855,km [876,888,900,920,932,944,956,968,980,992,1004,1016,1028,1040,1052,1064,1083,1102,1121,1141])]
noncomputable def acu (P:cv):List (List bW):= [dx P hh 36 983 1643 990 1657 [855] (g:=λ_=> [hM P "{" 1655]),
 dx P hh 37 995 1661 1002 1675 [855] (g:=λ_=> [hM P "]" 1673]),
 dx P hh 38 1007 1679 1014 1693 [855] (g:=λ_=> [hM P "}" 1691]),
 dx P hh 39 1019 1697 1026 1711 [855] (g:=λ_=> [hM P "?" 1709]),
 dx P hh 40 1031 1715 1038 1729 [855] (g:=λ_=> [hM P ":" 1727]),
 dx P hh 41 1043 1733 1050 1747 [855] (g:=λ_=> [hM P "-" 1745]),
 dx P hh 42 1055 1751 1062 1765 [855] (g:=λ_=> [hM P "," 1763]),
 dx P hh 43 1067 1769 1081 1793 [855] (g:=λf=> [hM P "<alias>" 1781]++fz f 1 1074 [1783]),
 dx P hh 44 1086 1800 1100 1824 [855] (g:=λf=> [hM P "<anchor>" 1812]++fz f 1 1093 [1814]),
 dx P hh 45 1105 1831 1119 1855 [855] (g:=λf=> [hM P "<tag>" 1843]++fz f 1 1112 [1845]),
 dx P hh 46 1124 1862 1139 1888 [855] (g:=λf=> [hM P "<scalar>" 1874,f 1 1131 1876 [.none]])]
noncomputable def ue (P:cv):BT:=lW (acu P) (m7 (UP P) (ud P)) 983
noncomputable def UQ (P:cv):List (Nat×(bW->bW)):= [(3,dP P vB 57),(12,lc 48),(67,km [95,340,1167]),(95,km [1252])]
noncomputable def acv (P:cv):List (List bW):= [dx P zp 48 1144 1899 1165 1930 [67] (x:=aa) (g:=λf=>fz f 0 1151 [1911,1923]),
 lS P zp 49 1170 1939,
 dx P zp 50 1177 1946 1236 2020 [] (w:=pj) (g:=λf=>fz f 0 1184 [1958]++ [f 1 1191 1967 [kI 0 1966],f 2 1199 1976 [kI 1 1975],f 3 1207 1985 [kI 1 1984]]++fz f 4 1215 [1994,2001,2012]),
 dx P vB 52 1243 2042 1250 2054 [95,67] (x:=aa),
 dx P vB 53 1255 2058 1269 2083 [] (v:=ac) (w:=pj) (g:=λf=>fz f 0 1262 [2070])]
noncomputable def r3 (P:cv):BT:=lW (acv P) (m7 (UQ P) (ue P)) 1144
noncomputable def UR (P:cv):List (Nat×(bW->bW)):= [(3,dP P vB 58),(12,lc 49),(1238,km [1789])]
noncomputable def acw (P:cv):List (List bW):= [dx P vB 54 1276 2097 1787 2840 [1238] (z:=aa) (g:=λf=> [([d2 [.ref 1279],d2 [a6 "__class__" 2112],hu [],d2 (vH ["self","stream"] 2113),d2 [],ap .none af (.func (qK (su 54 0) "__init__" "Scanner.__init__" 0 [] .none .none .none .none)),hb (.ref 1289) "__init__" "Scanner.__init__" 2109 2115 1204 2 3 aa [.ref 1287,.ref 1288] 1285,ap (.type "function") af (.func (qK (su 54 0) "__init__" "Scanner.__init__" 3 [("__class__",1279)] .none (a6 "yaml.scanner" 2040) (.ref 1290) (.ref 1284))),d2 []],[gI P "__init__" 2117 1291],[.int 1204 0,.int 4 0,.ref 1290]),f 1 1293 2118 [.ref 1292]]++fz f 2 1301 [2126,2133,2140,2147,2155,2165,2174,2184,2192,2201,2209,2217,2225,2232,2239,2246,2256,2263,2270,2280,2287,2294,2304,2313,2323,2333,2344,2351,2358,2365,2372,2379,2387,2394,2401,2409,2416,2423,2430,2437,2444,2451,2458,2466,2474,2485,2496,2506,2517,2527,2537,2547,2556,2571,2586,2607,2618,2627,2637,2647]++ [([k4 [bU P (a6 "0" 2660) (a6 "\x00" 2661),bU P (a6 "a" 2663) (a6 "\x07" 2664),bU P (a6 "b" 2666) (a6 "\x08" 2667),bU P (a6 "t" 2669) (a6 "\t" 2670),bU P (a6 "\t" 2672) (a6 "\t" 2673),bU P (a6 "n" 2675) (a6 "\n" 2676),bU P (a6 "v" 2678) (a6 "\x0b" 2679),bU P (a6 "f" 2681) (a6 "\x0c" 2682),bU P (a6 "r" 2684) (a6 "\x0d" 2685),bU P (a6 "e" 2687) (a6 "\x1b" 2688),bU P (a6 " " 2690) (a6 " " 2691),bU P (a6 "\"" 2693) (a6 "\"" 2694),bU P (a6 "\\" 2696) (a6 "\\" 2697),bU P (a6 "/" 2699) (a6 "/" 2700),bU P (a6 "N" 2702) (a6 "" 2703),bU P (a6 "_" 2705) (a6 " " 2706),bU P (a6 "L" 2708) (a6 " " 2709),bU P (a6 "P" 2711) (a6 " " 2712)],k4 [bU P (a6 "P" 2711) (a6 " " 2712)],k4 [bU P (a6 "x" 2715) (kI 2 2716),bU P (a6 "u" 2717) (kI 4 2718),bU P (a6 "U" 2719) (kI 8 2720)]],[gI P "ESCAPE_REPLACEMENTS" 2714 1721,gI P "ESCAPE_CODES" 2724 1723],[])]++fz f 64 1724 [2725,2739,2754,2765,2779,2795,2807,2819,2832])]
noncomputable def qi (P:cv):BT:=lW (acw P) (m7 (UR P) (r3 P)) 1276
noncomputable def US (P:cv):List (Nat×(bW->bW)):= [(3,dP P ER 60),(12,lc 51),(95,km [1252,1801]),(1789,km [2029])]
noncomputable def acx (P:cv):List (List bW):= [dx P ER 56 1792 2855 1799 2867 [95,67] (x:=aa),
 dx P ER 57 1804 2871 2027 3163 [1789,1238] (z:=aa) (g:=λf=> [([k4 [bU P (a6 "!" 2883) (a6 "!" 2884),bU P (a6 "!!" 2885) (a6 "tag:yaml.org,2002:" 2886)],d2 [.ref 1807],d2 [a6 "__class__" 2893],hu [],d2 (vH ["self","stream"] 2894),d2 [],ap .none af (.func (qK (su 57 1) "__init__" "Parser.__init__" 0 [] .none .none .none .none)),hb (.ref 1818) "__init__" "Parser.__init__" 2890 2896 2049 2 3 aa [.ref 1816,.ref 1817] 1814,ap (.type "function") af (.func (qK (su 57 1) "__init__" "Parser.__init__" 3 [("__class__",1807)] .none (a6 "yaml.parser" 2853) (.ref 1819) (.ref 1813)))],[gI P "DEFAULT_TAGS" 2889 1812,gI P "__init__" 2898 1820],[.int 2049 0,.int 4 0,.ref 1819])]++fz f 2 1821 [2899,2906,2913,2921,2930,2941,2954,2966,2974,2988,2995,3002]++ [f 14 1905 3009 [.bool ac,.bool ac]]++fz f 15 1913 [3029,3037,3046,3055,3063,3072,3080]++ [f 22 1962 3088 [.bool ac]]++fz f 23 1970 [3098,3106,3114,3122]++ [f 27 1998 3130 [.bool ac]]++fz f 28 2006 [3140,3148,3155])]
noncomputable def qj (P:cv):BT:=lW (acx P) (m7 (US P) (qi P)) 1792
noncomputable def UT (P:cv):List (Nat×(bW->bW)):= [(3,dP P vC 68),(12,lc 57)]
noncomputable def acy (P:cv):List (List bW):= [[obs (.type "list") af (.seq [a6 "a" 3176,a6 "\n" 3177,a6 " b" 3178,a6 "c d" 3179,a6 "\n\n" 3180,a6 "---" 3181,a6 "   e" 3182,a6 "#" 3183,a6 "\n" 3184,a6 "f: g" 3185,a6 "..." 3186,a6 "|" 3187,a6 " " 3188,a6 "é" 3189].toArray 0) #[]],
 lS P vC 60 2033 3191,
 [k4 [bU P (a6 "!e!" 3197) (a6 "!x" 3198)],k4 [bU P (a6 "!" 3200) (a6 "!y" 3201),bU P (a6 "!e!" 3202) (a6 "t" 3203)],k4 [bU P (a6 "!e!" 3206) (a6 "!x" 3207)],obs (.type "list") af (.seq [.none,.none,.ref 2040,.ref 2041,.ref 2042].toArray 0) #[]],
 lS P vC 62 2044 3210,
 lS P vC 63 2051 3217,
 [d2 [],hu [],ap .none af (.func (ys "_law_text" 64 0 .none .none)),hb (.ref 2060) "_law_text" "_law_text" 3227 3230 2451 5 3 aa [.none,.none] 2058,ap (.type "function") af (.func (ys "_law_text" 64 3 (a6 "law_qm0007_07" 3174) (.ref 2061)))],
 lS P vC 65 2063 3233,
 [d2 [],hu [],ap .none af (.func (ys "law" 66 0 .none .none)),hb (.ref 2072) "law" "law" 3240 3243 2478 1 3 aa [.none,.none] 2070,ap (.type "function") af (.func (ys "law" 66 3 (a6 "law_qm0007_07" 3174) (.ref 2073)))]]
noncomputable def i0 (P:cv):BT:=lW (acy P) (m7 (UT P) (qj P)) 2032
noncomputable def rE:List cy:=SJ cA
noncomputable def hO:dm:={scope:=cA.main.scope,locals:=jx,globals:=jx,cells:= [],code:= .ref 13,frame:=ab 14}
noncomputable def de:Code:= .body rE hO
noncomputable def c7:er:=⟨0,0,0,0⟩
noncomputable def d8:String:= "special-get-raises"
noncomputable abbrev en:=Option (nv×t2×Code×er)
noncomputable def dt (T:cv->BT) (n cp:Nat) (w:ba) (os:cc):t2:=⟨T w.params,n,{}, #[],oP,cp,os⟩
noncomputable def goP (pr:cP) (e:dm) (c:Code) (p:er) (w:ba) (l:List cy) (N:Nat) (s:t2) (q:er):en:=segRunT qf pr w 11 (ab (.ref 6)) 1 N s (piecesOf l e c q [rW p])
noncomputable def tgP (pr:cP) (w:ba) (s:az) (t:w5):Option (az×w5):=topGo qf pr w 11 (ab (.ref 6)) 12 s t
noncomputable def rhP (s:az) (c:Code) (p:er) (f:Frame):Option (az×w5):=ab (s,⟨denote qf c,c,p,[f]⟩)
noncomputable def bP (pr:cP) (w:ba) (s:t2) (l:List cy) (e:dm) (c:Code) (p:er):en:=segRunT qf pr w 11 (ab (.ref 6)) 1 1 s (blockOf l e c p [rW p])
noncomputable def fP (pr:cP) (w:ba) (s:az) (c:Code) (q p:er):Option az:=xd qf pr w 11 (ab (.ref 6)) 3 s ⟨doneF .next,c,q,[rW p]⟩
noncomputable def go (w:ba) (l:List cy) (N:Nat) (s:t2) (q:er):en:=goP cA hO de c7 w l N s q
noncomputable def aa2 (w:ba) (os:cc):Option (az×w5):=tgP cA w ⟨oQ w.params, #[],oP,Bp,os⟩ (topStub cA)
noncomputable def adW (w:ba) (os:cc):Option (az×w5):=rhP (dt nE 15 187 w os).abs de c7 (rW c7)
noncomputable def aaY (w:ba) (os:cc):en:=bP cA w (dt nE 15 187 w os) rE hO de c7
noncomputable def adS (w:ba) (os:cc):en:=ab (.next,dt nE 15 187 w os,de,c7)
noncomputable def jy:List cy:=rE.take 11
noncomputable def hW:List cy:=rE.drop 11
noncomputable def aaL (w:ba) (os:cc):en:=go w jy 2109 (dt nE 15 187 w os) c7
noncomputable def adF (w:ba) (os:cc):en:=ab (.next,dt uc 199 470 w os,de,⟨93,0,98,32⟩)
noncomputable def IR:List cy:=hW.take 12
noncomputable def pZ:List cy:=hW.drop 12
noncomputable def aaM (w:ba) (os:cc):en:=go w IR 2642 (dt uc 199 470 w os) ⟨93,0,98,32⟩
noncomputable def adG (w:ba) (os:cc):en:=ab (.next,dt r1 364 726 w os,de,⟨138,0,148,38⟩)
noncomputable def BP:List cy:=pZ.take 1
noncomputable def wI:List cy:=pZ.drop 1
noncomputable def Eg (w:ba) (os:cc):en:=go w BP 2494 (dt r1 364 726 w os) ⟨138,0,148,38⟩
noncomputable def Fs (w:ba) (os:cc):en:=ab (.next,dt r2 804 1377 w os,de,⟨149,0,1022,20⟩)
noncomputable def aaN (w:ba) (os:cc):en:=Eg (w.withFollow d8 ac) os
noncomputable def adH (w:ba) (os:cc):en:=Fs (w.withFollow d8 ac) os
noncomputable def aaO (w:ba) (os:cc):en:=Eg (w.withFollow d8 aa) os
noncomputable def adI (w:ba) (os:cc):en:=Fs (w.withFollow d8 aa) os
noncomputable def IS:List cy:=wI.take 12
noncomputable def wJ:List cy:=wI.drop 12
noncomputable def aaP (w:ba) (os:cc):en:=go w IS 2628 (dt r2 804 1377 w os) ⟨149,0,1022,20⟩
noncomputable def adJ (w:ba) (os:cc):en:=ab (.next,dt ud 983 1643 w os,de,⟨1066,0,1067,12⟩)
noncomputable def IT:List cy:=wJ.take 12
noncomputable def wK:List cy:=wJ.drop 12
noncomputable def aaQ (w:ba) (os:cc):en:=go w IT 2636 (dt ud 983 1643 w os) ⟨1066,0,1067,12⟩
noncomputable def adK (w:ba) (os:cc):en:=ab (.next,dt ue 1144 1899 w os,de,⟨1112,0,1112,8⟩)
noncomputable def IU:List cy:=wK.take 6
noncomputable def Hn:List cy:=wK.drop 6
noncomputable def aaR (w:ba) (os:cc):en:=go w IU 1245 (dt ue 1144 1899 w os) ⟨1112,0,1112,8⟩
noncomputable def adL (w:ba) (os:cc):en:=ab (.next,dt r3 1276 2097 w os,de,⟨1193,0,1201,24⟩)
noncomputable def BQ:List cy:=Hn.take 1
noncomputable def Ho:List cy:=Hn.drop 1
noncomputable def Eh (w:ba) (os:cc):en:=go w BQ 2981 (dt r3 1276 2097 w os) ⟨1193,0,1201,24⟩
noncomputable def Ft (w:ba) (os:cc):en:=ab (.next,dt qi 1792 2853 w os,de,⟨1202,0,2042,17⟩)
noncomputable def aaS (w:ba) (os:cc):en:=Eh (w.withFollow d8 ac) os
noncomputable def adM (w:ba) (os:cc):en:=Ft (w.withFollow d8 ac) os
noncomputable def aaT (w:ba) (os:cc):en:=Eh (w.withFollow d8 aa) os
noncomputable def adN (w:ba) (os:cc):en:=Ft (w.withFollow d8 aa) os
noncomputable def BR:List cy:=Ho.take 3
noncomputable def Hp:List cy:=Ho.drop 3
noncomputable def Ei (w:ba) (os:cc):en:=go w BR 1544 (dt qi 1792 2853 w os) ⟨1202,0,2042,17⟩
noncomputable def Fu (w:ba) (os:cc):en:=ab (.next,dt qj 2032 3174 w os,de,⟨2046,0,2431,69⟩)
noncomputable def aaU (w:ba) (os:cc):en:=Ei (w.withFollow d8 ac) os
noncomputable def adO (w:ba) (os:cc):en:=Fu (w.withFollow d8 ac) os
noncomputable def aaV (w:ba) (os:cc):en:=Ei (w.withFollow d8 aa) os
noncomputable def adP (w:ba) (os:cc):en:=Fu (w.withFollow d8 aa) os
noncomputable def BS:List cy:=Hp.take 9
noncomputable def Hq:List cy:=Hp.drop 9
noncomputable def Ej (w:ba) (os:cc):en:=go w BS 308 (dt qj 2032 3174 w os) ⟨2046,0,2431,69⟩
noncomputable def Fv (w:ba) (os:cc):en:=ab (.next,dt i0 2075 3246 w os,de,⟨2478,0,2532,21⟩)
noncomputable def aaW (w:ba) (os:cc):en:=Ej (w.withFollow d8 ac) os
noncomputable def adQ (w:ba) (os:cc):en:=Fv (w.withFollow d8 ac) os
noncomputable def aaX (w:ba) (os:cc):en:=Ej (w.withFollow d8 aa) os
noncomputable def adR (w:ba) (os:cc):en:=Fv (w.withFollow d8 aa) os
noncomputable def NC (w:ba) (os:cc):Option az:=fP cA w (dt i0 2075 3246 w os).abs de ⟨2478,0,2532,21⟩ c7
noncomputable def Pw (w:ba) (os:cc):Option az:=ab (dt i0 2075 3246 w os).abs
lay_quick Hd.goP Hd.tgP Hd.rhP Hd.bP Hd.fP
theorem adz:(λ(w:ba) (os:cc)=>PySem.W.Fast.tw619501993275344166 cA w ⟨oQ w.params, #[],oP,Bp,os⟩ (topStub cA))=λ(w:ba) (os:cc)=>PySem.W.Fast.tw12868069056937615806 (dt nE 15 187 w os).abs de c7 (rW c7):=by kernel_rfl
theorem Wh:aa2=adW:=by
 have h:=adz
 rw[<-PySem.W.Fast.te619501993275344166,<-PySem.W.Fast.te12868069056937615806] at h
 exact h
theorem adx:(λ(w:ba) (os:cc)=>PySem.W.Fast.tw9636917575800995740 cA w (dt nE 15 187 w os) rE hO de c7)=λ(w:ba) (os:cc)=>ab (.next,dt nE 15 187 w os,de,c7):=by kernel_rfl
theorem Wa:aaY=adS:=by
 have h:=adx
 rw[<-PySem.W.Fast.te9636917575800995740] at h
 exact h
theorem ady:(λ(w:ba) (os:cc)=>PySem.W.Fast.tw10288856822799916893 cA w (dt i0 2075 3246 w os).abs de ⟨2478,0,2532,21⟩ c7)=λ(w:ba) (os:cc)=>ab (dt i0 2075 3246 w os).abs:=by kernel_rfl
theorem Wb:NC=Pw:=by
 have h:=ady
 rw[<-PySem.W.Fast.te10288856822799916893] at h
 exact h
theorem zP:(λ(w:ba) (os:cc)=>PySem.W.Fast.tw17372073306025509499 cA hO de c7 w jy 2109 (dt nE 15 187 w os) c7)=λ(w:ba) (os:cc)=>ab (.next,dt uc 199 470 w os,de,⟨93,0,98,32⟩):=by kernel_rfl
theorem e1:aaL=adF:=by
 have h:=zP
 rw[<-PySem.W.Fast.te17372073306025509499] at h
 exact h
theorem jN:(λ(w:ba) (os:cc)=>PySem.W.Fast.tw17372073306025509499 cA hO de c7 w IR 2642 (dt uc 199 470 w os) ⟨93,0,98,32⟩)=λ(w:ba) (os:cc)=>ab (.next,dt r1 364 726 w os,de,⟨138,0,148,38⟩):=by kernel_rfl
theorem e2:aaM=adG:=by
 have h:=jN
 rw[<-PySem.W.Fast.te17372073306025509499] at h
 exact h
theorem adm:(λ(w:ba) (os:cc)=>PySem.W.Fast.tw17372073306025509499 cA hO de c7 (w.withFollow d8 ac) BP 2494 (dt r1 364 726 (w.withFollow d8 ac) os) ⟨138,0,148,38⟩)=λ(w:ba) (os:cc)=>ab (.next,dt r2 804 1377 (w.withFollow d8 ac) os,de,⟨149,0,1022,20⟩):=by kernel_rfl
theorem V2:aaN=adH:=by
 have h:=adm
 rw[<-PySem.W.Fast.te17372073306025509499] at h
 exact h
theorem adn:(λ(w:ba) (os:cc)=>PySem.W.Fast.tw17372073306025509499 cA hO de c7 (w.withFollow d8 aa) BP 2494 (dt r1 364 726 (w.withFollow d8 aa) os) ⟨138,0,148,38⟩)=λ(w:ba) (os:cc)=>ab (.next,dt r2 804 1377 (w.withFollow d8 aa) os,de,⟨149,0,1022,20⟩):=by kernel_rfl
theorem V3:aaO=adI:=by
 have h:=adn
 rw[<-PySem.W.Fast.te17372073306025509499] at h
 exact h
theorem zQ:(λ(w:ba) (os:cc)=>PySem.W.Fast.tw17372073306025509499 cA hO de c7 w IS 2628 (dt r2 804 1377 w os) ⟨149,0,1022,20⟩)=λ(w:ba) (os:cc)=>ab (.next,dt ud 983 1643 w os,de,⟨1066,0,1067,12⟩):=by kernel_rfl
theorem nR:aaP=adJ:=by
 have h:=zQ
 rw[<-PySem.W.Fast.te17372073306025509499] at h
 exact h
theorem ado:(λ(w:ba) (os:cc)=>PySem.W.Fast.tw17372073306025509499 cA hO de c7 w IT 2636 (dt ud 983 1643 w os) ⟨1066,0,1067,12⟩)=λ(w:ba) (os:cc)=>ab (.next,dt ue 1144 1899 w os,de,⟨1112,0,1112,8⟩):=by kernel_rfl
theorem nS:aaQ=adK:=by
 have h:=ado
 rw[<-PySem.W.Fast.te17372073306025509499] at h
 exact h
theorem adp:(λ(w:ba) (os:cc)=>PySem.W.Fast.tw17372073306025509499 cA hO de c7 w IU 1245 (dt ue 1144 1899 w os) ⟨1112,0,1112,8⟩)=λ(w:ba) (os:cc)=>ab (.next,dt r3 1276 2097 w os,de,⟨1193,0,1201,24⟩):=by kernel_rfl
theorem qD:aaR=adL:=by
 have h:=adp
 rw[<-PySem.W.Fast.te17372073306025509499] at h
 exact h
theorem adq:(λ(w:ba) (os:cc)=>PySem.W.Fast.tw17372073306025509499 cA hO de c7 (w.withFollow d8 ac) BQ 2981 (dt r3 1276 2097 (w.withFollow d8 ac) os) ⟨1193,0,1201,24⟩)=λ(w:ba) (os:cc)=>ab (.next,dt qi 1792 2853 (w.withFollow d8 ac) os,de,⟨1202,0,2042,17⟩):=by kernel_rfl
theorem V4:aaS=adM:=by
 have h:=adq
 rw[<-PySem.W.Fast.te17372073306025509499] at h
 exact h
theorem ads:(λ(w:ba) (os:cc)=>PySem.W.Fast.tw17372073306025509499 cA hO de c7 (w.withFollow d8 aa) BQ 2981 (dt r3 1276 2097 (w.withFollow d8 aa) os) ⟨1193,0,1201,24⟩)=λ(w:ba) (os:cc)=>ab (.next,dt qi 1792 2853 (w.withFollow d8 aa) os,de,⟨1202,0,2042,17⟩):=by kernel_rfl
theorem V5:aaT=adN:=by
 have h:=ads
 rw[<-PySem.W.Fast.te17372073306025509499] at h
 exact h
theorem adt:(λ(w:ba) (os:cc)=>PySem.W.Fast.tw17372073306025509499 cA hO de c7 (w.withFollow d8 ac) BR 1544 (dt qi 1792 2853 (w.withFollow d8 ac) os) ⟨1202,0,2042,17⟩)=λ(w:ba) (os:cc)=>ab (.next,dt qj 2032 3174 (w.withFollow d8 ac) os,de,⟨2046,0,2431,69⟩):=by kernel_rfl
theorem V6:aaU=adO:=by
 have h:=adt
 rw[<-PySem.W.Fast.te17372073306025509499] at h
 exact h
theorem adu:(λ(w:ba) (os:cc)=>PySem.W.Fast.tw17372073306025509499 cA hO de c7 (w.withFollow d8 aa) BR 1544 (dt qi 1792 2853 (w.withFollow d8 aa) os) ⟨1202,0,2042,17⟩)=λ(w:ba) (os:cc)=>ab (.next,dt qj 2032 3174 (w.withFollow d8 aa) os,de,⟨2046,0,2431,69⟩):=by kernel_rfl
theorem V7:aaV=adP:=by
 have h:=adu
 rw[<-PySem.W.Fast.te17372073306025509499] at h
 exact h
theorem adv:(λ(w:ba) (os:cc)=>PySem.W.Fast.tw17372073306025509499 cA hO de c7 (w.withFollow d8 ac) BS 308 (dt qj 2032 3174 (w.withFollow d8 ac) os) ⟨2046,0,2431,69⟩)=λ(w:ba) (os:cc)=>ab (.next,dt i0 2075 3246 (w.withFollow d8 ac) os,de,⟨2478,0,2532,21⟩):=by kernel_rfl
theorem V8:aaW=adQ:=by
 have h:=adv
 rw[<-PySem.W.Fast.te17372073306025509499] at h
 exact h
theorem adw:(λ(w:ba) (os:cc)=>PySem.W.Fast.tw17372073306025509499 cA hO de c7 (w.withFollow d8 aa) BS 308 (dt qj 2032 3174 (w.withFollow d8 aa) os) ⟨2046,0,2431,69⟩)=λ(w:ba) (os:cc)=>ab (.next,dt i0 2075 3246 (w.withFollow d8 aa) os,de,⟨2478,0,2532,21⟩):=by kernel_rfl
theorem V9:aaX=adR:=by
 have h:=adw
 rw[<-PySem.W.Fast.te17372073306025509499] at h
 exact h
theorem uv {f g:ba->cc->en} (h:f=g) (w:ba) (os:cc):f w os=g w os:=by rw[h]
theorem xX {f g:ba->cc->en} (aq:(λ(w:ba) (os:cc)=>f (w.withFollow d8 ac) os)=λ(w:ba) (os:cc)=>g (w.withFollow d8 ac) os) (aC:(λ(w:ba) (os:cc)=>f (w.withFollow d8 aa) os)=λ(w:ba) (os:cc)=>g (w.withFollow d8 aa) os) (w:ba) (os:cc):f w os=g w os:=
 byRow2 d8 (P:=λw=>f w os=g w os) (λw=>congrFun (congrFun aq w) os) (λw=>congrFun (congrFun aC w) os) w
theorem od {w:ba} {b:List cy} {k n N:Nat} {s s':t2} {r:az} {pos q8:er} (h:go w (b.take k) n s pos=ab (.next,s',de,q8))
  (aS:xd qf cA w 11 (ab (.ref 6)) N s'.abs (restOf (b.drop k) hO de q8 [rW c7])=ab r):xd qf cA w 11 (ab (.ref 6)) (n+N) s.abs (restOf b hO de pos [rW c7])=ab r:=by
 have:=piece_app (segRun_of h) aS
 rwa [p4] at this
noncomputable def e4 (P:cv):cu:=absHeap (i0 P) 2075 {}
theorem Qb (T:cv->BT) (n cp:Nat) (w:ba) (os:cc):(dt T n cp w os).abs=⟨absHeap (T w.params) n {}, #[],oP,cp,os⟩:=rfl
theorem Ri:Hq= []:=by kernel_rfl
theorem adZ (w:ba) (os:cc):xd qf cA w 11 (ab (.ref 6)) (12+(1+(2109+(2642+(2494+(2628+(2636+(1245+(2981+(1544+(308+3))))))))))) ⟨oQ w.params, #[],oP,Bp,os⟩ (topStub cA)=
  ab ⟨e4 w.params, #[],oP,3246,os⟩:=by
 refine go_top (congrFun (congrFun Wh w) os) ?_
 refine piece_block (segRun_of (congrFun (congrFun Wa w) os)) ?_
 refine od (uv e1 w os) ?_
 refine od (uv e2 w os) ?_
 refine od (xX (f:=Eg) (g:=Fs) V2 V3 w os) ?_
 refine od (uv nR w os) ?_
 refine od (uv nS w os) ?_
 refine od (uv qD w os) ?_
 refine od (xX (f:=Eh) (g:=Ft) V4 V5 w os) ?_
 refine od (xX (f:=Ei) (g:=Fu) V6 V7 w os) ?_
 refine od (xX (f:=Ej) (g:=Fv) V8 V9 w os) ?_
 show xd _ _ _ _ _ _ _ (restOf Hq _ _ _ _)=_
 rw[Ri]
 have h:=congrFun (congrFun Wb w) os
 unfold NC Pw at h
 have h':=piece_nil (env:=hO) h
 rw[Qb] at h'
 rw[Qb]
 unfold e4
 exact h'
noncomputable def m4:cP:={cA with main:={cA.main with body:=rE.drop 66}}
noncomputable def zg:List a7:=(["_wall","Mark","YAMLError","MarkedYAMLError","Event","NodeEvent","CollectionStartEvent","CollectionEndEvent","StreamStartEvent","StreamEndEvent","DocumentStartEvent","DocumentEndEvent","AliasEvent","ScalarEvent","SequenceStartEvent","SequenceEndEvent","MappingStartEvent","MappingEndEvent","EmitterError","ScalarAnalysis","Emitter","Rows","Token","DirectiveToken","DocumentStartToken","DocumentEndToken","StreamStartToken","StreamEndToken","BlockSequenceStartToken","BlockMappingStartToken"]:List a7)++(["BlockEndToken","FlowSequenceStartToken","FlowMappingStartToken","FlowSequenceEndToken","FlowMappingEndToken","KeyToken","ValueToken","BlockEntryToken","FlowEntryToken","AliasToken","AnchorToken","TagToken","ScalarToken","ReaderError","_is_printable","Reader","ScannerError","SimpleKey","Scanner","ParserError","Parser","_law_PIECES","_law_ENDINGS","_law_HANDLES","_law_next","_law_lines","_law_text","_law_told"]:List a7)
noncomputable def B0 (s:az):Bool:=xlAt m4 [] s&&recOk [] s
noncomputable def P4 (w:ba) (os:cc):az:=⟨e4 w.params, #[],oP,3246,os⟩
noncomputable def aaZ (w:ba) (_:cc):=((oQ w.params).isNs mainGlobals&&(#[]:Array Ia).size==0,(oQ w.params).objs.size,(oQ w.params).nsMap mainGlobals "__annotations__")
noncomputable def adT (_:ba) (_:cc):Bool×Nat×Option ah:=(aa,11,ab (.ref 6))
noncomputable def aa0 (w:ba) (os:cc):=staticsOk (BE cA.main.body) (oQ w.params) (e4 w.params)&&namesBound cA (e4 w.params)&&gensDone (P4 w os)&&laidKept (oQ w.params) (e4 w.params)
noncomputable def adU (_:ba) (_:cc):Bool:=aa
noncomputable def aa1 (w:ba) (os:cc):=openSeen m4 zg (BE cA.main.body) B0 aa (P4 w os)
noncomputable def adV (_:ba) (_:cc):=openGood m4 zg
theorem Wd:aaZ=adT:=by kernel_rfl
theorem Wf:aa0=adU:=by kernel_rfl
theorem Wg:aa1=adV:=by kernel_rfl
theorem Uz:opening cA=plainProg cA.main.scope.names:=rfl
theorem Xb (s:az):fenceModules? cA s=ab s:=rfl
theorem aaJ:LeftO cA m4 zg B0 SE (λw=>e4 w.params) 36806:=by
 refine LeftO.of_pieces (H₀:=oQ) (H₁:=e4) (gs₀:= #[]) (gs₁:= #[]) (d₀:=oP) (d₁:=oP) (k₀:=Bp) (k₁:=3246) (m₀:=11) (ann:=ab (.ref 6))
  (M:=12+(1+(2109+(2642+(2494+(2628+(2636+(1245+(2981+(1544+(308+3))))))))))) ?_ ?_ adZ (by decide) ?_
 ·exact boot_open Uz (by decide) Xb
 ·intro w
  exact congrFun (congrFun Wd w) {}
 ·intro w
  funext os
  exact Prod.ext (congrFun (congrFun Wf w) os) (Prod.ext (congrFun (congrFun Wg w) os) rfl)
end Hd
namespace Q7
section
variable [WP]
def yx (T:Im) (as:List Nat):bY:=as.filterMap λa=> ((T.get a).bind alive).map λo=> (a,o)
theorem Dj {T:Im} {a:Nat} {o:bW}: ∀{as:List Nat},(yx T as).lookup a=ab o->a∈as/\(T.get a).bind alive=ab o
 | [],h=>by cases h
 |b::r,h=>by
  unfold yx at h
  rw[HH] at h
  cases e:(T.get b).bind alive with
  |none=>
   rw[e] at h
   have ai:=Dj (as:=r) h
   exact⟨eY _ ai.1,ai.2⟩
  |some x=>
   rw[e] at h
   simp only[Option.map_some] at h
   rw[mo] at h
   split at h
   ·rename_i q
    cases h
    have q:=eq_of_beq q
    subst q
    exact⟨eo ..,e⟩
   ·have ai:=Dj (as:=r) h
    exact⟨eY _ ai.1,ai.2⟩
theorem XC {T:Im} {n:Nat} {life:Life} {as:List Nat} (h:(as.all λa=>d4 a n)=aa):(yx T as).In (absHeap T n life):=by
 intro a o e
 obtain ⟨m,g⟩:=Dj e
 have lt:a<n:=cS (fL.mp h a m)
 obtain ⟨x,aH,cO⟩:=p8.mp g
 rw[abs_get lt aH,cO]
def rl (c:String) (o:bW):Option (List ah×Nat):=match o with
 | ⟨.type d,af,.seq vs n,⟨[]⟩⟩=>match decide (d=c) with
  |true=>ab (vs.toList,n)
  |false=>af
 |_=>af
theorem P0 {c:String} {o:bW} {vs:List ah} {n:Nat} (h:rl c o=ab (vs,n)):o={cls:= .type c,data:= .seq vs.toArray n}:=by
 unfold rl at h
 split at h
 ·split at h
  ·rename_i d dN m e
   have e:=of_decide_eq_true e
   cases h
   subst e
   rfl
  ·cases h
 ·cases h
def Dg (x:ah):aj->Bool
 | .none=>match x with
  | .none=>aa
  |_=>ac
 | .bool b=>match x with
  | .bool c=>decide (b=c)
  |_=>ac
 | .int i=>match x with
  | .int j _=>decide (i=j)
  |_=>ac
 | .str s=>match x with
  | .str y _=>seq (aK s) y&&gF s.length dZ
  |_=>ac
 | .st a=>match x with
  | .ref b=>bA a b
  |_=>ac
 |_=>ac
theorem L0 {F:bh} {v:aj} {x:ah} (h:Dg x v=aa):bq F v x:=by
 cases v with
 |none=>cases x with
  |none=>exact .none
  |_=>exact ck h
 |bool b=>cases x with
  |bool c=>rw[show b=c from of_decide_eq_true h];exact .bool _
  |_=>exact ck h
 |int i=>cases x with
  |int j t=>rw[show i=j from of_decide_eq_true h];exact .int _ _
  |_=>exact ck h
 |str s=>cases x with
  |str y t=>rw[<-seq_eq (b2 h).1];exact .str _ _ (cS (b2 h).2)
  |_=>exact ck h
 |st a=>cases x with
  |ref b=>rw[fg h];exact .st _
  |_=>exact ck h
 |_=>exact ck h
def yv:List aj->List ah->Bool
 | [],xs=>xs.isEmpty
 |v::l,xs=>match xs with
  |x::xs=>Dg x v&&yv l xs
  | []=>ac
theorem Xz {F:bh} {l:List aj}: ∀{xs:List ah},yv l xs=aa->ew F l xs:=by
 induction l with
 |nil=>exact λ{xs} h=>by cases xs with
  |nil=>exact .nil
  |cons _ _=>exact ck h
 |cons v l ai=>exact λ{xs} h=>by cases xs with
  |nil=>exact ck h
  |cons x xs=>exact .cons (L0 (b2 h).1) (ai (b2 h).2)
def FI (K:bY) (c:String) (l:List aj) (z:Nat->Bool):ah->Bool
 | .ref a=>match(K.lookup a).bind (rl c) with
  |some (vs,n)=>yv l vs&&z n
  |none=>ac
 |_=>ac
theorem P9 {K:bY} {base:cu} (X:K.In base) {c:String} {l:List aj} {z:Nat->Bool} {x:ah} (h:FI K c l z x=aa): ∃a vs n,x= .ref a/\base.get? a=ab {cls:= .type c,data:= .seq vs.toArray n}/\ew base.get? l vs/\z n=aa:=by
 cases x with
 |ref a=>
  have h:(match(K.lookup a).bind (rl c) with
   |some (vs,n)=>yv l vs&&z n
   |none=>ac)=aa:=h
  revert h
  cases e:(K.lookup a).bind (rl c) with
  |none=>exact ck
  |some p=>exact λh=>ak (p8.mp e) λo q=> ⟨a,p.1,p.2,rfl,by rw[X _ _ q.1,P0 q.2],Xz (b2 h).1,(b2 h).2⟩
 |_=>exact ck h
def qH (K:bY) (v:aj) (x:ah):Bool:=match v with
 | .tup l=>FI K "tuple" l (bA 0) x
 | .lst l=>FI K "list" l (λ_=>aa) x
 |v=>Dg x v
theorem yw {K:bY} {base:cu} (X:K.In base) {v:aj} {x:ah} (h:qH K v x=aa):bq base.get? v x:=by
 cases v with
 |tup l=>
  exact c5 (P9 X h) λa vs n q=>by
   rw[q.1]
   have e:=q.2.1
   rw[<-fg q.2.2.2] at e
   exact .tup e q.2.2.1
 |lst l=>exact c5 (P9 X h) λa vs n q=>by rw[q.1];exact .lst q.2.1 q.2.2.1
 |_=>exact L0 h
def lm (K:bY) (a:Nat) (n:a7):Option ah:=match K.lookup a with
 |some ⟨_,_,.dict es _,_⟩=>nsFind es n
 |_=>af
set_option backward.match.sparseCases true in
def qU (K:bY) (a:Nat):Bool:=match K.lookup a with
 |some ⟨_,_,.dict es _,_⟩=>es.all (λe=>match e.key with| .str _ _=>aa|_=>ac)
 |_=>ac
theorem vj {K:bY} {base:cu} (X:K.In base) {a:Nat} (h:qU K a=aa):base.Ns a (lm K a):=by
 unfold qU at h
 split at h
 ·rename_i c d es n aK e
  have bj:base.isNs a=aa:=by
   unfold Heap.isNs
   rw[X _ _ e]
   exact h
  have:=Heap.Ns.of_isNs bj
  have q:base.nsMap a=lm K a:=by
   funext m
   unfold Heap.nsMap lm
   rw[X _ _ e,e]
  rwa [q] at this
 ·cases h
def yB (K:bY) (n:Nat) (v:aj):Bool:=match lm K jx (nm n) with
 |some x=>qH K v x
 |none=>ac
theorem XX {K:bY} {base:cu} (X:K.In base) (hm:qU K jx=aa) {n:Nat} {v:aj} (h:yB K n v=aa):AQ base (nm n) v:=by
 unfold yB at h
 split at h
 ·rename_i x e
  exact⟨x,_,yw X h,vj X hm,.inl e⟩
 ·cases h
def Cg (K:bY) (c n:Nat):At->Bool
 | .no=>decide (hK K (.ref c) (nm n)=ab af)&&decide (Bx K c (nm n)=ab af)
 | .fn f=>decide (hK K (.ref c) (nm n)=ab (ab (.ref f)))&&isFn K (.ref f)&&decide (oR K (.ref f) "__get__" =ab (ab (.builtin "function.__get__")))&&decide (xc K (.ref f)=ab ac)&& !rT.contains (nm n)
 | .val v=>match hK K (.ref c) (nm n) with
  |some (ab a)=>qH K v a&&decide (oR K a "__get__" =ab af)&&ny a&& !rT.contains (nm n)
  |_=>ac
theorem Uc {K:bY} {base:cu} (X:K.In base) {c n:Nat} {i:At} (h:Cg K c n i=aa):tG K base c n i:=by
 cases i with
 |no=>
  have h:(decide (hK K (.ref c) (nm n)=ab af)&&decide (Bx K c (nm n)=ab af))=aa:=h
  rw[gE] at h
  exact⟨of_decide_eq_true h.1,of_decide_eq_true h.2⟩
 |fn f=>
  have h:(decide (hK K (.ref c) (nm n)=ab (ab (.ref f)))&&isFn K (.ref f)&&decide (oR K (.ref f) "__get__" =ab (ab (.builtin "function.__get__")))&&decide (xc K (.ref f)=ab ac)&& !rT.contains (nm n))=aa:=h
  simp only[gE,oD] at h
  obtain ⟨⟨⟨⟨aq,aC⟩,bz⟩,ee⟩,fE⟩:=h
  exact⟨of_decide_eq_true aq,aC,of_decide_eq_true bz,of_decide_eq_true ee,fE⟩
 |val v=>
  change (match hK K (.ref c) (nm n) with
   |some (ab a)=>qH K v a&&decide (oR K a "__get__" =ab af)&&ny a&& !rT.contains (nm n)
   |_=>ac)=aa at h
  split at h
  ·rename_i a e
   simp only[gE,oD] at h
   obtain ⟨⟨⟨aq,aC⟩,bz⟩,ee⟩:=h
   exact⟨a,yw X aq,e,of_decide_eq_true aC,bz,ee⟩
  ·cases h
def CQ (K:bY) (c n:Nat) (v:aj):Bool:=readsIn K c (.type "type")&&match findCls K (.ref c) (.type "type") (nm n) with
 |some (.val a)=>qH K v a&&ny a
 |_=>ac
theorem Vg {K:bY} {base:cu} (X:K.In base) {c n:Nat} {v:aj} (h:CQ K c n v=aa):Hm K base c n v:=by
 unfold CQ at h
 rw[gE] at h
 obtain ⟨aq,aC⟩:=h
 split at aC
 ·rename_i a e
  rw[gE] at aC
  exact⟨a,_,yw X aC.1,aq,e,aC.2⟩
 ·cases aC
def subB (K:bY) (D:Nat) (m:List (Nat×Bool)):Bool:=Bv K D "__class__" &&Br K D&&decide (hK K (.ref D) "__class__" =ab (ab (.builtin "object.__class__")))&&decide (mroIn K D (.type "object")=ab aa)&&
 m.all λx=>match x.2 with
  |true=>isIn K (.ref D) x.1
  |false=>kin_not K D x.1
theorem agE {K:bY} {D:Nat} {m:List (Nat×Bool)} (h:subB K D m=aa):IV K D m:=by
 unfold subB at h
 simp only[gE] at h
 obtain ⟨⟨⟨⟨aq,aC⟩,bz⟩,ee⟩,fE⟩:=h
 refine⟨aq,aC,of_decide_eq_true bz,of_decide_eq_true ee,λC b aA=> ?_⟩
 have:=fL.mp fE _ (jb aA)
 cases b with
 |true=>exact⟨λ_=>this,λq=>by cases q⟩
 |false=>exact⟨λq=> (by cases q),λ_=>this⟩
end
section
variable [WP]
def y4 (K:bY):ah->Option (List ah)
 | .none=>ab []
 | .ref t=> ((K.lookup t).bind (rl "tuple")).map H3
 |_=>af
theorem Zp {K:bY} {base:cu} (X:K.In base) {v:ah} {l:List ah} (h:y4 K v=ab l):(v= .none/\l= [])\/ ∃t n,v= .ref t/\base.get? t=ab (mc l n):=by
 cases v with
 |none=>cases h;exact .inl ⟨rfl,rfl⟩
 |ref t=>
  have h:((K.lookup t).bind (rl "tuple")).map H3=ab l:=h
  obtain ⟨p,e,rfl⟩:=p9.mp h
  obtain ⟨o,e1,e2⟩:=p8.mp e
  exact .inr ⟨t,p.2,rfl,by rw[X _ _ e1,P0 (vs:=p.1) (n:=p.2) e2]⟩
 |_=>cases h
def codeB (K:bY) (cd:ah) (q:a7):Bool:=match cd with
 | .ref c=>match K.lookup c with
  |some ⟨_,_,.fields (vs:Array ah),_⟩=>match(vs[1]? :Option ah) with
   |some (SI s _)=>seq s q
   |_=>ac
  |_=>ac
 |_=>ac
theorem U7 {K:bY} {base:cu} (X:K.In base) {cd:ah} {q:a7} (h:codeB K cd q=aa):base.CodeRec cd q:=by
 unfold codeB at h
 split at h
 ·split at h
  ·split at h
   ·have:=seq_eq h
    subst this
    rename_i e1 _ _ _ e2
    exact⟨_,_,_,_,rfl,X _ _ e1,rfl,e2⟩
   ·cases h
  ·cases h
 ·cases h
def y7 (K:bY):List (Nat×aj)->List (a7×ah)->Bool
 | [],[]=>aa
 |x::l,y::r=>seq y.1 (nm x.1)&&qH K x.2 y.2&&y7 K l r
 |_,_=>ac
theorem Ng {K:bY} {base:cu} (X:K.In base): ∀{l:List (Nat×aj)} {r:List (a7×ah)},y7 K l r=aa->hY (λa v=> ∃x,a= .f x/\bq base.get? x v) (l.map λd=> (d.1,.f d.2)) r
 | [],[],_=> .nil
 |x::l,y::r,h=>by
  have h:(seq y.1 (nm x.1)&&qH K x.2 y.2&&y7 K l r)=aa:=h
  simp only[gE] at h
  exact .cons ⟨seq_eq h.1.1,_,rfl,yw X h.1.2⟩ (Ng X h.2)
 | [],_::_,h=>by cases h
 |_::_,[],h=>by cases h
def zv:List Nat->List iz->Bool
 | [],[]=>aa
 |n::l,a::r=>seq a.arg (nm n)&&zv l r
 |_,_=>ac
theorem OS: ∀{l:List Nat} {r:List iz},zv l r=aa->r.map (·.arg)=l.map nm
 | [],[],_=>rfl
 |n::l,a::r,h=>by
  have h:(seq a.arg (nm n)&&zv l r)=aa:=h
  rw[gE] at h
  rw[p2,p2,seq_eq h.1,OS h.2]
 | [],_::_,h=>by cases h
 |_::_,[],h=>by cases h
def uq (a8:Arguments):Option (List iz):=match a8 with
 | ⟨[],args,af,[],_,af,_⟩=>ab args
 |_=>af
theorem T3 {a8:Arguments} {args:List iz} (h:uq a8=ab args): ∃fx dflt,a8=⟨[],args,af,[],fx,af,dflt⟩:=by
 unfold uq at h
 split at h
 ·cases h;exact⟨_,_,rfl⟩
 ·cases h
def yr (K:bY) (p:List Nat×List (Nat×aj)) (fd:jV) (args:List iz) (items:List ah):Bool:=
 decide (fd.scope.kind= .function)&& !fd.scope.isCoroutine&& !fd.scope.isGenerator&&bA fd.globals jx&&bA fd.builtins oU&&codeB K fd.code fd.qualname&&zv p.1 args&&(p.1.all λn=>fG fd.scope (nm n))&&
  (fd.scope.names.all λy=>decide (y.2≠ .cell))&&gF items.length p.1.length&&y7 K p.2 (((p.1.map nm).drop (p.1.length-items.length)).zip items)
theorem LR {K:bY} {base:cu} (X:K.In base) {a:Nat} {p:List Nat×List (Nat×aj)} {c:ah} {aK:Array (Option ah)} {fd:jV} {args:List iz} {items:List ah} {body:List cy} {E7:Option aR} (e:K.lookup a=ab ⟨c,E7,.func fd,aK⟩) (j3:uq fd.params=ab args) (bZ:fd.body= .stmts body) (gn:y4 K fd.defaults=ab items) (h:yr K p fd args items=aa):
  ∃o dflt fx,oF base a p o fd args dflt fx body items:=by
 unfold yr at h
 have aq:=b2 h
 have aC:=b2 aq.1
 have bz:=b2 aC.1
 have ee:=b2 bz.1
 have fE:=k1 ee.1
 have pk:=b2 fE.1
 exact bT (T3 j3) λfx dflt E=> ⟨_,dflt,fx,X _ _ e,rfl,E,bZ,of_decide_eq_true pk.1,jg pk.2,jg fE.2.1,fg fE.2.2.1,fg fE.2.2.2.1,U7 X fE.2.2.2.2.1,OS fE.2.2.2.2.2,fL.mp ee.2,λx aH=>of_decide_eq_true (fL.mp bz.2 x aH),Zp X gn,cS aC.2,Ng X aq.2⟩
def iE (K:bY) (x:Nat×Q7.S):List cy×List cy:=match K.lookup x.1 with
 |some ⟨_,_,.func fd,_⟩=>match fd.body with
  | .stmts body=> ((dH fd.scope x.2).bZ body,body)
  |_=> ([],[])
 |_=> ([],[])
def nV (K:bY) (x:Nat×Q7.S):Bool:=match aL x.1 gC,K.lookup x.1 with
 |some p,ab ⟨_,_,.func fd,_⟩=>match uq fd.params,fd.body,y4 K fd.defaults with
  |some args,.stmts body,ab items=>decide p.1.Nodup&&yr K p fd args items&&(dH fd.scope x.2).b body
  |_,_,_=>ac
 |_,_=>ac
theorem Xm {K:bY} {base:cu} (X:K.In base) {x:Nat×Q7.S} (h:nV K x=aa) (he:(iE K x).1=(iE K x).2): ∀p,aL x.1 gC=ab p->rK base x.1 p x.2:=by
 intro p ep
 unfold nV at h
 unfold iE at he
 rw[ep] at h
 split at h
 ·rename_i c d fd aK ey e
  cases ey
  rw[e] at he
  dsimp only at he
  split at h
  ·rename_i args body items e1 e2 ij
   rw[e2] at he
   have h:=cU h
   exact c5 (LR X e e1 (e2.trans (congrArg _ he.symm)) ij h.2.1) λo dflt fx F=> ⟨of_decide_eq_true h.1,_,fd,args,dflt,fx,body,items,F,h.2.2⟩
  ·cases h
 ·cases h
end
section
variable [WP]
def FN (prog:cP) (K:bY) (c f:Nat) (fd:jV) (args:List iz):Bool:=
 (match args with|f5::_=>seq f5.arg (nm 37) | []=>ac)&&decide (fd.scope.names.lookup (cE "super")=ab .globalImplicit)&&decide (fd.scope.names.lookup (cE "__class__")=ab .free)&&
 (match fd.code with
  | .ref qw=>match K.lookup qw with
   |some ⟨_,_,.fields (vs:Array ah),_⟩=>match(vs[2]? :Option ah) with
    |some (SI file _)=> (prog.main.file:a7)==file
    |_=>ac
   |_=>ac
  |_=>ac)&& !(prog.main.scope.names.lookup (cE "super")).isSome&&
 (match fd.closure.lookup (cE "__class__") with
  |some hb=>match K.lookup hb with
   |some ⟨_,_,.cell (ab (.ref D)),_⟩=> (my K D).isSome&&decide (mroIn K c (.ref D)=ab aa)&&decide (((my K c).bind λcd=>alongIn K "__init__" ((cd.mro.dropWhile (· != .ref D)).drop 1))=ab (ab (.ref f)))
   |_=>ac
  |none=>ac)&&decide (oS K (.ref f)=ab (.type "function"))&&decide (nsIn K xe "thirdparty.any" =ab af)
theorem agH {prog:cP} {K:bY} {base:cu} (X:K.In base) {c f:Nat} {fd:jV} {args:List iz} (h:FN prog K c f fd args=aa):IX prog K base c f fd args:=by
 unfold FN at h
 simp only[gE,oD] at h
 obtain ⟨⟨⟨⟨⟨⟨⟨aC,bz⟩,ee⟩,fE⟩,pk⟩,gx⟩,lT⟩,sC⟩:=h
 refine⟨?_,of_decide_eq_true bz,of_decide_eq_true ee, ?_,pk, ?_,of_decide_eq_true lT,of_decide_eq_true sC⟩
 ·split at aC
  ·exact⟨_,_,rfl,seq_eq aC⟩
  ·cases aC
 ·split at fE
  ·rename_i qw ey
   split at fE
   ·rename_i vs _ e1
    split at fE
    ·rename_i file t e2
     exact⟨qw,_,vs,file,t,ey,X _ _ e1,rfl,e2,fE⟩
    ·cases fE
   ·cases fE
  ·cases fE
 ·split at gx
  ·rename_i hb ey
   split at gx
   ·rename_i D _ e1
    simp only[gE] at gx
    obtain ⟨⟨g1,g2⟩,g3⟩:=gx
    obtain ⟨xZ,aD⟩:=w4.mp g1
    exact⟨hb,_,D,xZ,ey,X _ _ e1,rfl,aD,of_decide_eq_true g2,ak (p8.mp (of_decide_eq_true g3)) λcd z=> ⟨cd,z.1,z.2⟩⟩
   ·cases gx
  ·cases gx
def hL (b:List cy):Expr:=b3 (s1 b)
def rn (K:bY) (a:Nat) (xs:X) (r:Q7.S):List cy×List cy:=match K.lookup a with
 |some ⟨_,_,.func fd,_⟩=>match fd.body with
  | .stmts b=> (.Expr (.Call (.Attribute (.Call (.Name (cE "super") (cj (cj (cj (hL b)))).pos) [] [] (cj (cj (hL b))).pos) (cE "__init__") (cj (hL b)).pos) ((au fd.scope xs).dw (Q7.xs (hL b))) [] (hL b).pos) (s1 b).pos::(dH fd.scope r).bZ b.tail,b)
  |_=> ([],[])
 |_=> ([],[])
def z7 (prog:cP) (K:bY) (a:Nat) (p:List Nat×List (Nat×aj)) (c f:Nat) (xs:X) (r:Q7.S):Bool:=match K.lookup a with
 |some ⟨_,_,.func fd,_⟩=>match uq fd.params,fd.body,y4 K fd.defaults with
  |some args,.stmts b,ab items=>yr K p fd args items&&(fG fd.scope (nm 37)&&(au fd.scope xs).l (Q7.xs (hL b)))&&((cj (hL b)).pos.endLine==(hL b).pos.line)&&qG ((au fd.scope xs).dw (Q7.xs (hL b))) []&&FN prog K c f fd args&&(dH fd.scope r).b b.tail
  |_,_,_=>ac
 |_=>ac
theorem Qi {prog:cP} {K:bY} {base:cu} (X:K.In base) {a:Nat} {p:List Nat×List (Nat×aj)} {c f:Nat} {xs:Q7.X} {r:Q7.S} (aC:p.1.Nodup) (h:z7 prog K a p c f xs r=aa) (he:(rn K a xs r).1=(rn K a xs r).2):tJ prog K base a p c f xs r:=by
 unfold z7 at h
 unfold rn at he
 split at h
 ·rename_i cl d fd aK e
  rw[e] at he
  dsimp only at he
  split at h
  ·rename_i args b items e1 e2 ij
   rw[e2] at he
   have g:=k1 h
   exact c5 (LR X e e1 (e2.trans (congrArg _ he.symm)) ij g.1) λo dflt fx F=> ⟨aC,_,fd,args,dflt,fx,items,_,_,_,_,_,_,_,F,agH X g.2.2.2.2.1,(b2 g.2.1).1,(b2 g.2.1).2,g.2.2.1,g.2.2.2.1,g.2.2.2.2.2⟩
  ·cases h
 ·cases h
def FU (K:bY):Bool:=
 qU K jx&&qU K oU&&qU K xe&&(lm K xe "sys.recursionlimit").isNone&&(jl.all λx=>AM K x.1)&&(uA.all λx=> (lm K jx x.1).isNone&&decide (lm K oU x.1=ab x.2))&&
 (ma.all λx=> (my K x.1).isSome)&&decide (oR K (.builtin "object.__class__") "__get__" =ab (ab (.builtin "getset_descriptor.__get__")))&&decide (xc K (.builtin "object.__class__")=ab aa)
def vi:At->Bool
 | .val (.ei _ _)=>aa
 |_=>ac
def Ci (K:bY):Bool:=jl.all λx=>x.2.all λy=>vi y.2||Cg K x.1 y.1 y.2
def x6 (K:bY) (c n d:Nat):Bool:=decide (hK K (.ref c) (nm n)=ab (ab (.ref d)))&&decide (oR K (.ref d) "__get__" =ab af)&& !rT.contains (nm n)
theorem Lx {K:bY} {base:cu} {c n d:Nat} {v:aj} (h:x6 K c n d=aa) (aW:bq base.get? v (.ref d)):tG K base c n (.val v):=by
 unfold x6 at h
 simp only[gE,oD] at h
 exact⟨_,aW,of_decide_eq_true h.1.1,of_decide_eq_true h.1.2,rfl,h.2⟩
theorem VW:(jl.all λx=>x.2.all λy=> !vi y.2|| (bA x.1 799&&bA y.1 287) || (bA x.1 2029&&bA y.1 180))=aa:=by decide+kernel
def CR (K:bY):Bool:=oj.all λx=>x.2.all λy=>CQ K x.1 y.1 y.2
def FL (K:bY):Bool:=ma.all λx=>subB K x.1 x.2
def Dr (K:bY):Bool:=jm.all λx=>bA x.1 184||yB K x.1 x.2
theorem ag1 {K:bY} {base:cu} (X:K.In base) (aq:FU K=aa) (aC:Ci K=aa) (bz:CR K=aa) (ee:FL K=aa) (fE:Dr K=aa)
  (pk: ∀v,aL 184 jm=ab v->AQ base (nm 184) v) (gx: ∀v,(aI []).at 799 287=ab v->tG K base 799 287 v) (lT: ∀v,(aI []).at 2029 180=ab v->tG K base 2029 180 v):Top K base (aI []):=by
 unfold FU at aq
 simp only[gE] at aq
 obtain ⟨⟨⟨⟨⟨⟨⟨⟨a1,a2⟩,nF⟩,ui⟩,qm⟩,uj⟩,I3⟩,I4⟩,I5⟩:=aq
 unfold Ci at aC
 unfold CR at bz
 unfold FL at ee
 unfold Dr at fE
 refine⟨⟨X,λc l h=> ?_,λc n i h=> ?_,λc t n v h h'=> ?_⟩,λx aH=> ?_,λD m h=> ?_,⟨of_decide_eq_true I4,of_decide_eq_true I5⟩,λD m h=> ?_,λn v h=> ?_, ?_⟩
 ·have fY:(c,l)∈jl:=jb h
  exact fL.mp qm (c,l) fY
 ·have cw:=h
  unfold cL.at at h
  split at h
  ·rename_i l e
   have fY:(c,l)∈jl:=jb e
   have hE:=fL.mp aC (c,l) fY
   have hD:(n,i)∈l:=jb h
   have gN:=fL.mp hE (n,i) hD
   have gN:(vi i||Cg K c n i)=aa:=gN
   cases gn:vi i with
   |false=>rw[gn,oC] at gN;exact Uc X gN
   |true=>
    have l6:=fL.mp (fL.mp VW (c,l) fY) (n,i) hD
    have l6:(!vi i|| (bA c 799&&bA n 287) || (bA c 2029&&bA n 180))=aa:=l6
    rw[gn,wG,oC,nj] at l6
    rcases l6 with l6|l6<;> (rw[gE] at l6;obtain ⟨g1,g2⟩:=l6;have g1:=fg g1;have g2:=fg g2;subst g1;subst g2)
    ·exact gx _ cw
    ·exact lT _ cw
  ·cases h
 ·have fY:(c,t)∈oj:=jb h
  have hE:=fL.mp bz (c,t) fY
  have hD:(n,v)∈t:=jb h'
  have gN:=fL.mp hE (n,v) hD
  exact Vg X gN
 ·have q:=fL.mp uj x aH
  rw[gE] at q
  exact⟨lm K jx,lm K oU,vj X a1,Be.mp q.1,vj X a2,of_decide_eq_true q.2⟩
 ·have fY:(D,m)∈ma:=jb h
  exact agE (fL.mp ee (D,m) fY)
 ·have fY:(D,m)∈ma:=jb h
  exact fL.mp I3 (D,m) fY
 ·by_cases q:n=184
  ·subst q;exact pk v h
  ·have fY:(n,v)∈jm:=jb h
   have hE:=fL.mp fE (n,v) fY
   have gN:bA n 184=ac:=by
    cases e:bA n 184 with
    |false=>rfl
    |true=>exact absurd (fg e) q
   have l6:(bA n 184||yB K n v)=aa:=hE
   rw[gN,oC] at l6
   exact XX X a1 l6
 ·exact⟨lm K xe,vj X nF,Be.mp ui⟩
def OF (K:bY):Bool:=zo.all λx=>rV K x.1&&decide (hK K (.ref x.1) "__init__" =ab (ab (.ref x.2)))&&decide (oS K (.ref x.2)=ab (.type "function"))
theorem abN {K:bY} (h:OF K=aa): ∀C f,aL C zo=ab f->rV K C=aa/\hK K (.ref C) "__init__" =ab (ab (.ref f))/\oS K (.ref f)=ab (.type "function"):=λC f e=>
 have h:=cU (fL.mp h _ (jb e))
 ⟨h.1,of_decide_eq_true h.2.1,of_decide_eq_true h.2.2⟩
def Na (K:bY):Bool:=gC.all λx=>Bs K (.ref x.1)&&((aL x.1 jl).isSome||fnIn K x.1)
theorem ZR {K:bY} (h:Na K=aa):(∀a p,aL a gC=ab p->Bs K (.ref a)=aa)/\ ∀a p,aL a gC=ab p->aL a jl=af->fnIn K a=aa:=
 ⟨λa p e=> (b2 (fL.mp h _ (jb e))).1,λa p e n=>by
  have h:=(b2 (fL.mp h _ (jb e))).2
  rw[n] at h
  exact h⟩
end
end Q7
namespace Hd
noncomputable def addrs:List Nat:= [0,2,3,52,53,121,122,143,144,163,164,175,176,195,196,207,208,227,228,247,248,259,260,279,280,291,292,315,316,358,359,798,799,833,834,854,855,875,876,887,888,899,900,919,920,931,932,943,944,955,956,979,980,991,992,1051,1052,1082,1083,1101,1102,1120,1121,1140,1141,1237,1238,1788,1789,2028,2029,2040,2041,2042,35,112,193,225,245,277,356,379,393,400,407,415,422,429,436,444,451,458,466,480,615,629,636,643,650,657,664,671,692,699,706,713,721,728,736,743,750,774,781,788,817,824,831,852,873,917,1138,1176,1190,1198,1206,1214,1221,1228,1235,1291,1300,1307,1314,1321,1328,1335,1342,1356,1363,1377,1384,1391,1398,1405,1412,1510,1517,1524,1559,1566,1573,1608,1615,1622,1629,1636,1643,1650,1657,1664,1685,1692,1699,1706,1713,1765,1772,1786,1820,1834,1841,1848,1855,1862,1869,1876,1883,1890,1912,2039,2050,2057,2062,2069,34,54,55,105,111,123,124,186,192,218,224,238,244,270,276,355,360,361,372,378,392,399,406,408,414,421,428,435,437,443,450,457,459,465,479,614,628,635,642,649,656,663,670,691,698,705,712,714,720,727,729,735,742,749,773,780,787,800,801,816,823,830,835,836,851,856,857,872,910,916,1131,1137,1175,1189,1191,1197,1199,1205,1207,1213,1220,1227,1234,1239,1240,1279,1290,1293,1299,1306,1313,1320,1327,1334,1341,1355,1362,1376,1383,1390,1397,1404,1411,1509,1516,1523,1558,1565,1572,1607,1614,1621,1628,1635,1642,1649,1656,1663,1684,1691,1698,1705,1712,1764,1771,1785,1807,1819,1833,1840,1847,1854,1861,1868,1875,1882,1889,1905,1911,2032,2038,2043,371,1812,1292,2049,2056,2061,2068]
noncomputable def KK (P:cv):bY:=Q7.yx (i0 P) addrs
noncomputable def ZP (P:cv):Bool:=Q7.FU (KK P)
noncomputable def ZA (P:cv):Bool:=Q7.Ci (KK P)
noncomputable def ZD (P:cv):Bool:=Q7.x6 (KK P) 799 287 371&&Q7.x6 (KK P) 2029 180 1812
noncomputable def ZC (P:cv):Bool:=Q7.CR (KK P)
noncomputable def ZO (P:cv):Bool:=Q7.FL (KK P)
noncomputable def ZK (P:cv):Bool:=Q7.Dr (KK P)
noncomputable def ZN (P:cv):Bool:=Q7.OF (KK P)
noncomputable def ZL (P:cv):Bool:=Q7.Na (KK P)
noncomputable def ZE (P:cv):Bool:=(((Q7.hc.drop 0).take 18).all (Q7.nV (KK P)))
noncomputable def ZF (P:cv):Bool:=(((Q7.hc.drop 18).take 18).all (Q7.nV (KK P)))
noncomputable def ZG (P:cv):Bool:=(((Q7.hc.drop 36).take 18).all (Q7.nV (KK P)))
noncomputable def ZH (P:cv):Bool:=(((Q7.hc.drop 54).take 18).all (Q7.nV (KK P)))
noncomputable def ZI (P:cv):Bool:=(((Q7.hc.drop 72).take 18).all (Q7.nV (KK P)))
noncomputable def ZJ (P:cv):Bool:=(((Q7.hc.drop 90).take 18).all (Q7.nV (KK P)))
theorem WC:(λP=>ZP P)=λ_=>aa:=by kernel_rfl
theorem Wz:(λP=>ZL P)=λ_=>aa:=by kernel_rfl
theorem WA:(λP=>ZN P)=λ_=>aa:=by kernel_rfl
theorem Wy:(λP=>ZK P)=λ_=>aa:=by kernel_rfl
theorem Wk:(λP=>ZA P)=λ_=>aa:=by kernel_rfl
theorem Wl:(λP=>ZC P)=λ_=>aa:=by kernel_rfl
theorem LJ:(λP=>ZD P)=λ_=>aa:=by kernel_rfl
theorem WB:(λP=>ZO P)=λ_=>aa:=by kernel_rfl
theorem Ws:(λP=>ZE P)=λ_=>aa:=by kernel_rfl
theorem Wm:(λP=> ((Q7.hc.drop 0).take 18).map λx=> (Q7.iE (KK P) x).1)=(λP=> ((Q7.hc.drop 0).take 18).map λx=> (Q7.iE (KK P) x).2):=by kernel_rfl
theorem Wt:(λP=>ZF P)=λ_=>aa:=by kernel_rfl
theorem Wn:(λP=> ((Q7.hc.drop 18).take 18).map λx=> (Q7.iE (KK P) x).1)=(λP=> ((Q7.hc.drop 18).take 18).map λx=> (Q7.iE (KK P) x).2):=by kernel_rfl
theorem Wu:(λP=>ZG P)=λ_=>aa:=by kernel_rfl
theorem Wo:(λP=> ((Q7.hc.drop 36).take 18).map λx=> (Q7.iE (KK P) x).1)=(λP=> ((Q7.hc.drop 36).take 18).map λx=> (Q7.iE (KK P) x).2):=by kernel_rfl
theorem Wv:(λP=>ZH P)=λ_=>aa:=by kernel_rfl
theorem Wp:(λP=> ((Q7.hc.drop 54).take 18).map λx=> (Q7.iE (KK P) x).1)=(λP=> ((Q7.hc.drop 54).take 18).map λx=> (Q7.iE (KK P) x).2):=by kernel_rfl
theorem Ww:(λP=>ZI P)=λ_=>aa:=by kernel_rfl
theorem Wq:(λP=> ((Q7.hc.drop 72).take 18).map λx=> (Q7.iE (KK P) x).1)=(λP=> ((Q7.hc.drop 72).take 18).map λx=> (Q7.iE (KK P) x).2):=by kernel_rfl
theorem Wx:(λP=>ZJ P)=λ_=>aa:=by kernel_rfl
theorem Wr:(λP=> ((Q7.hc.drop 90).take 18).map λx=> (Q7.iE (KK P) x).1)=(λP=> ((Q7.hc.drop 90).take 18).map λx=> (Q7.iE (KK P) x).2):=by kernel_rfl
theorem XW (P:cv):(i0 P).get 371=ab (ap (.type "dict") af (.dict [bU P (a6 "!" 738) (a6 "!" 739),bU P (a6 "tag:yaml.org,2002:" 740) (a6 "!!" 741)].toArray 2)):=by kernel_rfl
theorem XQ (P:cv):(i0 P).get 1812=ab (ap (.type "dict") af (.dict [bU P (a6 "!" 2883) (a6 "!" 2884),bU P (a6 "!!" 2885) (a6 "tag:yaml.org,2002:" 2886)].toArray 2)):=by kernel_rfl
theorem XR (P:cv):(i0 P).get 2040=ab (ap (.type "dict") af (.dict [bU P (a6 "!e!" 3197) (a6 "!x" 3198)].toArray 1)):=by kernel_rfl
theorem XS (P:cv):(i0 P).get 2041=ab (ap (.type "dict") af (.dict [bU P (a6 "!" 3200) (a6 "!y" 3201),bU P (a6 "!e!" 3202) (a6 "t" 3203)].toArray 2)):=by kernel_rfl
theorem XT (P:cv):(i0 P).get 2042=ab (ap (.type "dict") af (.dict [bU P (a6 "!e!" 3206) (a6 "!x" 3207)].toArray 1)):=by kernel_rfl
theorem XU (P:cv):(i0 P).get 2043=ab (ap (.type "list") af (.seq [.none,.none,.ref 2040,.ref 2041,.ref 2042].toArray 0)):=by kernel_rfl
noncomputable def pV:Q7.S->Q7.S
 | .cons _ r=>r
 |r=>r
theorem WJ:(λP=>Q7.z7 cA (KK P) 1291 ([37,97],[]) 2029 1190 (.cons (.lo 97) .nil) (pV Q7.qs))=λ_=>aa:=by kernel_rfl
theorem WI:(λP=>Q7.z7 cA (KK P) 1820 ([37,97],[]) 2029 1291 (.cons (.lo 97) .nil) (pV Q7.qr))=λ_=>aa:=by kernel_rfl
theorem WH:(λP=> (Q7.rn (KK P) 1291 (.cons (.lo 97) .nil) (pV Q7.qs)).1)=λP=> (Q7.rn (KK P) 1291 (.cons (.lo 97) .nil) (pV Q7.qs)).2:=by kernel_rfl
theorem WG:(λP=> (Q7.rn (KK P) 1820 (.cons (.lo 97) .nil) (pV Q7.qr)).1)=λP=> (Q7.rn (KK P) 1820 (.cons (.lo 97) .nil) (pV Q7.qr)).2:=by kernel_rfl
theorem Yd:Q7.qs= .cons (.exp (.mb 2029 1190 (.cons (.lo 97) .nil))) (pV Q7.qs):=by kernel_rfl
theorem Yc:Q7.qr= .cons (.exp (.mb 2029 1291 (.cons (.lo 97) .nil))) (pV Q7.qr):=by kernel_rfl
theorem Wj:(λP=>Q7.qU (KK P) jx)=λ_=>aa:=by kernel_rfl
theorem Wi:(λP=>Q7.lm (KK P) jx (Q7.nm 184))=λ_=>ab (.ref 2043):=by kernel_rfl
theorem Ux:(addrs.all λa=>d4 a 2075)=aa:=by decide+kernel
theorem gY (P:cv):(KK P).In (e4 P):= @Q7.XC ⟨P⟩ _ _ _ _ Ux
theorem sz {P:cv} {a:Nat} {o:bW} (h:a<2075) (e:(i0 P).get a=ab o):(e4 P).get? a=alive o:=abs_get h e
section
variable (w:ba)
theorem Lz {P:cv} {a:Nat} {k v:List Nat} {t1 jP:Nat} {n:Nat} (h:(e4 P).get? a=ab (eB [bU P (.str (Q7.aK k) t1) (.str (Q7.aK v) jP)] n)) (aS:k.length<=dZ) (aW:v.length<=dZ) (hs:(a==lI)=ac):
  @Q7.bq ⟨P⟩ (e4 P).get? (.ei [k] [.str v]) (.ref a):=
 letI:Q7.WP:=⟨P⟩
 .ei (es:= [bU P (.str (Q7.aK k) t1) (.str (Q7.aK v) jP)]) ⟨⟨p3.mpr ⟨eG,RQ⟩,λx aH=>by rw[jU.mp aH];exact aS⟩,hs⟩ h (.cons ⟨⟨_,rfl⟩,rfl⟩ .nil) (.cons (.str _ _ aW) .nil)
theorem CV {P:cv} {a:Nat} {k v kb lq:List Nat} {t1 jP t3 FO:Nat} {n:Nat} (h:(e4 P).get? a=ab (eB [bU P (.str (Q7.aK k) t1) (.str (Q7.aK v) jP),bU P (.str (Q7.aK kb) t3) (.str (Q7.aK lq) FO)] n)) (bX:k≠kb) (aS:k.length<=dZ) (aW:v.length<=dZ)
  (Yy:kb.length<=dZ) (DL:lq.length<=dZ) (hs:(a==lI)=ac): @Q7.bq ⟨P⟩ (e4 P).get? (.ei [k,kb] [.str v,.str lq]) (.ref a):=
 letI:Q7.WP:=⟨P⟩
 .ei (es:= [bU P (.str (Q7.aK k) t1) (.str (Q7.aK v) jP),bU P (.str (Q7.aK kb) t3) (.str (Q7.aK lq) FO)]) ⟨⟨p3.mpr ⟨λq=>bX (jU.mp q),p3.mpr ⟨eG,RQ⟩⟩,λx aH=>by
  rcases e5.mp aH with aH|aH
  ·rw[aH];exact aS
  ·rw[jU.mp aH];exact Yy⟩,hs⟩ h (.cons ⟨⟨_,rfl⟩,rfl⟩ (.cons ⟨⟨_,rfl⟩,rfl⟩ .nil)) (.cons (.str _ _ aW) (.cons (.str _ _ DL) .nil))
end
theorem Xl:Q7.hc.drop 108= []:=by decide+kernel
theorem TP:(Q7.aI []).at 799 287=ab (.val (.ei [[33],[116,97,103,58,121,97,109,108,46,111,114,103,44,50,48,48,50,58]] [.str [33],.str [33,33]])):=by kernel_rfl
theorem TO:(Q7.aI []).at 2029 180=ab (.val (.ei [[33],[33,33]] [.str [33],.str [116,97,103,58,121,97,109,108,46,111,114,103,44,50,48,48,50,58]])):=by kernel_rfl
theorem TN:Q7.aL 184 Q7.jm=ab (.lst [.none,.none,.ei [[33,101,33]] [.str [33,120]],.ei [[33],[33,101,33]] [.str [33,121],.str [116]],.ei [[33,101,33]] [.str [33,120]]]):=by kernel_rfl
theorem Vj (P:cv):(e4 P).get? 2040=ab (eB [bU P (a6 "!e!" 3197) (a6 "!x" 3198)] 1):=sz (by decide) (XR P)
theorem Vk (P:cv):(e4 P).get? 2041=ab (eB [bU P (a6 "!" 3200) (a6 "!y" 3201),bU P (a6 "!e!" 3202) (a6 "t" 3203)] 2):=sz (by decide) (XS P)
theorem Vl (P:cv):(e4 P).get? 2042=ab (eB [bU P (a6 "!e!" 3206) (a6 "!x" 3207)] 1):=sz (by decide) (XT P)
theorem Vm (P:cv):(e4 P).get? 2043=ab (Q7.lobj [.none,.none,.ref 2040,.ref 2041,.ref 2042] 0):=sz (by decide) (XU P)
theorem Vn (P:cv):(e4 P).get? 371=ab (eB [bU P (a6 "!" 738) (a6 "!" 739),bU P (a6 "tag:yaml.org,2002:" 740) (a6 "!!" 741)] 2):=sz (by decide) (XW P)
theorem Vi (P:cv):(e4 P).get? 1812=ab (eB [bU P (a6 "!" 2883) (a6 "!" 2884),bU P (a6 "!!" 2885) (a6 "tag:yaml.org,2002:" 2886)] 2):=sz (by decide) (XQ P)
theorem FA:cE "!" =Q7.aK [33]:=by decide+kernel
theorem FC:cE "!e!" =Q7.aK [33,101,33]:=by decide+kernel
theorem P5:cE "!x" =Q7.aK [33,120]:=by decide+kernel
theorem afE:cE "!y" =Q7.aK [33,121]:=by decide+kernel
theorem afF:cE "t" =Q7.aK [116]:=by decide+kernel
theorem P6:cE "!!" =Q7.aK [33,33]:=by decide+kernel
theorem P7:cE "tag:yaml.org,2002:" =Q7.aK [116,97,103,58,121,97,109,108,46,111,114,103,44,50,48,48,50,58]:=by decide+kernel
theorem i6: ∀n:Nat,n<=100->n<=dZ:=λn h=>by rw[gi];omega
theorem W6 (P:cv): @Q7.bq ⟨P⟩ (e4 P).get? (.ei [[33,101,33]] [.str [33,120]]) (.ref 2040):=by
 have h:=Vj P
 unfold a6 at h
 rw[FC,P5] at h
 exact Lz h (i6 _ (by decide)) (i6 _ (by decide)) rfl
theorem W8 (P:cv): @Q7.bq ⟨P⟩ (e4 P).get? (.ei [[33,101,33]] [.str [33,120]]) (.ref 2042):=by
 have h:=Vl P
 unfold a6 at h
 rw[FC,P5] at h
 exact Lz h (i6 _ (by decide)) (i6 _ (by decide)) rfl
theorem W7 (P:cv): @Q7.bq ⟨P⟩ (e4 P).get? (.ei [[33],[33,101,33]] [.str [33,121],.str [116]]) (.ref 2041):=by
 have h:=Vk P
 unfold a6 at h
 rw[FA,FC,afE,afF] at h
 exact CV h (by decide) (i6 _ (by decide)) (i6 _ (by decide)) (i6 _ (by decide)) (i6 _ (by decide)) rfl
theorem W9 (P:cv): @Q7.bq ⟨P⟩ (e4 P).get? (.ei [[33],[116,97,103,58,121,97,109,108,46,111,114,103,44,50,48,48,50,58]] [.str [33],.str [33,33]]) (.ref 371):=by
 have h:=Vn P
 unfold a6 at h
 rw[FA,P6,P7] at h
 exact CV h (by decide) (i6 _ (by decide)) (i6 _ (by decide)) (i6 _ (by decide)) (i6 _ (by decide)) rfl
theorem W5 (P:cv): @Q7.bq ⟨P⟩ (e4 P).get? (.ei [[33],[33,33]] [.str [33],.str [116,97,103,58,121,97,109,108,46,111,114,103,44,50,48,48,50,58]]) (.ref 1812):=by
 have h:=Vi P
 unfold a6 at h
 rw[FA,P6,P7] at h
 exact CV h (by decide) (i6 _ (by decide)) (i6 _ (by decide)) (i6 _ (by decide)) (i6 _ (by decide)) rfl
theorem ag0 (P:cv): @Q7.Top ⟨P⟩ (KK P) (e4 P) (Q7.aI []):=by
 letI:Q7.WP:=⟨P⟩
 have X:=gY P
 refine Q7.ag1 X (congrFun WC P) (congrFun Wk P) (congrFun Wl P) (congrFun WB P) (congrFun Wy P) (λv aW=> ?_) (λv aW=> ?_) (λv aW=> ?_)
 ·rw[TN] at aW
  cases aW
  exact⟨.ref 2043,Q7.lm (KK P) jx,.lst (Vm P) (.cons .none (.cons .none (.cons (W6 P) (.cons (W7 P) (.cons (W8 P) .nil))))),Q7.vj X (congrFun Wj P),.inl (congrFun Wi P)⟩
 ·rw[TP] at aW
  cases aW
  exact Q7.Lx (fV.mp (congrFun LJ P)).1 (W9 P)
 ·rw[TO] at aW
  cases aW
  exact Q7.Lx (fV.mp (congrFun LJ P)).2 (W5 P)
theorem abL {α:Type} {P:α->Prop} {l:List α} (n:Nat) (aq: ∀x∈l.take n,P x) (aC: ∀x∈l.drop n,P x): ∀x∈l,P x:=by
 rw[<-p4 n l]
 exact List.forall_mem_append.mpr ⟨aq,aC⟩
theorem sx {P:cv} {l:List (Nat×Q7.S)} {n k:Nat} (h:n+18=k) (aq:((l.drop n).take 18).all (Q7.nV (KK P))=aa) (he:(((l.drop n).take 18).map λx=> (Q7.iE (KK P) x).1)=((l.drop n).take 18).map λx=> (Q7.iE (KK P) x).2)
  (aC: ∀x∈l.drop k,∀p,Q7.aL x.1 Q7.gC=ab p-> @Q7.rK ⟨P⟩ (e4 P) x.1 p x.2): ∀x∈l.drop n,∀p,Q7.aL x.1 Q7.gC=ab p-> @Q7.rK ⟨P⟩ (e4 P) x.1 p x.2:=by
 letI:Q7.WP:=⟨P⟩
 refine abL 18 (λx aH=>Q7.Xm (gY P) (fL.mp aq x aH) (List.map_inj_left.mp he x aH)) ?_
 rw[AW,h]
 exact aC
theorem Xs (P:cv): ∀x∈Q7.hc.drop 0,∀p,Q7.aL x.1 Q7.gC=ab p-> @Q7.rK ⟨P⟩ (e4 P) x.1 p x.2:=
 sx (k:=18) rfl (congrFun Ws P) (congrFun Wm P) (sx (k:=36) rfl (congrFun Wt P) (congrFun Wn P) (sx (k:=54) rfl (congrFun Wu P) (congrFun Wo P) (sx (k:=72) rfl (congrFun Wv P) (congrFun Wp P) (sx (k:=90) rfl (congrFun Ww P) (congrFun Wq P) (sx (k:=108) rfl (congrFun Wx P) (congrFun Wr P) (Xl▸ λx h=>absurd h eG))))))
theorem XN (P:cv): @Q7.rM ⟨P⟩ cA (KK P) (e4 P):=by
 letI:Q7.WP:=⟨P⟩
 have X:=gY P
 have ks:=Q7.ZR (congrFun Wz P)
 exact⟨ag0 P,λa b e=>Xs P _ (Q7.jb e),Q7.abN (congrFun WA P),ks.1,ks.2,
  ⟨_,_,_,_,Yd,Q7.Qi X (by decide) (congrFun WJ P) (congrFun WH P)⟩,⟨_,_,_,_,Yc,Q7.Qi X (by decide) (congrFun WI P) (congrFun WG P)⟩⟩
theorem ain (w:ba):Q7.uh w (e4 w.params):=⟨e4 w.params,KK w.params,λ_ _ h=>h,XN w.params⟩
theorem aio (w:ba) (h h':cu) (y:Q7.uh w h) (k: ∀b o,h.get? b=ab o->h'.get? b=ab o):Q7.uh w h':=
 ak y λbase y=>ak y λKf y=> ⟨base,Kf,λx o e=>k x o (y.1 x o e),y.2⟩
theorem OY (aL:Look): ∀a b:List cy,ky aL (a++b)=(ky aL a&&ky aL b)
 | [],b=>by simp[ky]
 |s::a,b=>by
  simp only[HC,ky]
  rw[OY aL a b]
  rw[wD]
noncomputable def Ek:Look:={strict:= !(BE cA.main.body).all cThrough.contains,foot:=af,bare:=AY (xb cA cA.main.body) [cE "vars",cE "dir",cE "locals"]}
noncomputable def pC:Look:={strict:=ac,foot:=af,bare:= []}
theorem aa8:(BE cA.main.body).all cThrough.contains=aa:=by kernel_rfl
theorem Xd (f:a7->Bool) (a b c:a7) (aq:f a=ac) (aC:f b=ac) (bz:f c=ac):(AY f [a,b,c]).isEmpty=aa:=by
 simp only[AY,aq,aC,bz]
 rfl
theorem abb:xb cA cA.main.body (cE "vars")=ac:=by kernel_rfl
theorem abc:xb cA cA.main.body (cE "dir")=ac:=by kernel_rfl
theorem abd:xb cA cA.main.body (cE "locals")=ac:=by kernel_rfl
theorem aba:(AY (xb cA cA.main.body) [cE "vars",cE "dir",cE "locals"]).isEmpty=aa:=Xd _ _ _ _ abb abc abd
theorem abf:Ek=pC:=by
 unfold Ek pC
 rw[aa8,HM.mp aba]
 rfl
theorem ace:ky pC (cA.main.body.take 23)=aa:=by kernel_rfl
theorem acf:ky pC ((cA.main.body.drop 23).take 1)=aa:=by kernel_rfl
theorem acg:ky pC ((cA.main.body.drop 24).take 30)=aa:=by kernel_rfl
theorem ach:ky pC ((cA.main.body.drop 54).take 1)=aa:=by kernel_rfl
theorem aci:ky pC (cA.main.body.drop 55)=aa:=by kernel_rfl
theorem zB (aL:Look) (l:List cy) (n m:Nat) (aq:ky aL ((l.drop n).take m)=aa) (aC:ky aL (l.drop (n+m))=aa):ky aL (l.drop n)=aa:=by
 rw[<-p4 m (l.drop n),OY,aq,AW,aC]
 rfl
theorem acd:ky Ek cA.main.body=aa:=by
 rw[abf]
 exact zB pC cA.main.body 0 23 ace (zB _ _ 23 1 acf (zB _ _ 24 30 acg (zB _ _ 54 1 ach aci)))
theorem ab7:(namesMeet cA cA.main.body λ_ n=>attrL n)=aa:=by kernel_rfl
theorem ab8:namesResolve cA=aa:=by kernel_rfl
theorem abo:looksOpen cA=aa:=by
 unfold looksOpen
 repeat' with_reducible refine rU ?_ ?_
 rotate_left 2
 ·exact ab8
 rotate_left 1
 ·exact acd
 ·exact ab7
 all_goals kernel_rfl
theorem adi:rQ.row.wellSaid=aa:=by
 unfold OpenRow.wellSaid OpenRow.partSaid
 repeat' with_reducible refine rU ?_ ?_
 ·exact abo
 all_goals kernel_rfl
theorem ws:rQ.wellSaid=aa:=by
 unfold OpenLaw.wellSaid
 repeat' with_reducible refine rU ?_ ?_
 ·exact adi
 all_goals kernel_rfl
section
open TablesWhole
theorem Qq (t:cN) (c:TablesWhole.Ctx) (s:cN): ∀a b:List cy,wSs holds t c s (a++b)=(wSs holds t c s a&&wSs holds t c s b)
 | [],b=>by simp[wSs,holds]
 |x::a,b=>by
  simp only[HC,wSs]
  rw[Qq t c s a b]
  exact(wD _ _ _).symm
theorem ah9 (m:Module) (aq:wSs gather m.scope ⟨m.scope,[],[],[],af⟩ m.scope m.body= []) (aC:noTwice m.scope=aa) (bz:wSs holds m.scope ⟨m.scope,[],[],[],af⟩ m.scope m.body=aa):wModule holds m=aa:=by
 unfold wModule
 rw[aq,aC]
 exact(show(aa&&(aa&&(wSs holds m.scope ⟨m.scope,[],[],[],af⟩ m.scope m.body&&aa)))=aa by rw[bz];rfl)
theorem aib (p:cP) (aq:wModule holds p.main=aa) (aC:p.modules= []) (bz:p.parses= []) (ee:p.harvested= []):p.tablesWhole=aa:=by
 unfold Program.tablesWhole wProgram
 rw[aq,aC,bz,ee]
 rfl
def oq (l:List cy):Bool:=wSs holds cA.main.scope ⟨cA.main.scope,[],[],[],af⟩ cA.main.scope l
theorem agN:oq (cA.main.body.take 23)=aa:=by kernel_rfl
theorem agO:oq ((cA.main.body.drop 23).take 1)=aa:=by kernel_rfl
theorem agP:oq ((cA.main.body.drop 24).take 30)=aa:=by kernel_rfl
theorem agQ:oq ((cA.main.body.drop 54).take 1)=aa:=by kernel_rfl
theorem agR:oq (cA.main.body.drop 55)=aa:=by kernel_rfl
theorem agW:wSs gather cA.main.scope ⟨cA.main.scope,[],[],[],af⟩ cA.main.scope cA.main.body= []:=by kernel_rfl
theorem ack:noTwice cA.main.scope=aa:=by kernel_rfl
theorem Aa (l:List cy) (n m:Nat) (aq:oq ((l.drop n).take m)=aa) (aC:oq (l.drop (n+m))=aa):oq (l.drop n)=aa:=by
 rw[<-p4 m (l.drop n),oq,Qq,AW]
 exact rU aq aC
theorem ag8:cA.tablesWhole=aa:=aib cA (ah9 cA.main agW ack (Aa cA.main.body 0 23 agN (Aa _ 23 1 agO (Aa _ 24 30 agP (Aa _ 54 1 agQ agR))))) rfl rfl rfl
end
noncomputable abbrev jj:OpenRow:=rQ.row
noncomputable def dL:DefRec:=match defOf m4 jj.name with
 |some (d,_)=>d
 |none=> ⟨jj.name,⟨[],[],af,[],[],af,[]⟩,[],cA.main.scope,⟨0,0,0,0⟩⟩
theorem Yp:defOf m4 jj.name=ab (dL,[]):=by kernel_rfl
theorem YT:jj.prog.theDef jj.name=ab (dL.params,dL.body,dL.scope):=by kernel_rfl
theorem hy:kwWritten? dL.params.kwonlyargs dL.params.kw_defaults=ab []:=by kernel_rfl
noncomputable def xB:iz:=dL.params.args.headD ⟨jj.name,af,⟨0,0,0,0⟩⟩
theorem YM:dL.params=⟨[],[xB],af,[],[],af,[]⟩:=by kernel_rfl
theorem pl:Q7.nm 93=xB.arg:=by kernel_rfl
theorem bu:Q7.xV dL.scope dL.body=dL.body:=by kernel_rfl
theorem eS:Q7.Nn dL.scope dL.body=aa:=by kernel_rfl
theorem YG:chainsOk m4=aa:=by kernel_rfl
theorem YH:(opening jj.prog).tameTopW=aa:=by kernel_rfl
theorem YI:(!bearImports (SJ jj.prog))=aa:=by kernel_rfl
theorem YJ:(frees jj.toRowW&&jj.within.isEmpty)=aa:=by kernel_rfl
theorem mQ:(chainsOk m4&&opensWell jj.prog&&(frees jj.toRowW&&jj.within.isEmpty))=aa:=rU (rU YG (by unfold opensWell;exact rU YH YI)) YJ
theorem Yh:jj.prog.bare:=⟨rfl,rfl,rfl,rfl,rfl,ag8⟩
theorem YU:jj.toRowW.promised:=⟨[.list [.int 3,.int 1]],by decide+kernel,by decide+kernel⟩
theorem hold:rQ.Holds:=holds_law ws λafw=>
 holds_open (r:=jj) (q:=m4) (loose:=zg) (Xt:=B0) (XP:=XL m4 []) (Yf:=SE) (Ya:=λw=>e4 w.params) (YP:=Q7.uh) (d:=dL) (kwd:= []) aaJ (λw s e=>by rw[e];exact ain w) aio
  (λs e=>xl_of s (fV.mp e).1) XL.keeps Yp YT hy (λs e=>recFacts_of (fV.mp e).2) rfl afw mQ Yh YU (Q7.ahU YM pl bu eS)
end Hd
theorem PySem.Challenge.cw_qm0007_07_holds : PySem.Challenge.rw_qm0007_07.Holds :=
  Hd.hold
