import PyProof.Rows.All
import Wide.All
import OpenK.AllK
import Wide.FinOn
import PySem.Challenge.RW_qm0007_07
set_option Elab.async false
set_option maxRecDepth 100000
set_option maxHeartbeats 0
set_option genInjectivity false
set_option genSizeOf false
set_option genCtorIdx false
set_option bootstrap.genMatcherCode false
set_option backward.match.sparseCases false
set_option linter.all false
open Array renaming any_toList→Rc,eraseIdxIfInBounds→Rd,getElem?_eq_getElem→Rf,getElem?_eq_none→Rg,mem_toList_iff→wF,toList_inj→wG
open Bool renaming and_assoc→wI,and_comm→Hm,and_eq_true→gF,and_eq_true_iff→fW,and_false→hq,and_self→Rh,and_true→Ri,eq_false_iff→Hn,eq_iff_iff→AN,false→ac,false_and→wJ,false_eq_true→Rj,false_ne_true→oC,false_or→oD,not_eq_true'→oE,not_false→Rk,not_true→wK,or_eq_false_iff→AO,or_eq_true→nk,or_eq_true_iff→rK,or_false→rL,or_true→Rl,true→aa,true_and→Ho
open Eq renaming trans→AU
open Exists renaming elim→ak
open False renaming elim→fL
open ForIn renaming forIn→wR
open ForInStep renaming yield→rP
open Int renaming le_of_lt→Ry,le_trans→AX,max_eq_right→HD,min_eq_left→Rz,natCast_nonneg→kV,natCast_pos→RA,ne_of_gt→RB,negSucc→tP,negSucc_lt_zero→HE,not_le→RC,not_lt→HF,ofNat→c1,ofNat_le→oH,ofNat_lt→AZ
open Int.ofNat renaming inj→AY
open List renaming all_eq_true→fM,any_cons→RJ,any_eq_true→RK,any_toArray→RL,append_assoc→bt,append_eq_nil_iff→RM,append_nil→dj,append_toArray→HG,cons_append→RN,cons_ne_nil→HH,contains_iff_mem→rT,drop→HI,dropLast_eq_take→RO,drop_drop→A1,drop_eq_getElem_cons→RP,drop_left→RQ,drop_nil→A2,drop_of_length_le→HJ,drop_zero→HK,eq_nil_of_length_eq_zero→wW,eq_of_mem_replicate→RR,filter→A3,filterMap_cons→HL,find?→HM,find?_cons→wX,flatten_cons→HN,forall_mem_cons→wY,getD_eq_getElem?_getD→A4,getElem?_append_right→tR,getElem?_drop→RS,getElem?_eq_getElem→nt,getElem?_eq_none_iff→wZ,getElem?_eq_some_iff→A5,getElem?_map→HO,getElem?_toArray→lD,getElem_map→RT,getElem_mem→HP,getLastD_cons→RU,isEmpty_iff→HQ,length→A6,length_append→bL,length_cons→du,length_drop→A7,length_map→eg,length_nil→eY,length_replicate→A8,length_tail→w0,length_take→HR,lookup_cons→mq,lookup_eq_none_iff→RV,lookup_nil→HS,map_append→lE,map_cons→p5,map_eq_nil_iff→RW,map_map→oI,mem_append→A9,mem_cons→e6,mem_cons_of_mem→eZ,mem_cons_self→et,mem_map→w1,mem_map_of_mem→tS,mem_of_getElem?→HT,mem_of_mem_take→HU,mem_range→HV,mem_singleton→jU,nil_append→RX,nodup_append→Ba,nodup_cons→p6,nodup_nil→RY,not_mem_nil→eI,pairwise_cons→RZ,push_toArray→R0,range→Bb,replicate→gQ,replicate_succ→R1,size_toArray→hr,take_append_drop→p7,take_left→R2,take_nil→tT,take_of_length_le→HW,zip_cons_cons→R3
open List.Pairwise renaming cons→aiV,map→A0
open List.cons renaming inj→gw
open Nat renaming add_assoc→p9,add_comm→kW,add_le_add→fX,add_le_add_left→iX,add_le_add_right→h2,add_right_comm→R7,add_sub_cancel→R8,add_sub_cancel_left→Be,beq→bA,beq_refl→Bf,ble→gG,ble_eq_true_of_le→mr,blt→d6,eq_of_beq_eq_true→fh,le_add_left→lG,le_add_left_of_le→HY,le_add_right→gH,le_of_ble_eq_true→cS,le_of_eq→fi,le_of_lt→kx,le_of_not_le→HZ,le_of_sub_eq_zero→R9,le_refl→fj,le_succ→ky,le_succ_of_le→tV,le_total→Sa,le_trans→bf,log2_le_self→Sb,lt_irrefl→H0,lt_of_le_of_lt→w3,lt_of_lt_of_le→qa,lt_or_ge→Sd,lt_succ_of_le→tW,lt_succ_of_lt→Se,lt_succ_self→nu,lt_trans→Bg,min_eq_left→w4,min_eq_right→H2,min_le_left→Sf,min_le_right→Sg,mod_lt→ms,mul_le_mul_left→tX,ne_of_beq_eq_false→w5,ne_of_gt→H3,ne_of_lt→mu,not_le_of_lt→H4,not_lt→mv,sub_eq_zero_of_le→H5,sub_le→oK,sub_le_sub_right→Sh,sub_self→w6,succ→tY,succ_le_succ→iY,succ_ne_self→Si,succ_pos→w7,zero_add→jt,zero_le→fw
open Nat.succ renaming inj→Bh
open Ne renaming symm→iZ
open Option renaming bind_eq_some_iff→qb,isNone_iff_eq_none→Bj,isSome_iff_exists→w8,isSome_or→Sj,map→H6,map_eq_some_iff→qc,none→af,or_assoc→Sk,or_none→Sl,some→ab
open Option.some renaming inj→bQ
open Or renaming inl→d7,inr→cW
open Prod renaming fst→H7
open Prod.mk renaming inj→t4
open PyProof.Rows renaming StrsAre→Bk,assign_Name→qe,call_isinstance_yes→aiW,joinParts_cons→Bl,joinParts_consE→Sn
open PySem renaming Addr→aR,Arg→iA,Around→c2,Builtin→oO,CmpOp→ht,DictEntry→cT,Env→dm,Flow→nx,FuncData→jV,GenState→Ig,Heap→cw,Keyword→mw,MethodOn→Ij,Model→t6,NameKind→mx,Obj→bX,Operator→my,OsState→cf,Params→cx,Pos→eu,Program→cO,Result→ny,Scope→cC,Sem→hK,Shared→az,Stmt→ct,Str→aZ,SubscriptOn→rW,Thread→w9,Value→ah,World→ba,arm_eval_BoolOp→SV,arm_exec_Assign→SW,assignEach→oU,backTo→i0,backToKw→mA,behindInMarks→BD,binaryOp→qf,bindArgs→ID,bindC→t8,boolOp→BE,builtinLookup_eq_fast→SX,builtinsNs→oV,cStatics→xi,call→iB,callEnv→jW,callWith→t9,call_isinstance→SY,call_meets→IE,call_meetsIn→BF,cellOf→BG,closureFor→IF,codeAny→nA,codeAny_builtin→S0,codeAny_forLoop→S1,compEnvC→jw,compareOp→qg,eval→dz,evalEach→xj,evalPart→BH,eval_Subscript→S2,exec→qh,execs→nB,fillsInplaceSlot→S3,foldedSetIterable→S4,getAttr→BI,getitemInPython_of_ne→S5,importedModules→BJ,inplaceOp→xk,intText?→IG,isinstance_outer→S6,keeperOf→r1,keywordEach→mB,letOwnedTupleGo→IH,lookup_relabel_local→S7,mainNs→jx,methodCallForm→II,methodCallPos→BK,model→bp,notedBy→ua,seqIndex?→xl,sizeLine→d0,sizeLine_eq→gj,sliceRange→xm,sliceRange_one→S8,standAt→xn,starEach→h3,strIterType→r2,strKind→BL,strValues→BM,swappedStores→BN,swapsWith→xo,sysModules→lJ,treeTable→qi,typeIs_str→xp,typeLookup→IJ,typeLookup_type→S9,valueAt→r3,wpAny→bg,wpAny_Assign_Name→IK,wpAny_AugAssign_Name→Ta,wpAny_Call_Name_kw→xq,wpAny_Call_method_late→Tb,wpAny_Compare1→Tc,wpAny_Constant_int→Td,wpAny_For→BO,wpAny_List_spliced→Te,wpAny_Name→ub,wpAny_bind→bz,wpAny_call→IL,wpAny_evalAll_nil→Tf,wpAny_execs_cons→BP,wpAny_execs_nil→uc,wpAny_forIn_list→IM,wpAny_holding→gk,wpAny_isTrue_BoolOp→Tg,wpAny_letTemporaryGo→IP,wpAny_loadName_local→BQ,wpAny_loadPart→IQ,wpAny_loadPart'→nC,wpAny_mkText→xr,wpAny_mono→h4,wpAny_operating→BR,wpAny_pure→dc,wpAny_pyIter_dict→Th,wpAny_pyIter_list→BS,wpAny_pyIter_listiter→Ti,wpAny_pyIter_range→Tj,wpAny_pyNext_dict_end→Tn,wpAny_richCompare_same_room→To,wpAny_specialOf→IR,wpAny_standAt→gI,wpAny_storeName_local→BU,wpAny_truthy_bool→ud,wpAny_unpack_tuple→IS
open PySem.Around renaming under_plainId→So
open PySem.Builtin.List renaming listTooLong→Sp
open PySem.Builtin.Range renaming rangeSize→aiX
open PySem.Builtin.Str renaming strSliceIndices→Bm,tooLong→Sq
open PySem.Builtin.Tuple renaming tupleCompareSizes→aiY
open PySem.Calls renaming loadGlobal_builtin→H8,spliced_cons→Bn,spliced_nil→H9
open PySem.Challenge renaming pw_qm0007_07→Ia,rw_qm0007_07→rU
open PySem.Data renaming noConfusion→Ib
open PySem.Env renaming kindOf→Ic
open PySem.F renaming plainAttrs_dict→Sr,plainAttrs_list→Bo,slot_dict_copy→Ss,slot_dict_keys→Su,slot_list_append→Sv,slot_list_eq→Sw,slot_list_getitem→Sx,slot_list_iadd→Ie,slot_list_pop→Sy,slot_str_getitem→Sz,slot_str_mod→SA,slot_tuple_eq→SD,type_list_pop→SE
open PySem.Heap renaming SameBut→Bp,get?_push_of_some→t5,get?_push_size→ju,get?_update_self→SF,lt_size→oP,size_push→SG
open PySem.Heap.SameBut renaming update→aiZ
open PySem.IsL renaming update→SH
open PySem.IsRange renaming new→SI
open PySem.Made renaming str→Ih,val→Ii
open PySem.NameKind renaming cell→SJ,free→jv
open PySem.Obj renaming mapSeq→Bq,putName→Ik
open PySem.P renaming truthy_str→SK
open PySem.PyData renaming keyHash→kX
open PySem.SeqAt renaming EqAt→Il
open PySem.SeqAt.EqAt renaming int_int→SM,same→Im,str_str→Io
open PySem.Shared renaming heap→SN
open PySem.Str renaming length→Ip,mk→rV,ofString→cF
open PySem.Txt renaming startswith→SO
open PySem.Value renaming bool→SP,isInt→SQ,isStrOf→Br,isStrOf_shape→Iq,ref→xa,str→SR
open PySem.Value.ref renaming inj→Bs
open PySem.W renaming BT→Ir,Frag→bZ,SharedT→t7,WData→xb,behindTheImports→SS,boot_drawn→oQ,boot_heap→oR,boot_toks→Bu,callWith_of→Bv,clsIn→mz,copiedNames→rX,dictOf→eD,emptyDict→xc,findIn→hL,getL→lH,handedIn→nz,hasDictIn→Bw,instObj→kY,keepIn→Bx,ks_loadName_global→Iz,lookIn→By,lookIn_dict→Bz,look_both→rY,makesIn→rZ,methodObj→xd,namesMeet→IA,namesResolve→IB,noRoadLSs→kz,plainGet→BA,plainGet_of→xe,plainOver→IC,putL→lI,putName_dict→BB,readsOut→xf,specialIn→oS,takerIn→BC,takesIn→xg,topFrame→r0,topRun→xh,typeIn→oT
open PySem.W.WData renaming bool→Bt,int→It
open PySem.W.WShape renaming has→Iu,hasAll→Iv,hasItems→Iw
open PySem.W.WTm renaming eq→Iy
open PySem.WalksT renaming enumerateD→SU
open ToString renaming toString→qn
open PySem PySem.W PySem.Calls PyProof.Rows
noncomputable section
namespace Q7
section
theorem bT {α β:Sort _} {p:α->β->Prop} {G:Prop} (h: ∃a b,p a b) (k: ∀a b,p a b->G):G:=h.elim λa h=>h.elim λb h=>k a b h
theorem c5 {α β ml:Sort _} {p:α->β->ml->Prop} {G:Prop} (h: ∃a b c,p a b c) (k: ∀a b c,p a b c->G):G:=h.elim λa h=>h.elim λb h=>h.elim λc h=>k a b c h
theorem ni {α β ml oz:Sort _} {p:α->β->ml->oz->Prop} {G:Prop} (h: ∃a b c d,p a b c d) (k: ∀a b c d,p a b c d->G):G:=h.elim λa h=>h.elim λb h=>h.elim λc h=>h.elim λd h=>k a b c d h
theorem wy {α β ml oz rF:Sort _} {p:α->β->ml->oz->rF->Prop} {G:Prop} (h: ∃a b c d e,p a b c d e) (k: ∀a b c d e,p a b c d e->G):G:=h.elim λa h=>h.elim λb h=>h.elim λc h=>h.elim λd h=>h.elim λe h=>k a b c d e h
theorem QZ {α β ml oz rF wB:Sort _} {p:α->β->ml->oz->rF->wB->Prop} {G:Prop} (h: ∃a b c d e f,p a b c d e f) (k: ∀a b c d e f,p a b c d e f->G):G:=h.elim λa h=>h.elim λb h=>h.elim λc h=>h.elim λd h=>h.elim λe h=>h.elim λf h=>k a b c d e f h
theorem aiI {α β ml oz rF wB He:Sort _} {p:α->β->ml->oz->rF->wB->He->Prop} {G:Prop} (h: ∃a b c d e f g,p a b c d e f g) (k: ∀a b c d e f g,p a b c d e f g->G):G:=h.elim λa h=>h.elim λb h=>h.elim λc h=>h.elim λd h=>h.elim λe h=>h.elim λf h=>h.elim λg h=>k a b c d e f g h
theorem aiH {α β ml oz rF wB He aiP ι aiQ aiR aiS aiT:Sort _} {p:α->β->ml->oz->rF->wB->He->aiP->ι->aiQ->aiR->aiS->aiT->Prop} {G:Prop} (h: ∃a b c d e f g i j l m n o,p a b c d e f g i j l m n o) (k: ∀a b c d e f g i j l m n o,p a b c d e f g i j l m n o->G):G:=h.elim λa h=>h.elim λb h=>h.elim λc h=>h.elim λd h=>h.elim λe h=>h.elim λf h=>h.elim λg h=>h.elim λi h=>h.elim λj h=>h.elim λl h=>h.elim λm h=>h.elim λn h=>h.elim λo h=>k a b c d e f g i j l m n o h
noncomputable def l3:List String:= ["_","c","i","m","n","br","ch","id","due","end","eof","got","int","key","law","len","max","pop","str","tag","Mark","Rows","copy","data","done","emit","flow","head","join","keys","line","list","mark","name","peek","root","rows","self","step","tags","tape","text","told","wide","Event","Token","asked","block","count","empty","event","first","flags","found","hints","index","later","level","lines","major","marks","minor","other","plain","range","split","start","state","style","super","token","value","width","write","Parser","Reader","anchor","append","breaks","buffer","chunks","closed","column","ending","events","extend","folded","handle","indent","length","parser","prefix","scalar","script","sorted","spaces","states","stream","tokens","update","Emitter","Scanner","choices","emitter","forward","handles","hanging","indents","mapping","pointer","version","KeyToken","TagToken","__init__","analysis","chomping","encoding","end_mark","explicit","get_mark","implicit","sequence","tag_mark","NodeEvent","SimpleKey","YAMLError","_law_next","_law_text","_law_told","canonical","character","check_key","enumerate","get_event","get_token","increment","indention","indicator","multiline","AliasEvent","AliasToken","TokenClass","ValueToken","_law_lines","best_width","flow_level","indentless","isinstance","line_break","max_indent","min_indent","open_ended","parse_node","peek_event","peek_token","raw_buffer","raw_decode","simple_key","start_mark","startswith","whitespace","AnchorToken","ParserError","ReaderError","ScalarEvent","ScalarToken","_law_PIECES","allow_block","best_indent","break_space","check_token","check_value","expect_node","handle_text","line_breaks","need_events","prefix_text","process_tag","space_break","tag_handles","DEFAULT_TAGS","EmitterError","ScannerError","_law_ENDINGS","_law_HANDLES","fetch_folded","flush_stream","prepared_tag","root_context","scan_tag_uri","tag_prefixes","tokens_taken","version_text","write_folded","write_indent","yaml_version","BlockEndToken","_is_printable","allow_unicode","current_event","expect_scalar","fetch_literal","leading_break","leading_space","unwind_indent","write_literal","DirectiveToken","FlowEntryToken","ScalarAnalysis","StreamEndEvent","StreamEndToken","analyze_scalar","expect_nothing","previous_break","previous_space","process_anchor","process_scalar","scan_directive","stream_pointer","trailing_break","trailing_space","BlockEntryToken","MappingEndEvent","MarkedYAMLError","best_line_break","check_directive","check_printable","fetch_directive","flow_indicators","increase_indent","mapping_context","need_whitespace","prepare_version","prepared_anchor","scan_line_break","scan_tag_handle","write_indicator","DocumentEndEvent","DocumentEndToken","SequenceEndEvent","StreamStartEvent","StreamStartToken","allow_flow_plain","allow_simple_key","block_indicators","fetch_stream_end","min_token_number","need_more_events","need_more_tokens","parse_block_node","sequence_context","write_line_break","write_stream_end","MappingStartEvent","allow_block_plain","check_block_entry","fetch_more_tokens","leading_non_space","scan_block_scalar","CollectionEndEvent","DocumentStartEvent","DocumentStartToken","SequenceStartEvent","check_document_end","fetch_block_scalar","fetch_document_end","fetch_stream_start","parse_document_end","parse_stream_start","prepare_tag_handle","prepare_tag_prefix","process_directives","scan_to_next_token","simple_key_context","special_characters","unicode_characters","write_stream_start","FlowMappingEndToken","allow_double_quoted","allow_single_quoted","choose_scalar_style","expect_document_end","expect_stream_start","indentless_sequence","scan_directive_name","write_tag_directive","CollectionStartEvent","DEFAULT_TAG_PREFIXES","FlowSequenceEndToken","check_document_start","check_empty_document","expect_document_root","fetch_document_start","parse_document_start","possible_simple_keys","FlowMappingStartToken","determine_block_hints","expect_document_start","BlockMappingStartToken","FlowSequenceStartToken","followed_by_whitespace","parse_document_content","preceded_by_whitespace","BlockSequenceStartToken","write_version_directive","fetch_document_indicator","next_possible_simple_key","scan_block_scalar_breaks","scan_tag_directive_value","scan_tag_directive_handle","scan_tag_directive_prefix","scan_yaml_directive_value","remove_possible_simple_key","scan_yaml_directive_number","stale_possible_simple_keys","expect_first_document_start","scan_directive_ignored_line","scan_block_scalar_indicators","parse_implicit_document_start","scan_block_scalar_indentation","scan_block_scalar_ignored_line"]
noncomputable def uJ:List Nat->Nat->Nat
 | [],a=>a
 |c::l,a=>uJ l (a*1114112+c+1)
noncomputable def ux (a:Nat):List Nat->Bool
 | []=>aa
 |b::l=>d6 a b&&ux b l
theorem Ui {l:List Nat}: ∀{a:Nat},ux a l=aa->(∀x∈l,a<x)/\l.Pairwise (· < ·):=by
 induction l with
 |nil=>exact λ_=> ⟨λx h=>absurd h eI,.nil⟩
 |cons b l ai=>
  intro a h
  have h:=fW.mp h
  have ag:a<b:=cS h.1
  refine⟨λx aH=> ?_,.cons (ai h.2).1 (ai h.2).2⟩
  cases aH with
  |head=>exact ag
  |tail _ aH=>exact Bg ag ((ai h.2).1 x aH)
theorem acj:ux 0 (l3.map λs=>uJ (cF s).cps.toList 0)=aa:=by decide+kernel
theorem ack:(l3.all λs=> (cF s).cps.all λc=>decide (c<1114112))=aa:=by decide+kernel
def nm (n:Nat):aZ:=match l3[n]? with
 |some s=>cF s
 |none=> ⟨#[1114112+n]⟩
theorem n9 (a b:Nat) (h:nm a=nm b):a=b:=by
 have low: ∀(n:Nat) (s:String),l3[n]? =ab s-> ∀k,cF s≠⟨#[1114112+k]⟩:=λn s e k q=>by
  have:=fM.mp ack s (HT e)
  rw[q] at this
  simp at this
  omega
 unfold nm at h
 cases aE:l3[a]? with
 |none=>
  cases ag:l3[b]? with
  |none=>
   rw[aE,ag] at h
   simp at h
   exact h
  |some t=>rw[aE,ag] at h;exact absurd h.symm (low b t ag a)
 |some s=>
  cases ag:l3[b]? with
  |none=>rw[aE,ag] at h;exact absurd h (low a s aE b)
  |some t=>
   rw[aE,ag] at h
   have h:cF s=cF t:=h
   obtain ⟨aaC,j3⟩:=A5.mp aE
   obtain ⟨lb,b0⟩:=A5.mp ag
   have P:=List.pairwise_iff_getElem.mp (Ui acj).2
   have aA:(l3.map λs=>uJ (cF s).cps.toList 0).length=l3.length:=eg ..
   have eq:(l3.map λs=>uJ (cF s).cps.toList 0)[a]'(by rw[aA];exact aaC)=(l3.map λs=>uJ (cF s).cps.toList 0)[b]'(by rw[aA];exact lb):=by
    rw[RT,RT,j3,b0,h]
   rcases Nat.lt_trichotomy a b with q|q|q
   ·exact absurd eq (mu (P a b _ _ q))
   ·exact q
   ·exact absurd eq.symm (mu (P b a _ _ q))
noncomputable abbrev aK (l:List Nat):aZ:=⟨l.toArray⟩
inductive aj where
 |none|bool (b:Bool) |int (i:Int) |str (s:List Nat) |st (a:Nat) |dd (id:String) |ty (n:String) |any
 |tup (l:List aj) |lst (l:List aj) |inst (c:Nat) (ns:List Nat) (l:List aj) |ek (ks:List (List Nat)) (l:List aj)
inductive ae where
 |f (v:aj)
 |aq (x:Nat)
 |dy (x:Nat) (f:Nat)
inductive cc where
 |inst (c:Nat) (ns:List Nat) (l:List ae)
 |list (l:List ae)
 |dict (ks:List (List Nat)) (l:List ae)
abbrev b5:=List (Nat×cc)
noncomputable def aL {α:Type} (n:Nat):List (Nat×α)->Option α
 | []=>af
 |p::r=>match bA p.1 n with
  |true=>ab p.2
  |false=>aL n r
noncomputable def up {α:Type} (n:Nat) (v:α):List (Nat×α)->List (Nat×α)
 | []=> [(n,v)]
 |p::r=>match bA p.1 n with
  |true=> (n,v)::r
  |false=>p::up n v r
def gu {α:Type} (n:Nat) (l:List (Nat×Option α)):Option α:=match aL n l with
 |some o=>o
 |none=>af
def ng {α:Type} (n:Nat) (v:α) (l:List (Nat×Option α)):List (Nat×Option α):=up n (ab v) l
structure St where
 loc:List (Nat×Option ae)
 hp:b5
 lh:b5
 lu:List Nat
theorem beq_eq (a b:Nat):bA a b=decide (a=b):=BT.beq_eq a b
theorem vy {α:Type} (n:Nat) (v:α) (l:List (Nat×α)) (x:Nat):aL x (up n v l)=if x=n then ab v else aL x l:=by
 have K: ∀r:List (Nat×α),(match bA n x with
  |true=>ab v
  |false=>aL x r)=if x=n then ab v else aL x r:=λr=>by
  cases q:bA n x with
  |true=>exact(if_pos (fh q).symm).symm
  |false=>exact(if_neg (iZ (w5 q))).symm
 induction l with
 |nil=>exact K []
 |cons p r ai=>
  show aL x (match bA p.1 n with
   |true=> (n,v)::r
   |false=>p::up n v r)=if x=n then ab v else(match bA p.1 x with
   |true=>ab p.2
   |false=>aL x r)
  cases q:bA p.1 n with
  |true=>
   refine(K r).trans ?_
   rw[fh q]
   cases fa:bA n x with
   |true=>rw[if_pos (fh fa).symm,if_pos (fh fa).symm]
   |false=>rfl
  |false=>
   show(match bA p.1 x with
    |true=>ab p.2
    |false=>aL x (up n v r))=_
   rw[ai]
   cases fa:bA p.1 x with
   |true=>exact(if_neg λe=>w5 q ((fh fa).trans e)).symm
   |false=>rfl
theorem abq {α:Type} (n:Nat) (v:α) (l:List (Nat×Option α)) (x:Nat):gu x (ng n v l)=if x=n then ab v else gu x l:=by
 unfold gu ng
 rw[vy]
 by_cases h:x=n
 ·rw[if_pos h,if_pos h]
 ·rw[if_neg h,if_neg h]
inductive bC {α β:Type} (R:α->β->Prop):List α->List β->Prop
 |nil:bC R [] []
 |cons {a:α} {b:β} {l:List α} {m:List β} (h:R a b) (t:bC R l m):bC R (a::l) (b::m)
theorem bC.mono {α β:Type} {R R':α->β->Prop} (f: ∀a b,R a b->R' a b) {l:List α} {m:List β} (x:bC R l m):bC R' l m:=by
 induction x with
 |nil=>exact .nil
 |cons h _ ai=>exact .cons (f _ _ h) ai
theorem bC.length {α β:Type} {R:α->β->Prop} {l:List α} {m:List β} (x:bC R l m):l.length=m.length:=by
 induction x with
 |nil=>rfl
 |cons _ _ ai=>simp[ai]
abbrev bh:=aR->Option bX
class WP where
 P:cx
variable [WP]
noncomputable abbrev lobj (vs:List ah) (n:Nat):bX:={cls:= .type "list",data:= .seq vs.toArray n}
noncomputable abbrev md (vs:List ah) (n:Nat):bX:={cls:= .type "tuple",data:= .seq vs.toArray n}
mutual
inductive bq (aP:bh):aj->ah->Prop
 |none:bq aP .none .none
 |bool (b:Bool):bq aP (.bool b) (.bool b)
 |int (i:Int) (t:Tok):bq aP (.int i) (.int i t)
 |str (s:List Nat) (t:Tok) (h:s.length<=d0):bq aP (.str s) (.str (aK s) t)
 |st (a:Nat):bq aP (.st a) (.ref a)
 |dd (i:String) (h:nz (.builtin i)=aa):bq aP (.dd i) (.builtin i)
 |ty (n:String):bq aP (.ty n) (.type n)
 |any (v:ah) (h:nz v=aa):bq aP .any v
 |tup {l:List aj} {a:aR} {vs:List ah} (h:aP a=ab (md vs 0)) (aA:ez aP l vs):bq aP (.tup l) (.ref a)
 |lst {l:List aj} {a:aR} {vs:List ah} {n:Nat} (h:aP a=ab (lobj vs n)) (aA:ez aP l vs):bq aP (.lst l) (.ref a)
 |inst {c:Nat} {ns:List Nat} {l:List aj} {a d:aR} {es:List cT} {n:Nat} (h:aP a=ab (kY c d))
   (hd:aP d=ab (eD es n)) (aS:bC (λk e=> ∃t,(e:cT).key= .str (nm k) t) ns es) (aA:ez aP l (es.map (·.val))):bq aP (.inst c ns l) (.ref a)
 |ek {ks:List (List Nat)} {l:List aj} {a:aR} {es:List cT} {n:Nat} (bY:(ks.Nodup/\ ∀k∈ks,k.length<=d0)/\(a==lJ)=ac) (h:aP a=ab (eD es n))
   (aS:bC (λk e=> (∃t,(e:cT).key= .str (aK k) t)/\e.hash=kX WP.P (aK k)) ks es) (aA:ez aP l (es.map (·.val))):bq aP (.ek ks l) (.ref a)
inductive ez (aP:bh):List aj->List ah->Prop
 |nil:ez aP [] []
 |cons {v:aj} {w:ah} {l:List aj} {ws:List ah} (h:bq aP v w) (t:ez aP l ws):ez aP (v::l) (w::ws)
end
def dT (F G:bh):Prop:= ∀b o,F b=ab o->G b=ab o
theorem dT.refl (F:bh):dT F F:=λ_ _ e=>e
theorem dT.trans {F G H:bh} (x:dT F G) (y:dT G H):dT F H:=λb o e=>y b o (x b o e)
theorem bq.mono {F G:bh} (k:dT F G) {v:aj} {w:ah} (h:bq F v w):bq G v w:=
 bq.rec (motive_1:=λv w _=>bq G v w) (motive_2:=λl ws _=>ez G l ws) .none .bool .int .str .st .dd .ty .any (λh _ i=> .tup (k _ _ h) i) (λh _ i=> .lst (k _ _ h) i) (λh hd aS _ i=> .inst (k _ _ h) (k _ _ hd) aS i) (λP h aS _ i=> .ek P (k _ _ h) aS i) .nil (λ_ _ i j=> .cons i j) h
theorem ez.mono {F G:bh} (k:dT F G) {v:List aj} {w:List ah} (h:ez F v w):ez G v w:=
 ez.rec (motive_1:=λv w _=>bq G v w) (motive_2:=λl ws _=>ez G l ws) .none .bool .int .str .st .dd .ty .any (λh _ i=> .tup (k _ _ h) i) (λh _ i=> .lst (k _ _ h) i) (λh hd aS _ i=> .inst (k _ _ h) (k _ _ hd) aS i) (λP h aS _ i=> .ek P (k _ _ h) aS i) .nil (λ_ _ i j=> .cons i j) h
def St.g (σ:St) (x:Nat):Option cc:=match d6 x 100 with
 |true=>aL x σ.hp
 |false=>aL x σ.lh
def dO (g:Nat->Option cc) (lu:List Nat) (x:Nat):Prop:=((g x).isSome=aa/\x<100)\/x∈lu
def ec (aP:bh) (ax:Nat->aR) (U:Nat->Prop):ae->ah->Prop
 | .f v,w=>bq aP v w
 | .aq x,w=>U x/\w= .ref (ax (2*x))
 | .dy x f,w=>U x/\ ∃a,w= .ref a/\aP a=ab (xd (.ref f) (.ref (ax (2*x))))
noncomputable def glob:ae->Bool
 | .f _=>aa
 | .aq x=>d6 x 100
 | .dy x _=>d6 x 100
theorem ec.mono {F G:bh} {ax ρ':Nat->aR} {U U':Nat->Prop} (k:dT F G) (u: ∀x,U x->U' x) (r: ∀x,U x->ρ' (2*x)=ax (2*x)) {v:ae} {w:ah} (h:ec F ax U v w):ec G ρ' U' v w:=by
 cases v with
 |f v=>exact bq.mono k h
 |aq x=>exact⟨u _ h.1,by rw[r _ h.1];exact h.2⟩
 |dy x f=>exact⟨u _ h.1,ak h.2 λa e=> ⟨a,e.1,by rw[r _ h.1];exact k _ _ e.2⟩⟩
noncomputable def adr (ax:Nat->aR) (x:Nat):cc->List aR
 | .inst .. => [ax (2*x),ax (2*x+1)]
 |_=> [ax (2*x)]
def lA (aP:bh) (ax:Nat->aR) (U:Nat->Prop) (h:cw) (x:Nat):cc->Prop
 | .inst c ns l=>h.get? (ax (2*x))=ab (kY c (ax (2*x+1)))/\ ∃es n,h.get? (ax (2*x+1))=ab (eD es n)/\es.length<=1000/\
   bC (λk e=> ∃t,(e:cT).key= .str (nm k) t) ns es/\bC (λa e=>ec aP ax U a (e:cT).val/\glob a=aa) l es
 | .list l=> ∃vs n,h.get? (ax (2*x))=ab (lobj vs n)/\bC (λa v=>ec aP ax U a v/\glob a=aa) l vs
 | .dict ks l=> ∃es n,∃_:(ks.Nodup/\ ∀k∈ks,k.length<=d0)/\(ax (2*x)==lJ)=ac,h.get? (ax (2*x))=ab (eD es n)/\
   bC (λk e=> (∃t,(e:cT).key= .str (aK k) t)/\e.hash=kX WP.P (aK k)) ks es/\bC (λa e=>ec aP ax U a (e:cT).val/\glob a=aa) l es
structure fe (aP Fr:bh) (ax:Nat->aR) (g:Nat->Option cc) (lu:List Nat) (h:cw):Prop where
 bE: ∀b o,aP b=ab o->h.get? b=ab o
 fr: ∀b o,Fr b=ab o->h.get? b=ab o/\aP b=af
 cell: ∀x ao,g x=ab ao->lA aP ax (dO g lu) h x ao
 ca: ∀x ao,g x=ab ao-> ∀a∈adr ax x ao,aP a=af/\Fr a=af
 gn: ∀x y ao bo,g x=ab ao->g y=ab bo->x≠y-> ∀a∈adr ax x ao,a∉adr ax y bo
structure R4 (aP Fr:bh) (ax:Nat->aR) (L:aR) (σ:St) (h:cw):Prop where
 ns: ∃m,h.Ns L m/\ ∀n av,gu n σ.loc=ab av-> ∃v,m (nm n)=ab v/\ec aP ax (dO σ.g σ.lu) av v
 free:aP L=af/\Fr L=af
 b2: ∀x ao,σ.g x=ab ao->L∉adr ax x ao
 lu: ∀x∈σ.lu,100<=x
end
section
variable [WP]
structure bM where
 Fr:bh
 L:aR
 base:cw
 gens:Array Ig
 os:cf
 pin:Nat->Option aR
structure bG where
 aP:bh
 ax:Nat->aR
 σ:St
abbrev bG.U (T:bG):Nat->Prop:=dO T.σ.g T.σ.lu
structure aX (Γ:bM) (T:bG) (s:az):Prop where
 aY:fe T.aP Γ.Fr T.ax T.σ.g T.σ.lu s.heap
 lo:R4 T.aP Γ.Fr T.ax Γ.L T.σ s.heap
 base:dT Γ.base.get? T.aP
 gens:s.gens=Γ.gens
 os:s.os=Γ.os
 pin: ∀x a,Γ.pin x=ab a->T.U x/\T.ax (2*x)=a
structure bG.dS (T a5:bG):Prop where
 bE:dT T.aP a5.aP
 dN: ∀x,T.U x->a5.U x
 ax: ∀x,T.U x->a5.ax (2*x)=T.ax (2*x)
theorem bG.dS.refl (T:bG):T.dS T:=⟨dT.refl _,λ_ h=>h,λ_ _=>rfl⟩
theorem bG.dS.trans {T a5 mC:bG} (x:T.dS a5) (y:a5.dS mC):T.dS mC:=⟨x.bE.trans y.bE,λa h=>y.dN a (x.dN a h),λa h=> (y.ax a (x.dN a h)).trans (x.ax a h)⟩
abbrev bG.A (T:bG):ae->ah->Prop:=ec T.aP T.ax T.U
theorem ec.ex {T a5:bG} (x:T.dS a5) {v:ae} {w:ah} (h:T.A v w):a5.A v w:=h.mono x.bE x.dN x.ax
theorem bC.ex {T a5:bG} (x:T.dS a5) {v:List ae} {w:List ah} (h:bC T.A v w):bC a5.A v w:=h.mono λ_ _ r=>r.ex x
theorem aX.keeps {Γ:bM} {T:bG} {s:az} (N:aX Γ T s): ∀b o,Γ.base.get? b=ab o->s.heap.get? b=ab o:=λb o e=>N.aY.bE b o (N.base b o e)
theorem ix {aP eH:bh} {ax ρ':Nat->aR} {U U':Nat->Prop} {h h':cw} {x:Nat} {ao:cc} (k:dT aP eH) (u: ∀x,U x->U' x) (r: ∀x,U x->ρ' (2*x)=ax (2*x))
  (jN: ∀a∈adr ax x ao,h.get? a=h'.get? a) (zW:ρ' (2*x)=ax (2*x)) (gC:ρ' (2*x+1)=ax (2*x+1)) (C:lA aP ax U h x ao):lA eH ρ' U' h' x ao:=by
 cases ao with
 |inst c ns l=>
  obtain ⟨ap,es,n,aC,cH,bu,d8⟩:=C
  refine⟨?_,es,n, ?_,cH,bu,d8.mono λa e q=> ⟨q.1.mono k u r,q.2⟩⟩
  ·rw[zW,gC,<-jN _ (by simp[adr])];exact ap
  ·rw[gC,<-jN _ (by simp[adr])];exact aC
 |list l=>
  obtain ⟨vs,n,ap,aC⟩:=C
  exact⟨vs,n,by rw[zW,<-jN _ (by simp[adr])];exact ap,aC.mono λa e q=> ⟨q.1.mono k u r,q.2⟩⟩
 |dict ks l=>
  obtain ⟨es,n,P,ap,aC,bu⟩:=C
  exact⟨es,n,by rw[zW];exact P,by rw[zW,<-jN _ (by simp[adr])];exact ap,aC,bu.mono λa e q=> ⟨q.1.mono k u r,q.2⟩⟩
theorem lM {aP:bh} {ax:Nat->aR} {U:Nat->Prop} {h:cw} {x:Nat} {ao:cc} (C:lA aP ax U h x ao): ∀a∈adr ax x ao,∃o,h.get? a=ab o:=by
 intro a aE
 cases ao with
 |inst c ns l=>
  obtain ⟨ap,es,n,aC,_⟩:=C
  simp only[adr,e6,eI,or_false] at aE
  rcases aE with rfl|rfl
  ·exact⟨_,ap⟩
  ·exact⟨_,aC⟩
 |list l=>
  obtain ⟨vs,n,ap,_⟩:=C
  simp only[adr,e6,eI,or_false] at aE
  subst aE;exact⟨_,ap⟩
 |dict ks l=>
  obtain ⟨es,n,P,ap,_⟩:=C
  simp only[adr,e6,eI,or_false] at aE
  subst aE;exact⟨_,ap⟩
theorem aX.grow {Γ:bM} {T:bG} {s s':az} (N:aX Γ T s) (k: ∀b o,s.heap.get? b=ab o->s'.heap.get? b=ab o) (cJ:s'.gens=s.gens) (bW:s'.os=s.os):aX Γ T s' where
 aY:=⟨λb o e=>k b o (N.aY.bE b o e),λb o e=> ⟨k b o (N.aY.fr b o e).1,(N.aY.fr b o e).2⟩,
  λx ao e=>ix (dT.refl _) (λ_ h=>h) (λ_ _=>rfl) (λa aE=>by obtain ⟨o,ap⟩:=lM (N.aY.cell x ao e) a aE;rw[ap,k _ _ ap]) rfl rfl (N.aY.cell x ao e),N.aY.ca,N.aY.gn⟩
 lo:=by
  obtain ⟨⟨m,ar,hm⟩,hf,aE,d3⟩:=N.lo
  exact⟨⟨m,ar.keeps k,hm⟩,hf,aE,d3⟩
 base:=N.base
 gens:=cJ.trans N.gens
 os:=bW.trans N.os
 pin:=N.pin
theorem aX.tok {Γ:bM} {T:bG} {h:cw} {g:Array Ig} {d:Drawn} {t dR:Nat} {os:cf} (N:aX Γ T ⟨h,g,d,t,os⟩):aX Γ T ⟨h,g,d,dR,os⟩:=N.grow (λ_ _ e=>e) rfl rfl
theorem aX.toks {Γ:bM} {T:bG} {s:az} (N:aX Γ T s) (t:Nat):aX Γ T {s with toks:=t}:=N.grow (λ_ _ e=>e) rfl rfl
theorem aX.push {Γ:bM} {T:bG} {s:az} (N:aX Γ T s) (o:bX):aX Γ T {s with heap:=s.heap.push o}:=N.grow (λ_ _ e=>t5 _ e) rfl rfl
noncomputable def bh.ins (F:bh) (a:aR) (o:bX):bh:=λb=>open Classical in if b=a then ab o else F b
theorem bh.gc (F:bh) (a:aR) (o:bX):F.ins a o a=ab o:=by simp[bh.ins]
theorem bh.yZ {F:bh} {a:aR} {o:bX} (h:F a=af\/F a=ab o):dT F (F.ins a o):=λb x e=>by
 by_cases q:b=a
 ·subst q
  rcases h with h|h
  ·rw[h] at e;cases e
  ·rw[h] at e;cases e;exact F.gc b o
 ·simp[bh.ins,q,e]
theorem bh.gb (F:bh) {a b:aR} (o:bX) (h:b≠a):F.ins a o b=F b:=by simp[bh.ins,h]
theorem aX.fast {Γ:bM} {T:bG} {s:az} (N:aX Γ T s) {a:aR} {o:bX} (aE:s.heap.get? a=ab o) (hx:T.aP a=af) (DF:Γ.Fr a=af) (d9:a≠Γ.L)
  (aD: ∀x ao,T.σ.g x=ab ao->a∉adr T.ax x ao):aX Γ ⟨T.aP.ins a o,T.ax,T.σ⟩ s/\T.dS ⟨T.aP.ins a o,T.ax,T.σ⟩:=by
 have le:=bh.yZ (o:=o) (.inl hx)
 refine⟨⟨⟨λb x e=> ?_,λb x e=> ⟨(N.aY.fr b x e).1, ?_⟩,λx ao e=>ix le (λ_ h=>h) (λ_ _=>rfl) (λ_ _=>rfl) rfl rfl (N.aY.cell x ao e),λx ao e b ag=> ⟨?_,(N.aY.ca x ao e b ag).2⟩,N.aY.gn⟩,
  ⟨?_,⟨?_,N.lo.free.2⟩,N.lo.b2,N.lo.lu⟩,N.base.trans le,N.gens,N.os,N.pin⟩,le,λ_ h=>h,λ_ _=>rfl⟩
 ·dsimp only at e
  by_cases q:b=a
  ·subst q;rw[bh.gc] at e;cases e;exact aE
  ·rw[bh.gb _ _ q] at e;exact N.aY.bE b x e
 ·have:b≠a:=λq=>by subst q;rw[DF] at e;cases e
  rw[show(⟨T.aP.ins a o,T.ax,T.σ⟩:bG).aP=T.aP.ins a o from rfl,bh.gb _ _ this];exact(N.aY.fr b x e).2
 ·have:b≠a:=λq=>by subst q;exact aD x ao e ag
  rw[show(⟨T.aP.ins a o,T.ax,T.σ⟩:bG).aP=T.aP.ins a o from rfl,bh.gb _ _ this];exact(N.aY.ca x ao e b ag).1
 ·obtain ⟨m,ar,hm⟩:=N.lo.ns
  exact⟨m,ar,λn av e=>let ⟨v,a1,a2⟩:=hm n av e;⟨v,a1,a2.mono le (λ_ h=>h) λ_ _=>rfl⟩⟩
 ·rw[show(⟨T.aP.ins a o,T.ax,T.σ⟩:bG).aP=T.aP.ins a o from rfl,bh.gb _ _ (iZ d9)];exact N.lo.free.1
theorem aX.vS {Γ:bM} {T:bG} {s:az} (N:aX Γ T s) (o:bX) (hf:o.isFreed=ac):
  aX Γ ⟨T.aP.ins s.heap.objs.size o,T.ax,T.σ⟩ {s with heap:=s.heap.push o}/\T.dS ⟨T.aP.ins s.heap.objs.size o,T.ax,T.σ⟩:=by
 have fresh: ∀b x,s.heap.get? b=ab x->s.heap.objs.size≠b:=λb x e q=>absurd (oP e) (by rw[q];exact H0 _)
 refine(N.push o).fast (ju _ hf) ?_ ?_ ?_ ?_
 ·cases q:T.aP s.heap.objs.size with
  |none=>rfl
  |some x=>exact absurd rfl (fresh _ _ (N.aY.bE _ _ q))
 ·cases q:Γ.Fr s.heap.objs.size with
  |none=>rfl
  |some x=>exact absurd rfl (fresh _ _ (N.aY.fr _ _ q).1)
 ·obtain ⟨m,⟨eh,_,_,e,_⟩,_⟩:=N.lo.ns
  exact fresh _ _ e
 ·intro x ao e hm
  obtain ⟨eh,ap⟩:=lM (N.aY.cell x ao e) _ hm
  exact fresh _ _ ap rfl
theorem aX.store {Γ:bM} {T:bG} {s:az} (N:aX Γ T s) {h':cw} {m:aZ->Option ah} {x:Nat} {av:ae} {v:ah} {t:Nat} (aW:T.A av v)
  (hm: ∀n av,gu n T.σ.loc=ab av-> ∃v,m (nm n)=ab v/\T.A av v)
  (ar:h'.Ns Γ.L (λy=>if y=nm x then ab v else m y)) (hs:Bp Γ.L s.heap h') (inj: ∀a b,nm a=nm b->a=b):
  aX Γ ⟨T.aP,T.ax,⟨ng x av T.σ.loc,T.σ.hp,T.σ.lh,T.σ.lu⟩⟩ {s with heap:=h',toks:=t}:=by
 have E0: ∀b o,T.aP b=ab o->b≠Γ.L:=λb o e q=>by subst q;rw[N.lo.free.1] at e;cases e
 refine⟨⟨λb o e=> (hs.2 b (E0 b o e)).trans (N.aY.bE b o e),λb o e=> ⟨(hs.2 b λq=>by subst q;rw[N.lo.free.2] at e;cases e).trans (N.aY.fr b o e).1,(N.aY.fr b o e).2⟩,
  λy ao e=>ix (dT.refl _) (λ_ h=>h) (λ_ _=>rfl) (λa aE=> (hs.2 a λq=>by subst q;exact N.lo.b2 y ao e aE).symm) rfl rfl (N.aY.cell y ao e),N.aY.ca,N.aY.gn⟩,
  ⟨⟨_,ar,λn bv e=> ?_⟩,N.lo.free,N.lo.b2,N.lo.lu⟩,N.base,N.gens,N.os,N.pin⟩
 dsimp only at e
 rw[abq] at e
 by_cases q:n=x
 ·subst q
  rw[if_pos rfl] at e
  cases e
  exact⟨v,by simp,aW⟩
 ·rw[if_neg q] at e
  obtain ⟨w,ap,aC⟩:=hm n bv e
  exact⟨w,by show(if nm n=nm x then ab v else m (nm n))=ab w;rw[if_neg λz=>q (inj _ _ z)];exact ap,aC⟩
def St.put (σ:St) (x:Nat) (bo:cc):St:=match d6 x 100 with
 |true=> ⟨σ.loc,up x bo σ.hp,σ.lh,σ.lu⟩
 |false=> ⟨σ.loc,σ.hp,up x bo σ.lh,σ.lu⟩
theorem St.Fu (σ:St) (x:Nat) (bo:cc) (y:Nat):(σ.put x bo).g y=if y=x then ab bo else σ.g y:=by
 unfold St.put St.g
 cases q:d6 x 100 with
 |true=>
  cases r:d6 y 100 with
  |true=>exact vy x bo σ.hp y
  |false=>
   have:y≠x:=λe=>by subst e;rw[q] at r;cases r
   simp[this]
 |false=>
  cases r:d6 y 100 with
  |false=>exact vy x bo σ.lh y
  |true=>
   have:y≠x:=λe=>by subst e;rw[q] at r;cases r
   simp[this]
theorem St.adK (σ:St) (x:Nat) (bo:cc):(σ.put x bo).loc=σ.loc:=by unfold St.put;cases d6 x 100<;>rfl
theorem St.Py (σ:St) (x:Nat) (bo:cc):(σ.put x bo).lu=σ.lu:=by unfold St.put;cases d6 x 100<;>rfl
theorem aX.Qy {Γ:bM} {T:bG} {s:az} (N:aX Γ T s) {x:Nat} {ao bo:cc} (aH:T.σ.g x=ab ao) {a:aR} (aE:a∈adr T.ax x ao) {h':cw} {t:Nat} (hs:Bp a s.heap h')
  (same:adr T.ax x bo=adr T.ax x ao) (C:lA T.aP T.ax T.U h' x bo):
  aX Γ ⟨T.aP,T.ax,T.σ.put x bo⟩ {s with heap:=h',toks:=t}/\T.dS ⟨T.aP,T.ax,T.σ.put x bo⟩:=by
 have ca:=N.aY.ca x ao aH a aE
 have dN: ∀y,T.U y->dO (T.σ.put x bo).g (T.σ.put x bo).lu y:=λy cP=>by
  rw[St.Py]
  rcases cP with⟨ap,aC⟩ |h
  ·refine .inl ⟨?_,aC⟩
   rw[St.Fu];split
   ·rfl
   ·exact ap
  ·exact .inr h
 have ex:T.dS ⟨T.aP,T.ax,T.σ.put x bo⟩:=⟨dT.refl _,dN,λ_ _=>rfl⟩
 have E0:Γ.L≠a:=λq=>by subst q;exact N.lo.b2 x ao aH aE
 have ad: ∀y cB,(T.σ.put x bo).g y=ab cB-> ∃qF,T.σ.g y=ab qF/\adr T.ax y cB=adr T.ax y qF:=λy cB e=>by
  rw[St.Fu] at e
  by_cases q:y=x
  ·subst q;rw[if_pos rfl] at e;cases e;exact⟨ao,aH,same⟩
  ·rw[if_neg q] at e;exact⟨cB,e,rfl⟩
 refine⟨⟨⟨λb o e=> (hs.2 b λq=>by subst q;rw[ca.1] at e;cases e).trans (N.aY.bE b o e),
   λb o e=> ⟨(hs.2 b λq=>by subst q;rw[ca.2] at e;cases e).trans (N.aY.fr b o e).1,(N.aY.fr b o e).2⟩,λy cB e=> ?_,λy cB e b ag=> ?_,λy z cB qF e1 e2 ne b ag=> ?_⟩,
  ⟨?_,N.lo.free,λy cB e=> ?_,by rw[St.Py];exact N.lo.lu⟩,N.base,N.gens,N.os,λy a e=> ⟨dN y (N.pin y a e).1,(N.pin y a e).2⟩⟩,ex⟩
 ·dsimp only at e
  rw[St.Fu] at e
  by_cases q:y=x
  ·subst q
   rw[if_pos rfl] at e
   cases e
   exact ix (dT.refl _) dN (λ_ _=>rfl) (λ_ _=>rfl) rfl rfl C
  ·rw[if_neg q] at e
   exact ix (dT.refl _) dN (λ_ _=>rfl) (λb ag=> (hs.2 b λz=>by subst z;exact N.aY.gn y x cB ao e aH q _ ag aE).symm) rfl rfl (N.aY.cell y cB e)
 ·obtain ⟨d,ap,aC⟩:=ad y cB e
  rw[aC] at ag
  exact N.aY.ca y d ap b ag
 ·obtain ⟨d2,ap,aC⟩:=ad y cB e1
  obtain ⟨dB,bu,d8⟩:=ad z qF e2
  rw[aC] at ag
  rw[d8]
  exact N.aY.gn y z d2 dB ap bu ne b ag
 ·obtain ⟨m,ar,hm⟩:=N.lo.ns
  exact⟨m,ar.sameBut hs E0,λn av e=>by
   dsimp only at e
   rw[St.adK] at e
   obtain ⟨v,a1,a2⟩:=hm n av e
   exact⟨v,a1,a2.ex ex⟩⟩
 ·obtain ⟨d,ap,aC⟩:=ad y cB e
  rw[aC]
  exact N.lo.b2 y d ap
theorem aX.turn {Γ:bM} {T:bG} {s:az} (N:aX Γ T s) {x:Nat} {ao bo:cc} (aH:T.σ.g x=ab ao) {a:aR} (aE:a∈adr T.ax x ao) {f:bX->bX} {t:Nat}
  (same:adr T.ax x bo=adr T.ax x ao) (C:lA T.aP T.ax T.U (s.heap.update a f) x bo):
  aX Γ ⟨T.aP,T.ax,T.σ.put x bo⟩ {s with heap:=s.heap.update a f,toks:=t}/\T.dS ⟨T.aP,T.ax,T.σ.put x bo⟩:=N.Qy aH aE (aiZ ..) same C
end
inductive X where
 |cu|bF (b:Bool) |a6 (i:Int) |ks (s:List Nat)
 |lo (n:Nat) |gl (n:Nat)
 |at (o:X) (n:Nat)
 |co (o i:X) |aK (o a b:X) |no
 |bin (op:my) (a b:X)
 |cmp (op:ht) (a b:X) |fy (hT iO:ht) (a b c:X)
 |and (l:X) |or (l:X) |not (a:X) |neg (a:X)
 |j8 (c a b:X)
 |tup (l:X) |lst (l:X) |cell (x:Nat) (l:X) |o8 (x:Nat)
 |call (f args kws:X) |aG (o:X) (n:Nat) (args kws:X) |mc (c f:Nat) (args:X)
 |len (a:X) |gz (a cs:X) |vo (a:X) |rq (a:X) |sT (a:X) |tp (a:X) |mZ (a b:X) |clo (n:Nat) |fmt (k:Nat) (a:X) |u2 (n m:Nat)
 |cG (o a:X) |ext (o a:X) |ri (o:X) |rj (o:X) |join (s l:X) |tr (a b:X) |uN (o:X) |uO (x:Nat) (o:X)
 |ph (a:X) |uX (a b:X) |hC (x n:Nat) (fr:List Nat) (e i:X) |vw (n:Nat) (fr:List Nat) (e i:X)
 |nil|cons (a r:X) |e0 (n:Nat) (a r:X)
inductive S where
 |exp (x:X) |aN (n:Nat) (x:X) |jB (ns:List Nat) (x:X) |a9 (o:X) (n:Nat) (x:X) |qs (o i x:X) |ast (ns:List Nat) (x:X) |si (n:Nat) (x:X)
 |gT (n:Nat) (op:my) (x:X) |kA (o:X) (n:Nat) (op:my) (x:X)
 |ite (c:X) (b o:S) |eT (c:X) (b:S) |fr (n:Nat) (x:X) (b:S) |qM (n:Nat) (x:X) (b:S) |sD (n m:Nat) (x:X) (b:S) |u4 (n:Nat) (x:X) (b:S)
 |ret (x:X) |rl|te|brk|bK|try (b:S) |sg (x:X) |uy (n a m:Nat) (i:X)
 |nil|cons (a r:S)
inductive cE where
 |aQ|c0|df|hG (v:ae)
inductive At where
 |no|fn (f:Nat) |val (v:aj)
abbrev a4:=List ae->b5->(ae->b5->Prop)->Prop
structure cM where
 g:List (Nat×aj)
 ii:List (Nat×List (Nat×At))
 sub:List (Nat×List (Nat×Bool))
 mM:List (Nat×List (Nat×aj))
 a8:List (Nat×(List Nat×List (Nat×aj)))
 pt:List (Nat×a4)
 clo:List (Nat×ae)
def cM.at (S:cM) (c n:Nat):Option At:=match aL c S.ii with
 |some l=>aL n l
 |none=>af
noncomputable def fld {α:Type} (n:Nat):List Nat->List α->Option α
 |k::ns,v::l=>match bA k n with
  |true=>ab v
  |false=>fld n ns l
 |_,_=>af
noncomputable def XO (n:Nat):List Nat->List Nat
 |k::ns=>match bA k n with
  |true=>k::ns
  |false=>k::XO n ns
 | []=> [n]
noncomputable def XQ {α:Type} (n:Nat) (v:α):List Nat->List α->List α
 |k::ns,w::l=>match bA k n with
  |true=>v::l
  |false=>w::XQ n v ns l
 |_,_=> [v]
def SZ (n:Nat):Prop:=n<=16777216
inductive aB:Type 1 where
 |hQ
 |ret (P:Prop)
 |sl (b:Bool) (A B:aB)
 |dP (P:Prop) (k:aB)
 |opt {α:Type} (o:Option α) (k:α->aB)
 |sub {α β:Type} (W:(α->β->Prop)->Prop) (k:α->β->aB)
def aB.holds:aB->Prop
 | .hQ=>False
 | .ret P=>P
 | .sl b A B=>cond b A.holds B.holds
 | .dP P k=>P/\k.holds
 | .opt o k=> ∃a,o=ab a/\(k a).holds
 | .sub W k=>W λa b=> (k a b).holds
def aJ {α β:Type} (W:(α->β->Prop)->Prop) (a:α) (b:β):Prop:= ∀K:α->β->Prop,K a b->W K
def aB.path (G:Prop):aB->Prop
 | .hQ=>True
 | .ret P=>P->G
 | .sl b A B=> ∀r,b=r->cond r (A.path G) (B.path G)
 | .dP P k=>P->k.path G
 | .opt o k=> ∀a,o=ab a->(k a).path G
 | .sub W k=> ∀a b,aJ W a b->(k a b).path G
theorem aB.rg {G:Prop}: ∀c:aB,(c.holds->G)->c.path G:=λc=>by
 induction c with
 |hQ=>exact λ_=>trivial
 |ret P=>exact id
 |sl b A B Y9 Za=>exact λh r e=>by subst e;cases b with
  |true=>exact Y9 h
  |false=>exact Za h
 |dP P k ai=>exact λh p=>ai λq=>h ⟨p,q⟩
 |opt o k ai=>exact λh a e=>ai a λq=>h ⟨a,e,q⟩
 |sub W k ai=>exact λh a b r=>ai a b λq=>h (r _ q)
noncomputable def cv {α:Type} (o:Option α) (k:α->aB):aB:=match o with
 |some a=>k a
 |none=> .hQ
theorem dp {α:Type} {o:Option α} {k:α->aB} (h:(cv o k).holds): ∃a,o=ab a/\(k a).holds:=by
 cases o with
 |none=>exact h.elim
 |some a=>exact⟨a,rfl,h⟩
noncomputable def nY (o:Option Prop) (k:aB):aB:=match o with
 |some P=> .dP P k
 |none=>k
noncomputable def hh (b:Bool) (k:aB):aB:=match b with
 |true=>k
 |false=> .hQ
theorem gr {b:Bool} {k:aB} (h:(hh b k).holds):b=aa/\k.holds:=by
 cases b with
 |false=>exact h.elim
 |true=>exact⟨rfl,h⟩
noncomputable def ask {α:Type} (r:Bool) (σ:α) (K:Bool->α->aB):aB:= .sl r (K aa σ) (K ac σ)
theorem nK {α:Type} {r:Bool} {σ:α} {K:Bool->α->aB} (h:(ask r σ K).holds):(K r σ).holds:=by cases r<;>exact h
theorem ai7 {o:Option Prop} {k:aB} (h:(nY o k).holds):(∀P,o=ab P->P)/\k.holds:=by
 cases o with
 |none=>exact⟨λ_ e=> (by cases e),h⟩
 |some P=>exact⟨λ_ e=> (by cases e;exact h.1),h.2⟩
noncomputable def tF {α:Type} (n:Nat) (v:α):List (Nat×α)->(List (Nat×α)->aB)->aB
 | [],k=>k [(n,v)]
 |p::r,k=>match bA p.1 n with
  |true=>k ((n,v)::r)
  |false=>tF n v r λr=>k (p::r)
theorem G1 {α:Type} {n:Nat} {v:α}: ∀(l:List (Nat×α)) (k:List (Nat×α)->aB),tF n v l k=k (up n v l):=λl=>by
 induction l with
 |nil=>exact λk=>rfl
 |cons p r ai=>
  intro k
  show(match bA p.1 n with
   |true=>k ((n,v)::r)
   |false=>tF n v r λr=>k (p::r))=k (match bA p.1 n with
   |true=> (n,v)::r
   |false=>p::up n v r)
  cases bA p.1 n with
  |true=>rfl
  |false=>exact ai _
noncomputable def yD {α:Type} (n:Nat) (v:α):List Nat->List α->(List Nat->List α->aB)->aB
 |m::ns,w::l,k=>match bA m n with
  |true=>k (m::ns) (v::l)
  |false=>yD n v ns l λns l=>k (m::ns) (w::l)
 | [],[],k=>k [n] [v]
 |_,_,_=> .hQ
def putK (σ:St) (x:Nat) (ao:cc) (k:St->aB):aB:=match d6 x 100 with
 |true=>tF x ao σ.hp λhp=>k ⟨σ.loc,hp,σ.lh,σ.lu⟩
 |false=>tF x ao σ.lh λlh=>k ⟨σ.loc,σ.hp,lh,σ.lu⟩
theorem Ft {σ:St} {x:Nat} {ao:cc} {k:St->aB}:putK σ x ao k=k (σ.put x ao):=by
 unfold putK St.put
 cases d6 x 100 with
 |true=>exact G1 _ _
 |false=>exact G1 _ _
def stK (σ:St) (n:Nat) (v:ae) (k:St->aB):aB:=tF n (ab v) σ.loc λloc=>k ⟨loc,σ.hp,σ.lh,σ.lu⟩
noncomputable def aM:List Nat->List Nat->Bool
 | [],[]=>aa
 |a::x,b::y=>bA a b&&aM x y
 |_,_=>ac
theorem gM {x:List Nat}: ∀{y:List Nat},aM x y=aa↔x=y:=by
 induction x with
 |nil=>exact λ{y}=>by cases y with
  |nil=>exact⟨λ_=>rfl,λ_=>rfl⟩
  |cons _ _=>exact⟨λh=> (by cases h),λh=> (by cases h)⟩
 |cons a x ai=>
  intro y
  cases y with
  |nil=>exact⟨λh=> (by cases h),λh=> (by cases h)⟩
  |cons b y=>exact⟨λh=>have h:=fW.mp h;by rw[fh h.1,ai.mp h.2],λh=>fW.mpr ⟨(gw h).1▸Bf a,ai.mpr (gw h).2⟩⟩
noncomputable def en:List Nat->List Nat->Bool
 | [],[]=>ac
 | [],_::_=>aa
 |_::_,[]=>ac
 |a::x,b::y=>d6 a b|| (bA a b&&en x y)
noncomputable def pre:List Nat->List Nat->Bool
 | [],_=>aa
 |_::_,[]=>ac
 |a::x,b::y=>bA a b&&pre x y
noncomputable def bO (x:List Nat):List Nat->Bool
 | []=>pre x []
 |b::y=>pre x (b::y) ||bO x y
noncomputable def cn {α:Type} (l:List α):Bool:=gG l.length 1000000
noncomputable def s9 {α:Type}:List α->Bool
 | []=>ac
 |_::_=>aa
def rx {α:Type} (l:List α):Option Prop×Bool:=(ab (cn l=aa),s9 l)
def aht:aj->Option (Option Prop×Bool)
 | .none=>ab (af,ac)
 | .bool b=>ab (af,b)
 | .int i=>ab (af, !decide (i=0))
 | .str s=>ab (af,s9 s)
 | .tup l=>ab (rx l)
 | .lst l=>ab (rx l)
 | .ek _ l=>ab (rx l)
 |_=>af
noncomputable def Ug:ae->Option Nat
 | .aq x=>ab x
 |_=>af
noncomputable def uw:ae->Option aj
 | .f v=>ab v
 |_=>af
noncomputable def hb:ae->Option Int
 | .f (.int i)=>ab i
 |_=>af
noncomputable def Jr:ae->Option Nat
 | .f (.int (.ofNat i))=>ab i
 |_=>af
noncomputable def ih:ae->Option (List Nat)
 | .f (.str x)=>ab x
 |_=>af
noncomputable def se:ae->Option (List aj)
 | .f (.lst l)=>ab l
 |_=>af
noncomputable def Js:ae->Option (List aj)
 | .f (.tup l)=>ab l
 |_=>af
noncomputable def Ck:ae->Option (List (List Nat)×List aj)
 | .f (.ek ks l)=>ab (ks,l)
 |_=>af
noncomputable def Jn:cc->Option (List ae)
 | .list l=>ab l
 |_=>af
noncomputable def Jm:cc->Option (List (List Nat)×List ae)
 | .dict ks l=>ab (ks,l)
 |_=>af
noncomputable def xE:cc->Option (Nat×List Nat×List ae)
 | .inst c ns l=>ab (c,ns,l)
 |_=>af
def aY (σ:St) (v:ae):Option cc:=match Ug v with
 |some x=>σ.g x
 |none=>af
def ib (σ:St) (v:ae):Option (List ae):=match aY σ v with
 |some ao=>Jn ao
 |none=>af
def nQ (σ:St) (v:ae):Option (List (List Nat)×List ae):=match aY σ v with
 |some ao=>Jm ao
 |none=>af
noncomputable def idOf:ae->Nat
 | .aq x=>x
 |_=>0
def ahs (σ:St):ae->Option (Option Prop×Bool)
 | .f v=>aht v
 | .dy _ _=>ab (af,aa)
 | .aq x=>match σ.g x with
  |some (.list l)=>ab (rx l)
  |some (.dict _ l)=>ab (rx l)
  |_=>af
structure M where
 x:St->(ae->St->aB)->aB
 t:St->(Bool->St->aB)->aB
 l:St->(List ae->St->aB)->aB
 k:St->(List (Nat×ae)->St->aB)->aB
 a:St->(Bool->St->aB)->aB
 o:St->(Bool->St->aB)->aB
 av:St->(ae->St->aB)->aB
 e4:St->(ae->St->aB)->aB
noncomputable def M.bad:M:=⟨λ_ _=> .hQ,λ_ _=> .hQ,λ_ _=> .hQ,λ_ _=> .hQ,λ_ _=> .hQ,λ_ _=> .hQ,λ_ _=> .hQ,λ_ _=> .hQ⟩
def wb (v:ae) (σ:St) (K:Bool->St->aB):aB:=cv (ahs σ v) λr=>nY r.1 (ask r.2 σ K)
def M.val (x:St->(ae->St->aB)->aB):M:={M.bad with x:=x,t:=λσ K=>x σ λv σ'=>wb v σ' K}
def M.tu (x:St->(ae->St->aB)->aB) (t:St->(Bool->St->aB)->aB):M:={M.bad with x:=x,t:=t}
def ke {α:Type} (n:Nat) (ns:List Nat) (l:List α) (r:ae):Option ae:=match fld n ns l with
 |some _=>af
 |none=>ab r
def uB (T:cM) (n:Nat) (v:ae) (σ:St):Option ae:=match v with
 | .aq x=>match σ.g x with
  |some (.inst c ns l)=>match T.at c n with
   |some .no=>fld n ns l
   |some (.fn f)=>ke n ns l (.dy x f)
   |some (.val w)=>ke n ns l (.f w)
   |none=>af
  |_=>af
 | .f (.inst c ns l)=>match T.at c n with
  |some .no=> (fld n ns l).map .f
  |some (.val w)=>ke n ns l (.f w)
  |_=>af
 | .f (.st c)=>match aL c T.mM with
  |some t=> (aL n t).map .f
  |none=>af
 |_=>af
def Qa (T:cM) (n:Nat) (o:ae) (σ:St):Option (Nat×List Nat×List ae):=match aY σ o with
 |some (.inst c ns l)=>match T.at c n with
  |some .no=>ab (c,ns,l)
  |_=>af
 |_=>af
def v3 (T:cM) (n:Nat) (o v:ae) (σ:St) (K:St->aB):aB:=cv (Qa T n o σ) λi=>hh (gG i.2.1.length 100&&glob v) (yD n v i.2.1 i.2.2 λns l=>putK σ (idOf o) (.inst i.1 ns l) K)
noncomputable def gx (ds:List (Nat×aj)):List Nat->List ae->List (Nat×ae)->Option (List ae)
 | [],[],_=>ab []
 | [],_::_,_=>af
 |p::a8,v::vs,kw=>match aL p kw with
  |none=>match gx ds a8 vs kw with
   |some r=>ab (v::r)
   |none=>af
  |some _=>af
 |p::a8,[],kw=>match aL p kw with
  |some v=>match gx ds a8 [] kw with
   |some r=>ab (v::r)
   |none=>af
  |none=>match aL p ds with
   |some d=>match gx ds a8 [] kw with
    |some r=>ab (.f d::r)
    |none=>af
   |none=>af
noncomputable def lN:List ae->Bool
 | []=>aa
 |v::r=>glob v&&lN r
noncomputable def o3:List (Nat×ae)->Bool
 | []=>aa
 |p::r=>glob p.2&&o3 r
noncomputable def iM (n:Nat):List Nat->Bool
 | []=>ac
 |m::l=>bA m n||iM n l
noncomputable def ll (rest:List Nat):List (Nat×ae)->Bool
 | []=>aa
 |p::r=>iM p.1 rest&&(match aL p.1 r with
  |none=>aa
  |some _=>ac)&&ll rest r
noncomputable def k7 {α:Type}:List Nat->List α->List Nat
 |a8,[]=>a8
 | [],_::_=> []
 |_::a8,_::l=>k7 a8 l
def mL (T:cM) (a:Nat) (pos:List ae) (kw:List (Nat×ae)):Option (a4×List ae):=match aL a T.a8 with
 |some p=>match aL a T.pt with
  |some pt=>match lN pos&&(o3 kw&&ll (k7 p.1 pos) kw) with
   |true=> (gx p.2 p.1 pos kw).map λl=> (pt,l)
   |false=>af
  |none=>af
 |none=>af
def CK (T:cM) (f:ae) (pos:List ae) (kw:List (Nat×ae)):Option (a4×List ae):=match f with
 | .f (.st a)=>mL T a pos kw
 | .dy x a=>match aL a T.ii with
  |none=>mL T a (.aq x::pos) kw
  |some _=>af
 |_=>af
def nM (T:cM) (f:ae) (pos:List ae) (kw:List (Nat×ae)) (σ:St) (K:ae->St->aB):aB:=cv (CK T f pos kw) λc=> .sub (c.1 c.2 σ.hp) λr dn=>hh (glob r) (K r ⟨σ.loc,dn,σ.lh,σ.lu⟩)
def Us (op:my) (a b:ae):Option (Option Prop×ae):=match op with
 | .Add=>match a with
  | .f (.int i)=> (hb b).map λj=> (af,.f (.int (i+j)))
  | .f (.str x)=> (ih b).map λy=> (ab (SZ (x++y).length),.f (.str (x++y)))
  |_=>af
 | .Sub=>match hb a with
  |some i=> (hb b).map λj=> (af,.f (.int (i-j)))
  |none=>af
 | .Mod=>match hb a with
  |some i=> (hb b).map λj=> (ab (0<j),.f (.int (i%j)))
  |none=>af
 | .FloorDiv=>match hb a with
  |some i=> (hb b).map λj=> (ab (0<j/\j<10000),.f (.int (i/j)))
  |none=>af
 | .Mult=>match ih a with
  |some [c]=> (hb b).map λn=> (ab (-1000<n/\n<1000),.f (.str (gQ n.toNat c)))
  |_=>af
 |_=>af
def o6 (op:my) (a b:ae) (K:ae->aB):aB:=cv (Us op a b) λr=>nY r.1 (K r.2)
noncomputable def MZ:ae->Option Bool
 | .f .none=>ab aa
 | .f .any=>af
 | .f (.dd _)=>af
 |_=>ab ac
noncomputable def MW (c:Bool):ae->Option Bool
 | .f .none=>ab ac
 | .f (.bool b)=>ab (b==c)
 |_=>af
noncomputable def O7:Option Bool->Option Bool
 |some b=>ab (!b)
 |none=>af
noncomputable def CQ (op:ht) (i j:Int):Option Bool:=match op with
 | .Eq=>ab (decide (i=j))
 | .NotEq=>ab (!decide (i=j))
 | .Lt=>ab (decide (i<j))
 | .LtE=>ab (decide (i<=j))
 | .Gt=>ab (decide (i>j))
 | .GtE=>ab (decide (i≥j))
 |_=>af
def CR (op:ht) (x y:List Nat):Option Bool:=match op with
 | .Eq=>ab (aM x y)
 | .NotEq=>ab (!aM x y)
 | .Lt=>ab (en x y)
 | .LtE=>ab (!en y x)
 | .In=>ab (bO x y)
 | .NotIn=>ab (!bO x y)
 |_=>af
def yx:aj->aj->Option Bool
 | .none,.none=>ab aa
 | .int i,.int j=>ab (decide (i=j))
 | .str x,.str y=>ab (aM x y)
 | .none,.str _=>ab ac
 | .str _,.none=>ab ac
 | .none,.int _=>ab ac
 | .int _,.none=>ab ac
 |_,_=>af
noncomputable def kI (v:aj):List aj->Option Bool
 | []=>ab ac
 |w::l=>match yx w v,kI v l with
  |some b,ab c=>ab (b||c)
  |_,_=>af
noncomputable def il (x:List Nat):List (List Nat)->Bool
 | []=>ac
 |k::ks=>aM k x||il x ks
def vl (a b:ae):Option Bool:=match b with
 | .f .none=>MZ a
 | .f (.bool c)=>MW c a
 |_=>af
noncomputable def sq:ht->Option Bool
 | .Eq=>ab ac
 |_=>af
def inD (op:ht) (x:List Nat) (ks:List (List Nat)):Option Bool:=match op with
 | .In=>ab (il x ks)
 | .NotIn=>ab (!il x ks)
 |_=>af
noncomputable def DT (op:ht) (ks:List (List Nat)):Option Bool:=match op with
 | .In=>cond ks.isEmpty (ab ac) af
 |_=>af
def Lv (op:ht) (a b:ae) (σ:St):Option Bool:=match op with
 | .Is=>vl a b
 | .IsNot=>O7 (vl a b)
 |op=>match a with
  | .f (.int i)=>match b with
   | .f (.int j)=>CQ op i j
   | .aq d=> (nQ σ (.aq d)).bind λe=>DT op e.1
   |_=>af
  | .f (.str x)=>match b with
   | .f (.str y)=>CR op x y
   | .f .none=>sq op
   | .aq d=> (nQ σ (.aq d)).bind λe=>inD op x e.1
   |_=>af
  | .f .none=>match b with
   | .f (.str _)=>sq op
   | .f (.int _)=>sq op
   |_=>af
  |_=>af
noncomputable def tk:ae->Option (List aj)
 | .f (.lst l)=>ab l
 | .f (.tup l)=>ab l
 |_=>af
def ER (op:ht) (a b:ae):Option (Bool×aj×List aj):=match op with
 | .In=> (tk b).bind λl=> (uw a).map λx=> (aa,x,l)
 | .NotIn=> (tk b).bind λl=> (uw a).map λx=> (ac,x,l)
 |_=>af
def o9 (op:ht) (a b:ae) (σ:St) (k:Bool->aB):aB:=match ER op a b with
 |some m=> .opt (kI m.2.1 m.2.2) λb=>k (cond m.1 b (!b))
 |none=>cv (Lv op a b σ) k
noncomputable def gf {α:Type} (l:List α):Int->Option α
 | .ofNat n=>l[n]?
 | .negSucc n=>match gG (n+1) l.length with
  |true=>l[l.length- (n+1)]?
  |false=>af
noncomputable def sm {α:Type} (k:List Nat):List (List Nat)->List α->Option α
 |x::ks,v::l=>match aM x k with
  |true=>ab v
  |false=>sm k ks l
 |_,_=>af
def mV (v i:ae) (σ:St):Option ae:=match v with
 | .f (.str x)=>match i with
  | .f (.int i)=>match gf x i with
   |some c=>ab (.f (.str [c]))
   |none=>af
  |_=>af
 | .f (.tup l)=>match i with
  | .f (.int i)=>match cn l with
   |true=>match gf l i with
    |some v=>ab (.f v)
    |none=>af
   |false=>af
  |_=>af
 | .f (.lst l)=>match i with
  | .f (.int i)=>match cn l with
   |true=>match gf l i with
    |some v=>ab (.f v)
    |none=>af
   |false=>af
  |_=>af
 | .f (.ek ks l)=>match i with
  | .f (.str k)=>match sm k ks l with
   |some v=>ab (.f v)
   |none=>af
  |_=>af
 | .aq y=>match i with
  | .f (.int i)=>match σ.g y with
   |some (.list l)=>match cn l with
    |true=>gf l i
    |false=>af
   |_=>af
  |_=>af
 |_=>af
noncomputable def N0 {α:Type} (l:List α):aj->Option Nat
 | .none=>ab 0
 | .int (.ofNat k)=>ab k
 | .int (.negSucc k)=>ab (l.length- (k+1))
 |_=>af
noncomputable def Mx {α:Type} (l:List α):aj->Option Nat
 | .none=>ab l.length
 | .int (.ofNat k)=>ab k
 | .int (.negSucc k)=>ab (l.length- (k+1))
 |_=>af
def iv {α:Type} (l:List α) (a b:aj):Option (List α):=match N0 l a,Mx l b with
 |some lo,ab bj=>ab ((l.drop lo).take (bj-lo))
 |_,_=>af
noncomputable def eN:List ae->Option (List aj)
 | []=>ab []
 | .f v::l=>match eN l with
  |some r=>ab (v::r)
  |none=>af
 |_=>af
def tm (v a b:ae) (σ:St):Option ae:=match a with
 | .f a=>match b with
  | .f b=>match v with
   | .f (.str x)=>match iv x a b with
    |some r=>ab (.f (.str r))
    |none=>af
   | .f (.lst l)=>match cn l with
    |true=>match iv l a b with
     |some r=>ab (.f (.lst r))
     |none=>af
    |false=>af
   | .aq y=>match σ.g y with
    |some (.list l)=>match cn l with
     |true=>match eN l with
      |some l=>match iv l a b with
       |some r=>ab (.f (.lst r))
       |none=>af
      |none=>af
     |false=>af
    |_=>af
   |_=>af
  |_=>af
 |_=>af
def NG (v:ae) (σ:St):Option (Option Prop×Nat):=match v with
 | .f (.str x)=>ab (af,x.length)
 | .f (.lst l)=>ab (ab (cn l=aa),l.length)
 |v=> (ib σ v).map λl=> (ab (cn l=aa),l.length)
noncomputable def Fh:Option Bool->Option Bool->Option Bool
 |some a,ab b=>ab (a||b)
 |_,_=>af
def D3 (T:cM) (v c:ae):Option Bool:=match v with
 | .f (.inst d _ _)=>match aL d T.sub with
  |some m=>match c with
   | .f (.st e)=>aL e m
   | .f (.tup [.st e,.st g])=>Fh (aL e m) (aL g m)
   |_=>af
  |none=>af
 |_=>af
def St.add (σ:St) (y:Nat) (ao:cc):St:=match d6 y 100 with
 |true=> ⟨σ.loc,up y ao σ.hp,σ.lh,σ.lu⟩
 |false=> ⟨σ.loc,σ.hp,up y ao σ.lh,y::σ.lu⟩
def St.free (σ:St) (y:Nat):Bool:=match σ.g y with
 |some _=>ac
 |none=> !iM y σ.lu
def newId (σ:St) (x:Nat):Option Nat:=match σ.free x with
 |true=>ab x
 |false=>match σ.free (x+1) with
  |true=>ab (x+1)
  |false=>match σ.free (x+2) with
   |true=>ab (x+2)
   |false=>af
noncomputable def a0:List (List Nat)->List Nat
 | []=> []
 |x::r=>x++a0 r
noncomputable def kN:List aj->Option (List (List Nat))
 | []=>ab []
 | .str x::r=>match kN r with
  |some l=>ab (x::l)
  |none=>af
 |_=>af
def D4 (v:ae) (σ:St):Option (List (List Nat)):=match v with
 | .f (.lst l)=>kN l
 |v=>match ib σ v with
  |some l=>match eN l with
   |some fs=>kN fs
   |none=>af
  |none=>af
noncomputable def fY {α:Type} (k:List Nat) (v:α):List (List Nat)->List α->List (List Nat)×List α
 |x::ks,w::l=>match aM x k with
  |true=> (x::ks,v::l)
  |false=>match fY k v ks l with
   |r=> (x::r.1,w::r.2)
 |_,_=> ([k],[v])
noncomputable def DY {α:Type}:List α->List α
 | []=> []
 | [_]=> []
 |a::b::r=>a::DY (b::r)
noncomputable def Ea {α:Type}:List α->Option α
 | []=>af
 | [a]=>ab a
 |_::b::r=>Ea (b::r)
def St.st (σ:St) (n:Nat) (v:ae):St:=⟨ng n v σ.loc,σ.hp,σ.lh,σ.lu⟩
noncomputable def dl {α:Type} (n:Nat):List (Nat×α)->List (Nat×α)
 | []=> []
 |p::r=>match bA p.1 n with
  |true=>dl n r
  |false=>p::dl n r
def St.del (σ:St) (y:Nat):St:=⟨σ.loc,σ.hp,dl y σ.lh,σ.lu⟩
noncomputable def EY (i j:Int):Int:=match decide (j>i) with
 |true=>j
 |false=>i
noncomputable def dv (n:Nat):List Nat:=match d6 n 10 with
 |true=> [48+n]
 |false=> [48+n/10,48+n%10]
noncomputable def mO (c:Nat):Option Nat:=match gG 48 c&&gG c 57 with
 |true=>ab (c-48)
 |false=>af
def wt:List Nat->Option Nat
 | [a]=>mO a
 | [a,b]=>match mO a,mO b with
  |some x,ab y=>ab (10*x+y)
  |_,_=>af
 |_=>af
noncomputable def sf:List (List Nat)->Bool
 | []=>aa
 | [_]=>aa
 |a::b::r=>en a b&&sf (b::r)
def L3 (k:Nat) (v:aj):Option (Prop×List Nat):=match k with
 |0=> (ih (.f v)).map λx=> (x.length<=1000,[37,89,65,77,76,32]++x)
 |2=>match v with
  | .tup [.int (.ofNat i),.int (.ofNat j)]=>ab (i<100/\j<100,dv i++(46::dv j))
  |_=>af
 |_=>af
noncomputable def Cf:List aj->Bool
 | []=>aa
 | .str _::l=>Cf l
 |_=>ac
mutual
noncomputable def sr (n:Nat):aj->Bool
 | .none=>aa
 | .bool _=>aa
 | .int _=>aa
 | .str _=>aa
 | .tup l=>match n with
  |0=>ac
  |m+1=>kE m l
 | .ek _ l=>cn l&&Cf l
 |_=>ac
noncomputable def kE (n:Nat):List aj->Bool
 | []=>aa
 |v::l=>sr n v&&kE n l
end
def jD (b:ae->St->(Option ae->St->aB)->aB):List ae->List ae->St->(List ae->St->Prop)->Prop
 | [],acc,σ,K=>K acc σ
 |v::l,acc,σ,K=> (b v σ λo σ=>match o with
  |none=> .ret (jD b l acc σ K)
  |some u=> .dP (glob u=aa) (.ret (jD b l (acc++ [u]) σ K))).holds
noncomputable def pZ (n:Nat) (b:St->(ae->St->aB)->aB) (v:ae) (σ:St) (K:Option ae->St->aB):aB:=b ⟨[(n,ab v)],σ.hp,σ.lh,σ.lu⟩ λu σ'=>K (ab u) ⟨σ.loc,σ'.hp,σ'.lh,σ'.lu⟩
noncomputable def wc (v:ae) (σ:St) (K:Option ae->St->aB):aB:=match v with
 | .f (.tup [.str a,_])=>match a with
  | []=>K af σ
  |c::r=>K (ab (.f (.str (c::r)))) σ
 |_=> .hQ
noncomputable def x5 (fr:List Nat):List (Nat×ae)->Bool
 | []=>aa
 |p::r=>iM p.1 fr&&x5 fr r
noncomputable def uL (l:List (Nat×ae)):List Nat->Bool
 | []=>aa
 |n::r=> (match aL n l with
  |some _=>aa
  |none=>ac)&&uL l r
noncomputable def lZ:List aj->Option (List aj)
 | []=>ab []
 | .tup [.str a,_]::r=>match lZ r with
  |some l=>match a with
   | []=>ab l
   |_::_=>ab (.str a::l)
  |none=>af
 |_=>af
noncomputable def ob (a:Int):Nat->List ae
 |0=> []
 |n+1=> .f (.int a)::ob (a+1) n
noncomputable def qB:List Nat->List ae
 | []=> []
 |c::r=> .f (.str [c])::qB r
noncomputable def za:List (List Nat)->List ae
 | []=> []
 |k::r=> .f (.str k)::za r
def Zy (v:ae) (σ:St):Option (List ae):=match v with
 | .f (.str s)=>ab (qB s)
 | .f (.lst l)=>ab (l.map .f)
 | .f (.ek ks _)=>ab (za ks)
 | .aq y=>match σ.g y with
  |some (.dict [] _)=>ab []
  |_=>af
 |_=>af
noncomputable def pe (i:Nat):List Nat->List (ae×ae)
 | []=> []
 |c::r=> (.f (.int (.ofNat i)),.f (.str [c]))::pe (i+1) r
noncomputable def y6:ae->Bool
 | .dy _ _=>aa
 |_=>ac
noncomputable def isNil:X->Bool
 | .nil=>aa
 |_=>ac
noncomputable def ev (T:cM):X->M
 | .cu=> .val λσ K=>K (.f .none) σ
 | .bF b=> .val λσ K=>K (.f (.bool b)) σ
 | .a6 i=> .val λσ K=>K (.f (.int i)) σ
 | .ks s=> .val λσ K=>hh (gG s.length 1000) (K (.f (.str s)) σ)
 | .lo n=> .val λσ K=>cv (gu n σ.loc) λv=>K v σ
 | .gl n=> .val λσ K=>cv (aL n T.g) λv=>K (.f v) σ
 | .at o n=> .val λσ K=> (ev T o).x σ λv σ=>cv (uB T n v σ) λr=>K r σ
 | .bin op a b=> .val λσ K=> (ev T a).x σ λv σ=> (ev T b).x σ λw σ=>o6 op v w λr=>K r σ
 | .cmp op a b=>
  .tu (λσ K=> (ev T a).x σ λv σ=> (ev T b).x σ λw σ=>o9 op v w σ λr=>K (.f (.bool r)) σ)
   λσ K=> (ev T a).x σ λv σ=> (ev T b).x σ λw σ=>o9 op v w σ λr=>ask r σ K
 | .co o i=> .val λσ K=> (ev T o).x σ λv σ=> (ev T i).x σ λw σ=> .opt (mV v w σ) λr=>K r σ
 | .aK o a b=> .val λσ K=> (ev T o).x σ λv σ=> (ev T a).x σ λlo σ=> (ev T b).x σ λbj σ=> .opt (tm v lo bj σ) λr=>K r σ
 | .no=> .val λσ K=>K (.f .none) σ
 | .neg a=> .val λσ K=> (ev T a).x σ λv σ=>cv (hb v) λi=>K (.f (.int (-i))) σ
 | .fy hT iO a b c=>
  .tu (λσ K=> (ev T a).x σ λu σ=> (ev T b).x σ λv σ=>o9 hT u v σ λr=> .sl r ((ev T c).x σ λw σ=>o9 iO v w σ λr=>K (.f (.bool r)) σ) (K (.f (.bool ac)) σ))
   λσ K=> (ev T a).x σ λu σ=> (ev T b).x σ λv σ=>o9 hT u v σ λr=> .sl r ((ev T c).x σ λw σ=>o9 iO v w σ λr=>ask r σ K) (K ac σ)
 | .tup l=> .val λσ K=> (ev T l).l σ λvs σ=>cv (eN vs) λfs=>hh (cn fs) (K (.f (.tup fs)) σ)
 | .lst l=> .val λσ K=> (ev T l).l σ λvs σ=>cv (eN vs) λfs=>hh (cn fs) (K (.f (.lst fs)) σ)
 | .len a=> .val λσ K=> (ev T a).x σ λv σ=>cv (NG v σ) λn=>nY n.1 (K (.f (.int n.2)) σ)
 | .gz a c=> .val λσ K=> (ev T a).x σ λv σ=> (ev T c).x σ λw σ=>cv (D3 T v w) λr=>K (.f (.bool r)) σ
 | .vo a=> .val λσ K=> (ev T a).x σ λv σ=>cv (ih v) λ_=>K (.f (.bool aa)) σ
 | .cell x l=> .val λσ K=> (ev T l).l σ λvs σ=> .opt (newId σ x) λy=>hh (cn vs&&lN vs) (K (.aq y) (σ.add y (.list vs)))
 | .o8 x=> .val λσ K=> .opt (newId σ x) λy=>K (.aq y) (σ.add y (.dict [] []))
 | .cG o a=> .val λσ K=> (ev T o).x σ λv σ=>cv (ib σ v) λ_=> (ev T a).x σ λu σ=>cv (ib σ v) λl=> .dP (cn l=aa) (hh (glob u) (putK σ (idOf v) (.list (l++ [u])) (K (.f .none))))
 | .ext o a=> .val λσ K=> (ev T o).x σ λv σ=>cv (ib σ v) λ_=> (ev T a).x σ λu σ=>cv (ib σ v) λl=>cv (se u) λm=> .dP (cn l=aa/\cn m=aa) (putK σ (idOf v) (.list (l++m.map .f)) (K (.f .none)))
 | .ri o=> .val λσ K=> (ev T o).x σ λv σ=>cv (ib σ v) λl=>cv l.head? λu=> .dP (cn l=aa) (putK σ (idOf v) (.list l.tail) (K u))
 | .rj o=> .val λσ K=> (ev T o).x σ λv σ=>cv (ib σ v) λl=> .opt (Ea l) λu=> .dP (cn l=aa) (putK σ (idOf v) (.list (DY l)) (K u))
 | .join s l=> .val λσ K=> (ev T s).x σ λv σ=>cv (ih v) λz=>hh z.isEmpty ((ev T l).x σ λu σ=> .opt (D4 u σ) λxs=> .dP (SZ (a0 xs).length) (K (.f (.str (a0 xs))) σ))
 | .tr a b=> .val λσ K=> (ev T a).x σ λv σ=>cv (ih v) λx=> (ev T b).x σ λu σ=>cv (ih u) λy=>K (.f (.bool (pre y x))) σ
 | .clo n=> .val λσ K=>cv (aL n T.clo) λv=>K v σ
 | .mZ a b=> .val λσ K=> (ev T a).x σ λv σ=> (ev T b).x σ λw σ=>cv (hb v) λi=>cv (hb w) λj=>K (.f (.int (EY i j))) σ
 | .rq a=> .val λσ K=> (ev T a).x σ λv σ=>cv (Jr v) λn=> .dP (n<100) (K (.f (.str (dv n))) σ)
 | .sT a=> .val λσ K=> (ev T a).x σ λv σ=>cv (ih v) λx=> .opt (wt x) λn=>K (.f (.int (.ofNat n))) σ
 | .tp a=> .val λσ K=> (ev T a).x σ λv σ=>cv (Ck v) λd=> .dP ((sf d.1&&gG d.1.length 60)=aa) (K (.f (.lst (d.1.map .str))) σ)
 | .u2 n m=> .val λσ K=>cv ((gu n σ.loc).bind ih) λx=>cv ((gu m σ.loc).bind ih) λy=> .dP (x.length<=1000/\y.length<=1000) (K (.f (.str ([37,84,65,71,32]++(x++(32::y))))) σ)
 | .fmt k a=> .val λσ K=> (ev T a).x σ λv σ=>cv (uw v) λv=>cv (L3 k v) λr=> .dP r.1 (K (.f (.str r.2)) σ)
 | .uO x o=> .val λσ K=> (ev T o).x σ λv σ=>cv (Ck v) λd=> .opt (newId σ x) λy=> .dP (cn d.2=aa) (K (.aq y) (σ.add y (.dict d.1 (d.2.map .f))))
 | .uN o=> .val λσ K=> (ev T o).x σ λv σ=>cv (nQ σ v) λd=> .opt (eN d.2) λfs=> .dP (cn d.2=aa) (K (.f (.ek d.1 fs)) σ)
 | .ph a=> .val λσ K=> (ev T a).x σ λv σ=>cv (ib σ v) λl=> .opt (eN l) λfs=>hh (gG 100 (idOf v)) (K (.f (.lst fs)) (σ.del (idOf v)))
 | .uX a b=> {M.bad with x:=λσ K=> (ev T a).x σ λv σ=> (ev T b).x σ λw σ=>cv (ib σ v) λl=>cv (ib σ w) λm=> .opt (eN l) λfs=> .dP ((m=l/\cn l=aa)/\kE 3 fs=aa) (K (.f (.bool aa)) σ)}
 | .mc c f args=> .val λσ K=>cv (gu 37 σ.loc) λv=>cv ((aY σ v).bind xE) λi=>hh (bA i.1 c) ((ev T args).l σ λvs σ=>nM T (.dy (idOf v) f) vs [] σ K)
 | .hC x n fr e i=> .val λσ K=>hh (x5 fr T.clo&&uL T.clo fr) ((ev T i).x σ λv σ=>cv (se v) λl=> .dP (cn l=aa) (.sub (jD (pZ n (ev T e).x) (l.map .f) [] σ) λvs σ=> .opt (newId σ x) λy=>K (.aq y) (σ.add y (.list vs))))
 | .vw n fr e i=> .val λσ K=>hh (x5 fr T.clo&&uL T.clo fr) ((ev T i).x σ λv σ=>cv (hb v) λi=> .dP (-1000000<=i/\i<=1000000) (.sub (jD (pZ n (ev T e).x) (ob 0 i.toNat) [] σ) λvs σ=> .opt (eN vs) λfs=>K (.f (.lst fs)) σ))
 | .not a=> .tu (λσ K=> (ev T a).x σ λv σ=>wb v σ λb σ=>K (.f (.bool (!b))) σ) λσ K=> (ev T a).t σ λb σ=>K (!b) σ
 | .and l=> .tu (ev T l).av (ev T l).a
 | .or l=> .tu (ev T l).e4 (ev T l).o
 | .j8 c a b=> .tu (λσ K=> (ev T c).t σ λr σ=>cond r ((ev T a).x σ K) ((ev T b).x σ K)) λσ K=> (ev T c).t σ λr σ=>cond r ((ev T a).t σ K) ((ev T b).t σ K)
 | .call f args kws=> .val λσ K=> (ev T f).x σ λbI σ=> (ev T args).l σ λvs σ=> (ev T kws).k σ λkw σ=>nM T bI vs kw σ K
 | .aG o n args kws=> .val λσ K=> (ev T o).x σ λv σ=>cv ((aY σ v).bind xE) λ_=>cv (uB T n v σ) λbI=>hh (y6 bI) ((ev T args).l σ λvs σ=> (ev T kws).k σ λkw σ=>nM T bI vs kw σ K)
 | .nil=> {M.bad with l:=λσ K=>K [] σ,k:=λσ K=>K [] σ,a:=λσ K=>K aa σ,o:=λσ K=>K ac σ}
 | .cons a r=> {M.bad with
   l:=λσ K=> (ev T a).x σ λv σ=> (ev T r).l σ λvs σ=>K (v::vs) σ
   a:=λσ K=> (ev T a).t σ λb σ=>cond b ((ev T r).a σ K) (K ac σ)
   o:=λσ K=> (ev T a).t σ λb σ=>cond b (K aa σ) ((ev T r).o σ K)
   av:=cond (isNil r) (ev T a).x λσ K=> (ev T a).x σ λv σ=>wb v σ λb σ=>cond b ((ev T r).av σ K) (K v σ)
   e4:=cond (isNil r) (ev T a).x λσ K=> (ev T a).x σ λv σ=>wb v σ λb σ=>cond b (K v σ) ((ev T r).e4 σ K)}
 | .e0 n a r=> {M.bad with k:=λσ K=> (ev T a).x σ λv σ=> (ev T r).k σ λvs σ=>K ((n,v)::vs) σ}
noncomputable def cq (W:Option cE->St->Prop):cE->St->aB
 | .aQ,σ=> .ret (W af σ)
 | .df,σ=> .ret (W af σ)
 | .c0,σ=> .ret (W (ab .aQ) σ)
 | .hG v,σ=> .ret (W (ab (.hG v)) σ)
def q1 (W:St->Prop) (K:cE->St->Prop):Option cE->St->Prop
 |none,σ=>W σ
 |some f,σ=>K f σ
def kP (t:St->(Bool->St->aB)->aB) (b:St->(cE->St->aB)->aB) (σ:St) (W:Option cE->St->Prop):Prop:=(t σ λr σ=>cond r (b σ (cq W)) (.ret (W (ab .aQ) σ))).holds
def G7 (t:St->(Bool->St->aB)->aB) (b:St->(cE->St->aB)->aB):Nat->St->(cE->St->Prop)->Prop
 |0,_,_=>False
 |n+1,σ,K=>kP t b σ (q1 (λσ=>G7 t b n σ K) K)
def fb (t:St->(Bool->St->aB)->aB) (b:St->(cE->St->aB)->aB) (σ:St) (K:cE->St->Prop):Prop:= ∃n,G7 t b n σ K
def pg (n m:Nat) (b:St->(cE->St->aB)->aB):List (ae×ae)->St->(cE->St->Prop)->Prop
 | [],σ,K=>K .aQ σ
 |v::l,σ,K=> (b ⟨ng m v.2 (ng n v.1 σ.loc),σ.hp,σ.lh,σ.lu⟩ (cq (q1 (λσ=>pg n m b l σ K) K))).holds
def gX (n:Nat) (b:St->(cE->St->aB)->aB):List ae->St->(cE->St->Prop)->Prop
 | [],σ,K=>K .aQ σ
 |v::l,σ,K=> (b ⟨ng n v σ.loc,σ.hp,σ.lh,σ.lu⟩ (cq (q1 (λσ=>gX n b l σ K) K))).holds
noncomputable def AB:List Nat->ae->St->(St->aB)->aB
 | [],_,σ,k=>k σ
 |n::ns,v,σ,k=>stK σ n v λσ=>AB ns v σ k
noncomputable def tG:List Nat->List aj->St->(St->aB)->aB
 | [],[],σ,k=>k σ
 |n::ns,v::l,σ,k=>stK σ n (.f v) λσ=>tG ns l σ k
 |_,_,_,_=> .hQ
noncomputable def FP (r:St->aB) (K:cE->St->aB):cE->St->aB
 | .aQ,σ=>r σ
 |f,σ=>K f σ
noncomputable def bN (T:cM):S->St->(cE->St->aB)->aB
 | .exp x,σ,K=> (ev T x).x σ λ_ σ=>K .aQ σ
 | .aN n x,σ,K=> (ev T x).x σ λv σ=>stK σ n v (K .aQ)
 | .a9 o n x,σ,K=> (ev T x).x σ λv σ=> (ev T o).x σ λe4 σ=>v3 T n e4 v σ λσ=>K .aQ σ
 | .gT n op x,σ,K=>cv (gu n σ.loc) λold=> (ev T x).x σ λv σ=>o6 op old v λr=>stK σ n r (K .aQ)
 | .kA o n op x,σ,K=> (ev T o).x σ λe4 σ=>cv (uB T n e4 σ) λold=> (ev T x).x σ λv σ=>o6 op old v λr=>v3 T n e4 r σ λσ=>K .aQ σ
 | .jB ns x,σ,K=> (ev T x).x σ λv σ=>AB ns v σ (K .aQ)
 | .ast ns x,σ,K=> (ev T x).x σ λv σ=>cv (Js v) λl=>tG ns l σ (K .aQ)
 | .qs o i x,σ,K=> (ev T x).x σ λv σ=> (ev T o).x σ λd σ=> (ev T i).x σ λk σ=>cv (nQ σ d) λe=>cv (ih k) λk=>hh (glob v) (.dP (cn e.2=aa) (putK σ (idOf d) (.dict (fY k v e.1 e.2).1 (fY k v e.1 e.2).2) (K .aQ)))
 | .si n x,σ,K=>cv (gu n σ.loc) λd=> (ev T x).x σ λv σ=>cv (ib σ d) λl=>cv (se v) λm=> .dP (cn l=aa/\cn m=aa) (putK σ (idOf d) (.list (l++m.map .f)) λσ=>stK σ n d (K .aQ))
 | .fr n x b,σ,K=> (ev T x).x σ λv σ=>cv (Zy v σ) λl=> .sub (gX n (bN T b) l σ) K
 | .sD n m x b,σ,K=> (ev T x).x σ λv σ=>cv (ih v) λs=> .dP (SZ s.length) (.sub (pg n m (bN T b) (pe 0 s) σ) K)
 | .uy n _ _ i,σ,K=> (ev T i).x σ λv σ=>cv (se v) λl=> .opt (lZ l) λr=> .dP (cn l=aa) (stK σ n (.f (.lst r)) (K .aQ))
 | .u4 _ x _,σ,K=> (ev T x).x σ λv σ=>cv (nQ σ v) λd=>hh d.1.isEmpty (K .aQ σ)
 | .qM n x b,σ,K=> (ev T x).x σ λv σ=>cv (hb v) λi=> .dP (-1000000<=i/\i<=1000000) (.sub (gX n (bN T b) (ob 0 i.toNat) σ) K)
 | .try b,σ,K=>bN T b σ K
 | .sg x,σ,K=> (ev T x).t σ λb σ=>hh b (K .aQ σ)
 | .ite c b o,σ,K=> (ev T c).t σ λr σ=>cond r (bN T b σ K) (bN T o σ K)
 | .eT c b,σ,K=> .sub (fb (ev T c).t (bN T b) σ) K
 | .ret x,σ,K=> (ev T x).x σ λv σ=>K (.hG v) σ
 | .rl,σ,K=>K (.hG (.f .none)) σ
 | .te,σ,K=>K .aQ σ
 | .brk,σ,K=>K .c0 σ
 | .nil,σ,K=>K .aQ σ
 | .cons a r,σ,K=>bN T a σ (FP (λσ=>bN T r σ K) K)
 |_,_,_=> .hQ
def ki (K:ae->b5->Prop):cE->St->aB
 | .hG v,σ=>hh (glob v) (.ret (K v σ.hp))
 | .aQ,σ=> .ret (K (.f .none) σ.hp)
 |_,_=> .hQ
noncomputable def E8:List Nat->List (Nat×Option ae)
 | []=> []
 |n::ex=> (n,af)::E8 ex
noncomputable def locs:List Nat->List ae->List Nat->List (Nat×Option ae)
 |p::a8,v::l,ex=> (p,ab v)::locs a8 l ex
 |_,_,ex=>E8 ex
def bH (T:cM) (a8:List Nat) (ex:List Nat) (b:Q7.S):a4:=λfull hp K=> (bN T b ⟨locs a8 full ex,hp,[],[]⟩ (ki K)).holds
section
open Builtin Builtin.ObjectAttr
theorem cm {G:Prop} (h:ac=aa):G:=by cases h
theorem a3 {α:Type} {a:α} {G:Prop} (h:af=ab a):G:=by cases h
abbrev rR:Nat->cT->Prop:=λk e=> ∃t,e.key= .str (nm k) t
theorem M0 {k n:Nat} {e:cT} (h:rR k e):e.key.isStr (nm n)=bA k n:=by
 obtain ⟨t,h⟩:=h
 rw[h,beq_eq]
 show(nm k==nm n)=_
 by_cases q:k=n
 ·subst q;simp
 ·rw[decide_eq_false q]
  exact beq_eq_false_iff_ne.mpr λe=>q (n9 _ _ e)
theorem yy {α:Type} {R:α->cT->Prop} {n:Nat}: ∀{ns:List Nat} {es:List cT},bC rR ns es-> ∀{l:List α},bC R l es->
  (∀av,fld n ns l=ab av-> ∃e,R av e/\lH (nm n) es=ab (ab e.val))/\(fld n ns l=af->lH (nm n) es=ab af):=λaS=>by
 induction aS with
 |nil=>
  intro l aA
  cases aA
  exact⟨λav h=> (a3 h),λ_=>rfl⟩
 | @cons k e ns es aS cq ai=>
  intro l aA
  cases aA with
  | @cons v _ l _ aW Ak=>
   have z:=M0 (n:=n) aS
   have i:=ai Ak
   show(∀av,(match bA k n with
    |true=>ab v
    |false=>fld n ns l)=ab av->_)/\((match bA k n with
    |true=>ab v
    |false=>fld n ns l)=af->_)
   cases q:bA k n with
   |true=>exact⟨λav h=> ⟨e,bQ h▸aW,by unfold lH;rw[wX,z,q]⟩,λh=>a3 (Eq.symm h)⟩
   |false=>
    rw[show lH (nm n) (e::es)=lH (nm n) es by
     unfold lH
     rw[wX,z,q,RJ,show e.refKey=ac from ak aS λt h=>by unfold DictEntry.refKey;rw[h],oD]]
    exact i
theorem XR {R:ae->cT->Prop} {n:Nat} {hs:Int} {t:Tok} {av:ae} {v:ah} (eK: ∀h k,R av ⟨h,k,v⟩): ∀{ns:List Nat} {es:List cT},bC rR ns es-> ∀{l:List ae} {k:List Nat->List ae->aB},bC R l es->(yD n av ns l k).holds->
  ∃tb cA,bC rR tb (lI (nm n) hs (.str (nm n) t) v es)/\bC R cA (lI (nm n) hs (.str (nm n) t) v es)/\(k tb cA).holds:=λaS=>by
 induction aS with
 |nil=>
  intro l k aA h
  cases aA
  exact⟨[n],[av],.cons ⟨t,rfl⟩ .nil,.cons (eK _ _) .nil,h⟩
 | @cons m e ns es aS cq ai=>
  intro l k aA h
  cases aA with
  | @cons w _ l _ aW Ak=>
   have z:=M0 (n:=n) aS
   have h:(match bA m n with
    |true=>k (m::ns) (av::l)
    |false=>yD n av ns l λns l=>k (m::ns) (w::l)).holds:=h
   revert h
   cases q:bA m n with
   |true=>
    rw[show lI (nm n) hs (.str (nm n) t) v (e::es)=⟨e.hash,e.key,v⟩::es by unfold lI;rw[z,q];rfl]
    exact λh=> ⟨_,_,.cons aS cq,.cons (eK _ _) Ak,h⟩
   |false=>
    rw[show lI (nm n) hs (.str (nm n) t) v (e::es)=e::lI (nm n) hs (.str (nm n) t) v es by rw[lI,z,q];rfl]
    exact λh=>bT (ai Ak h) λtb cA i=> ⟨m::tb,w::cA,.cons aS i.1,.cons aW i.2.1,i.2.2⟩
theorem adJ (n:aZ) (hs:Int) (k v:ah) (es:List cT):(lI n hs k v es).length<=es.length+1:=by
 induction es with
 |nil=>exact fj 1
 |cons e es ai=>
  unfold lI
  cases e.key.isStr n with
  |true=>exact ky _
  |false=>exact iY ai
variable [WP]
abbrev wV (k:List Nat) (e:cT):Prop:=(∃t,(e:cT).key= .str (aK k) t)/\e.hash=kX WP.P (aK k)
abbrev gi (ks:List (List Nat)) (es:List cT):Prop:=bC (λk e=> (∃t,(e:cT).key= .str (aK k) t)/\e.hash=kX WP.P (aK k)) ks es
def Rw (F:bh) (w:ah):aj->Prop
 | .none=>w= .none
 | .bool b=>w= .bool b
 | .int i=> ∃t,w= .int i t
 | .str x=> ∃t,w= .str (aK x) t/\x.length<=d0
 | .st a=>w= .ref a
 | .dd i=>w= .builtin i
 | .ty n=>w= .type n
 | .any=>True
 | .tup l=> ∃a vs,w= .ref a/\F a=ab (md vs 0)/\ez F l vs
 | .lst l=> ∃a vs n,w= .ref a/\F a=ab (lobj vs n)/\ez F l vs
 | .inst c ns l=> ∃a d es n,w= .ref a/\F a=ab (kY c d)/\F d=ab (eD es n)/\bC rR ns es/\ez F l (es.map (·.val))
 | .ek ks l=> ∃a es n,w= .ref a/\((ks.Nodup/\ ∀k∈ks,k.length<=d0)/\(a==lJ)=ac)/\F a=ab (eD es n)/\gi ks es/\ez F l (es.map (·.val))
theorem bq.i {F:bh} {v:aj} {w:ah} (h:bq F v w):Rw F w v:=by
 cases h with
 |none=>exact rfl
 |bool b=>exact rfl
 |int i t=>exact⟨t,rfl⟩
 |str s t h=>exact⟨t,rfl,h⟩
 |st a=>exact rfl
 |dd i h=>exact rfl
 |ty n=>exact rfl
 |any v h=>exact True.intro
 |tup h aA=>exact⟨_,_,rfl,h,aA⟩
 |lst h aA=>exact⟨_,_,_,rfl,h,aA⟩
 |inst h hd aS aA=>exact⟨_,_,_,_,rfl,h,hd,aS,aA⟩
 |ek bY h aS aA=>exact⟨_,_,_,rfl,bY,h,aS,aA⟩
theorem Mp {aP:bh} {v:aj} {w:ah} (h:bq aP v w):nz w=aa:=by
 cases h with
 |dd i h=>exact h
 |any v h=>exact h
 |_=>rfl
theorem Mo {aP:bh} {ax:Nat->aR} {U:Nat->Prop} {v:ae} {w:ah} (h:ec aP ax U v w):nz w=aa:=by
 cases v with
 |f v=>exact Mp h
 |aq x=>rw[h.2];rfl
 |dy x f=>obtain ⟨_,a,e,_⟩:=h;rw[e];rfl
section
variable {prog:cO} {w:ba} {A:c2} {K:bZ} {x C:aR} {R:ny->az->Prop} {s:az}
theorem adm {vO:bX} {sp:aR} {name:aZ} {cq:Tok} {v:ah} {es:List cT} {n:Nat} (X:K.In s.heap)
  (I:InstAt s.heap x vO C (ab (eD es n))) (hd:vO.dict=ab sp) (hp:IC K C=aa) (cj:BC K C name=ab af) (cy:(mz K C).any (·.hasDict)=aa)
  (aA:(lH name es).isSome=aa) (cH:(lI name (kX w.params name) (.str name s.toks) v es).length<=1000)
  (h:R (.ok (.ret .none)) {s with heap:=s.heap.update sp (Ik name (kX w.params name) (.str name s.toks) v),toks:=s.toks+1}):
  nA (bp prog w) A (.call (.builtin "object.__setattr__") ⟨[.ref x,.str name cq,v],[]⟩) R s:=by
 refine osa_open X I hp cj λb=> ?_
 obtain ⟨cd,aD,yO⟩:=any_some cy
 obtain ⟨aH,Ms,ar,dI⟩:=I
 obtain ⟨zI,ajn,ajm,ajp⟩:=vO
 dsimp only at Ms hd
 subst Ms hd
 have D:s.heap.get? sp=ab (eD es n):=dI
 have ff:(s.heap.update sp (Ik name (kX w.params name) (.str name s.toks) v)).get? sp=ab (eD (lI name (kX w.params name) (.str name s.toks) v es) (putN name es n)):=by
  rw[<-BB]
  exact SF _ D (by rw[BB];rfl)
 refine bz (dc (bz (bz (IQ aH (bz ((looks_clsIn X aD).here ?_))))))
 rw[yO]
 refine dc (a:=ab sp) (bz (dc (bz ?_)))
 unfold nsSet
 refine bz (bz (wpAny_askSetting (dc (bz (xr (bz (IQ D ?_)))))))
 dsimp only
 unfold lH at aA
 have c:(!es.toArray.any (·.key.isStr name)&&es.toArray.any (·.refKey))=ac:=by
  rw[<-Rc,<-Rc]
  split at aA
  ·rename_i bV he
   rw[RK.mpr ⟨bV,List.mem_of_find?_eq_some he,List.find?_some he⟩];rfl
  ·split at aA
   ·cases aA
   ·rename_i z;rw[Bool.not_eq_true] at z;rw[z,hq]
 rw[aRefKeyMayBeTheName_at,c]
 refine wpAny_updatePart D ?_
 refine bz (wpAny_lookBehind ff (pastItsLine_dict (by rw[hr,gj];omega)) ?_)
 exact dc h
end
end
section
open Builtin Builtin.ObjectAttr
variable [WP]
noncomputable def AR (K:bZ) (c:Nat):Bool:=BA K c "" &&Bw K c&&hL K (.ref c) "__setattr__" ==ab (ab (.builtin "object.__setattr__"))&&IC K c
def tK (K:bZ) (base:cw) (c n:Nat):At->Prop
 | .no=>hL K (.ref c) (nm n)=ab af/\BC K c (nm n)=ab af
 | .fn f=>hL K (.ref c) (nm n)=ab (ab (.ref f))/\isFn K (.ref f)=aa/\oS K (.ref f) "__get__" =ab (ab (.builtin "function.__get__"))/\xg K (.ref f)=ab ac/\rX.contains (nm n)=ac
 | .val v=> ∃a,bq base.get? v a/\hL K (.ref c) (nm n)=ab (ab a)/\oS K a "__get__" =ab af/\nz a=aa/\rX.contains (nm n)=ac
def Hr (K:bZ) (base:cw) (c n:Nat) (v:aj):Prop:= ∃a aG,bq base.get? v a/\readsIn K c aG=aa/\findCls K (.ref c) aG (nm n)=ab (.val a)/\nz a=aa
structure Known (K:bZ) (base:cw) (T:cM):Prop where
 gZ:K.In base
 cls: ∀c l,aL c T.ii=ab l->AR K c=aa
 ii: ∀c n i,T.at c n=ab i->tK K base c n i
 mM: ∀c t n v,aL c T.mM=ab t->aL n t=ab v->Hr K base c n v
def fx (Γ:bM) (T:bG) (K:ae->St->aB) (Q:ah->az->Prop):Prop:= ∀a5 v av s',T.dS a5->aX Γ a5 s'->a5.A av v->(K av a5.σ).holds->Q v s'
def nE (Γ:bM) (T:bG) (K:St->aB) (Q:az->Prop):Prop:= ∀a5 s',T.dS a5->aX Γ a5 s'->(K a5.σ).holds->Q s'
theorem fx.of {Γ:bM} {T:bG} {K:ae->St->aB} {Q:ah->az->Prop} {v:ah} {s:az} {av:ae} (q:fx Γ T K Q) (N:aX Γ T s) (h:T.A av v) (k:(K av T.σ).holds):Q v s:=q T v av s (.refl T) N h k
theorem fx.ex {Γ:bM} {T a5:bG} {K:ae->St->aB} {Q:ah->az->Prop} (x:T.dS a5) (q:fx Γ T K Q):fx Γ a5 K Q:=λmC v av s' y=>q mC v av s' (x.trans y)
theorem fx.fr {Γ:bM} {T:bG} {K:ae->St->aB} {Q:ah->az->Prop} {v:ah} {s:az} {av:aj} (q:fx Γ T K Q) (N:aX Γ T s) (h:bq T.aP av v) (k:(K (.f av) T.σ).holds):Q v s:=q T v (.f av) s (.refl T) N h k
theorem nE.ex {Γ:bM} {T a5:bG} {K:St->aB} {Q:az->Prop} (x:T.dS a5) (q:nE Γ T K Q):nE Γ a5 K Q:=λmC s' y=>q mC s' (x.trans y)
theorem ez.cases {F:bh} {v:aj} {l:List aj} {nj:List ah} (h:ez F (v::l) nj): ∃y zs,nj=y::zs/\bq F v y/\ez F l zs:=by
 cases h with|cons a b=>exact⟨_,_,rfl,a,b⟩
theorem ez.q8 {F:bh} {nj:List ah} (h:ez F [] nj):nj= []:=by cases h;rfl
theorem ez.all2 {F:bh} {l:List aj}: ∀{es:List cT},ez F l (es.map (·.val))->bC (λv e=>bq F v (e:cT).val) l es:=by
 induction l with
 |nil=>exact λh=>by rw[RW.mp h.q8];exact .nil
 |cons v l ai=>
  refine λ{es} h=>bT h.cases λy zs i=> ?_
  cases es with
  |nil=>exact absurd i.1 (HH _ _).symm
  |cons e es=>
   have q:e.val=y:=(gw i.1).1
   have r:es.map (·.val)=zs:=(gw i.1).2
   rw[<-q,<-r] at i
   exact .cons i.2.1 (ai i.2.2)
section
variable {prog:cO} {w:ba} {A:c2} {E:ah->az->Prop} {s:az} {Kf:bZ} {S:cM} {Γ:bM} {T:bG}
structure Rx (Γ:bM) (T:bG) (s:az) (x c:Nat) (ns:List Nat) (l:List ae) (es:List cT) (n:Nat):Prop where
 I:InstAt s.heap (T.ax (2*x)) (kY c (T.ax (2*x+1))) c (ab (eD es n))
 D:s.heap.get? (T.ax (2*x+1))=ab (eD es n)
 z:es.length<=1000
 k:bC rR ns es
 l:bC (λa e=>T.A a (e:cT).val/\glob a=aa) l es
theorem y1 {x c:Nat} {ns:List Nat} {l:List ae} (N:aX Γ T s) (h:T.σ.g x=ab (.inst c ns l)): ∃es n,Rx Γ T s x c ns l es n:=
 let c:=N.aY.cell x _ h
 bT c.2 λes n d=> ⟨es,n,⟨c.1,rfl,rfl,d.1⟩,d.1,d.2.1,d.2.2.1,d.2.2.2⟩
theorem aX.gZ (N:aX Γ T s) (bb:Known Kf Γ.base S):Kf.In s.heap:=λa o e=>N.keeps a o (bb.gZ a o e)
theorem uM {c n:Nat} {i:At} (bb:Known Kf Γ.base S) (h:S.at c n=ab i) (name:aZ):BA Kf c name=aa/\Bw Kf c=aa/\hL Kf (.ref c) "__setattr__" =ab (ab (.builtin "object.__setattr__"))/\IC Kf c=aa:=by
 unfold cM.at at h
 split at h
 ·rename_i l e
  have q:=bb.cls c l e
  unfold AR at q
  simp only[gF,beq_iff_eq] at q
  obtain ⟨⟨⟨a,b⟩,f7⟩,d⟩:=q
  exact⟨a,b,f7,d⟩
 ·cases h
theorem Dr {x:aR} {c n:Nat} {d:aR} {es:List cT} {k:Nat} {v:ah} {b:Bool} {Q:ah->az->Prop} (N:aX Γ T s) (bb:Known Kf Γ.base S) (bj:S.at c n=ab .no)
  (I:InstAt s.heap x (kY c d) c (ab (eD es k))) (aA:lH (nm n) es=ab (ab v)) (aW:nz v=aa) (h:Q v {s with toks:=s.toks+1}):bg (bp prog w) A (BI (.ref x) (nm n) b) Q E s:=
 have f:=uM bb bj (nm n)
 get_value (N.gZ bb) I (xe f.1).1 (findObj_own f.2.1 (bb.ii c n _ bj).1 rfl (by show By (nm n) (eD es k)=_;rw[Bz,aA])) aW h
theorem X7 {x:aR} {c n:Nat} {d:aR} {es:List cT} {k h6:Nat} {b:Bool} {Q:ah->az->Prop} (N:aX Γ T s) (bb:Known Kf Γ.base S) (bj:S.at c n=ab (.fn h6))
  (I:InstAt s.heap x (kY c d) c (ab (eD es k))) (aA:lH (nm n) es=ab af) (h:Q (.ref s.heap.objs.size) {s with heap:=s.heap.push (xd (.ref h6) (.ref x)),toks:=s.toks+1}):bg (bp prog w) A (BI (.ref x) (nm n) b) Q E s:=
 have f:=uM bb bj (nm n)
 have a:=bb.ii c n _ bj
 get_bind (N.gZ bb) I (xe f.1).1 (findObj_fn f.2.1 a.1 a.2.2.1 a.2.2.2.1 a.2.2.2.2 (by show By (nm n) (eD es k)=_;rw[Bz,aA])) (xe f.1).2
  (IL (fn_get (s:={s with toks:=s.toks+1}) (N.gZ bb) (beq_iff_eq.mp a.2.1) (handed_on rfl h)))
theorem Me {x:aR} {c n:Nat} {d:aR} {es:List cT} {k:Nat} {v:aj} {b:Bool} {K:ae->St->aB} {Q:ah->az->Prop} (q:fx Γ T K Q) (N:aX Γ T s) (bb:Known Kf Γ.base S) (bj:S.at c n=ab (.val v))
  (I:InstAt s.heap x (kY c d) c (ab (eD es k))) (aA:lH (nm n) es=ab af) (h:(K (.f v) T.σ).holds):bg (bp prog w) A (BI (.ref x) (nm n) b) Q E s:=
 have f:=uM bb bj (nm n)
 ak (bb.ii c n _ bj) λa i=>get_value (N.gZ bb) I (xe f.1).1 (findObj_cls f.2.1 i.2.1 i.2.2.1 i.2.2.2.1 i.2.2.2.2 (by show By (nm n) (eD es k)=_;rw[Bz,aA])) i.2.2.2.1
  (q.fr (N.toks _) (bq.mono N.base i.1) h)
omit [WP] in
theorem oa {n:Nat} {ns:List Nat} {α:Type} {l:List α} {v:ae} {k:ae->aB} (h:(cv (ke n ns l v) k).holds):fld n ns l=af/\(k v).holds:=by
 unfold ke at h
 revert h
 cases fld n ns l with
 |none=>exact λh=> ⟨rfl,h⟩
 |some w=>exact fL
theorem Md {n:Nat} {o:ae} {e4:ah} {b:Bool} {K:ae->St->aB} {Q:ah->az->Prop} (bb:Known Kf Γ.base S) (N:aX Γ T s) (bW:T.A o e4) (h:(cv (uB S n o T.σ) λr=>K r T.σ).holds) (q:fx Γ T K Q):
  bg (bp prog w) A (BI e4 (nm n) b) Q E s:=by
 cases o with
 |dy x f=>exact h.elim
 |aq x=>
  rw[bW.2]
  have h:(cv (match T.σ.g x with
   |some (.inst c ns l)=>match S.at c n with
    |some .no=>fld n ns l
    |some (.fn f)=>ke n ns l (.dy x f)
    |some (.val w)=>ke n ns l (.f w)
    |none=>af
   |_=>af) λr=>K r T.σ).holds:=h
  revert h
  cases aH:T.σ.g x with
  |none=>exact fL
  |some ao=>cases ao with
   |inst c ns l=>
    refine bT (y1 N aH) λes k i=> ?_
    have f:=yy (n:=n) i.k i.l
    show(cv (match S.at c n with
     |some .no=>fld n ns l
     |some (.fn f)=>ke n ns l (.dy x f)
     |some (.val w)=>ke n ns l (.f w)
     |none=>af) λr=>K r T.σ).holds->_
    cases bj:S.at c n with
    |none=>exact fL
    |some at'=>cases at' with
     |no=>exact λh=>ak (dp h) λav h=>ak (f.1 av h.1) λe g=>Dr N bb bj i.I g.2 (Mo g.1.1) (q.of (N.toks _) g.1.1 h.2)
     |fn h6=>exact λh=>X7 N bb bj i.I (f.2 (oa h).1) (have p:=N.vS (xd (.ref h6) (.ref (T.ax (2*x)))) rfl;q _ _ (.dy x h6) _ p.2 (p.1.grow (λ_ _ e=>e) rfl rfl) ⟨bW.1,_,rfl,bh.gc _ _ _⟩ (oa h).2)
     |val v=>exact λh=>Me q N bb bj i.I (f.2 (oa h).1) (oa h).2
   |_=>exact fL
 |f v=>cases v with
  |inst c ns l=>
   refine ni (bq.i bW) λa d es k i=> ?_
   rw[i.1]
   have I:InstAt s.heap a (kY c d) c (ab (eD es k)):=⟨N.aY.bE _ _ i.2.1,rfl,rfl,N.aY.bE _ _ i.2.2.1⟩
   have f:=yy (n:=n) i.2.2.2.1 (ez.all2 i.2.2.2.2)
   have h:(cv (match S.at c n with
    |some .no=> (fld n ns l).map .f
    |some (.val w)=>ke n ns l (.f w)
    |_=>af) λr=>K r T.σ).holds:=h
   revert h
   cases bj:S.at c n with
   |none=>exact fL
   |some at'=>cases at' with
    |fn h6=>exact fL
    |no=>exact λh=>ak (dp h) λav h=>ak (qc.mp h.1) λG5 m=>ak (f.1 G5 m.1) λe g=>Dr N bb bj I g.2 (Mp g.1) (q.of (N.toks _) (show T.A av e.val from m.2▸g.1) h.2)
    |val v=>exact λh=>Me q N bb bj I (f.2 (oa h).1) (oa h).2
  |st c=>
   rw[bq.i bW]
   have h:(cv (match aL c S.mM with
    |some t=> (aL n t).map ae.f
    |none=>af) λr=>K r T.σ).holds:=h
   revert h
   cases cj:aL c S.mM with
   |none=>exact fL
   |some t=>exact λh=>ak (dp h) λav h=>ak (qc.mp h.1) λG5 m=>bT (bb.mM c t n G5 cj m.1) λa aG i=>
     cls_value (N.gZ bb) i.2.1 i.2.2.1 i.2.2.2 (q.of (N.toks _) (show T.A av a from m.2▸bq.mono N.base i.1) h.2)
  |_=>exact h.elim
omit [WP] in
theorem af1 {n:Nat} {o:ae} {σ:St} {S:cM} {p:Nat×List Nat×List ae} (h:Qa S n o σ=ab p):aY σ o=ab (.inst p.1 p.2.1 p.2.2)/\S.at p.1 n=ab .no:=by
 have h:(match aY σ o with
  |some (.inst c ns l)=>match S.at c n with
   |some .no=>ab (c,ns,l)
   |_=>af
  |_=>af)=ab p:=h
 cases aH:aY σ o with
 |none=>rw[aH] at h;exact a3 h
 |some ao=>
  rw[aH] at h
  cases ao with
  |inst c ns l=>
   have h:(match S.at c n with
    |some .no=>ab (c,ns,l)
    |_=>af)=ab p:=h
   cases bj:S.at c n with
   |none=>rw[bj] at h;exact a3 h
   |some i=>
    rw[bj] at h
    cases i with
    |no=>cases h;exact⟨rfl,bj⟩
    |_=>exact a3 h
  |_=>exact a3 h
theorem P9 {n:Nat} {o v:ae} {e4 cZ:ah} {K:St->aB} {Q:Unit->az->Prop} (bb:Known Kf Γ.base S) (N:aX Γ T s) (bW:T.A o e4) (aW:T.A v cZ) (h:(v3 S n o v T.σ K).holds) (q:nE Γ T K (Q ())):
  bg (bp prog w) A (setAttr e4 (nm n) cZ) Q E s:=by
 refine ak (dp h) λp h=> ?_
 have pw:=af1 h.1
 have h:=gr h.2
 have cJ:=fW.mp h.1
 cases o with
 |f _=>exact a3 pw.1
 |dy _ _=>exact a3 pw.1
 |aq x=>
  rw[bW.2]
  refine bT (y1 N pw.1) λes k i=> ?_
  have f:=uM bb pw.2 (nm n)
  have cH:(lI (nm n) (kX w.params (nm n)) (.str (nm n) (s.toks+1)) cZ es).length<=1000:=by
   have ap:=adJ (nm n) (kX w.params (nm n)) (.str (nm n) (s.toks+1)) cZ es
   have aC:p.2.1.length<=100:=cS cJ.1
   rw[i.k.length] at aC
   exact bf ap (iY (bf aC (cS rfl)))
  have aA:(lH (nm n) es).isSome=aa:=by
   have f:=yy (n:=n) i.k i.l
   cases z:fld n p.2.1 p.2.2 with
   |none=>rw[f.2 z];rfl
   |some av=>exact ak (f.1 av z) λe g=>by rw[g.2];rfl
  refine set_plain (N.gZ bb) i.I f.2.2.1 (adm (s:={s with toks:=s.toks+1}) (N.gZ bb) i.I rfl f.2.2.2 (bb.ii _ n .no pw.2).2 f.2.1 aA cH ?_)
  refine bT (XR (R:=λa e=>T.A a (e:cT).val/\glob a=aa) (n:=n) (hs:=kX w.params (nm n)) (t:=s.toks+1) (av:=v) (v:=cZ) (λ_ _=> ⟨aW,cJ.2⟩) i.k i.l h.2) λtb cA m=> ?_
  have cy:=m.2.2
  rw[Ft] at cy
  have D:=i.D
  have ne:T.ax (2*x+1)≠T.ax (2*x):=λq=>by
   have ap:=i.I.at_
   rw[<-q,D] at ap
   cases ap
  have C:=N.turn (t:=s.toks+1+1) pw.1 (a:=T.ax (2*x+1)) (f:=Ik (nm n) (kX w.params (nm n)) (.str (nm n) (s.toks+1)) cZ) (.tail _ (.head _)) (bo:= .inst p.1 tb cA) rfl
   ⟨(Heap.get?_update_other _ _ ne).trans i.I.at_,_,putN (nm n) es k,by rw[<-BB];exact SF _ D (by rw[BB];rfl),cH,m.1,m.2.1⟩
  exact q _ _ C.2 C.1 cy
end
end
section
variable [WP]
def gl (hp:b5) (x:Nat):Option cc:=match d6 x 100 with
 |true=>aL x hp
 |false=>af
theorem pk {σ:St} {x:Nat} (h:x<100):gl σ.hp x=σ.g x:=by
 unfold gl St.g
 rw[show d6 x 100=aa from mr h]
theorem qP {hp:b5} {x:Nat} {ao:cc} (h:gl hp x=ab ao):x<100:=by
 unfold gl at h
 split at h
 ·rename_i q;exact cS q
 ·cases h
theorem ec.glob {F:bh} {ax:Nat->aR} {U U':Nat->Prop} {v:ae} {w:ah} (h:ec F ax U v w) (g:Q7.glob v=aa) (u: ∀x,x<100->U x->U' x):ec F ax U' v w:=by
 cases v with
 |f v=>exact h
 |aq x=>exact⟨u x (cS g) h.1,h.2⟩
 |dy x f=>obtain ⟨a,b⟩:=h;exact⟨u x (cS g) a,b⟩
theorem Hq {F:bh} {ax:Nat->aR} {U U':Nat->Prop} {h:cw} {x:Nat} {ao:cc} (u: ∀x,x<100->U x->U' x) (C:lA F ax U h x ao):lA F ax U' h x ao:=by
 cases ao with
 |inst c ns l=>obtain ⟨ap,es,n,aC,cH,bu,d8⟩:=C;exact⟨ap,es,n,aC,cH,bu,d8.mono λa e q=> ⟨q.1.glob q.2 u,q.2⟩⟩
 |list l=>obtain ⟨vs,n,ap,aC⟩:=C;exact⟨vs,n,ap,aC.mono λa e q=> ⟨q.1.glob q.2 u,q.2⟩⟩
 |dict ks l=>obtain ⟨es,n,P,ap,aC,bu⟩:=C;exact⟨es,n,P,ap,aC,bu.mono λa e q=> ⟨q.1.glob q.2 u,q.2⟩⟩
theorem rB {σ:St} (lu: ∀x∈σ.lu,100<=x): ∀x,x<100->dO σ.g σ.lu x->dO (gl σ.hp) [] x:=λx h u=>by
 rcases u with⟨a,_⟩ |b
 ·exact .inl ⟨by rw[pk h];exact a,h⟩
 ·exact absurd (lu x b) (by omega)
theorem Dv {σ:St}: ∀x,dO (gl σ.hp) [] x->dO σ.g σ.lu x:=λx u=>by
 rcases u with⟨a,b⟩ |b
 ·exact .inl ⟨by rw[<-pk b];exact a,b⟩
 ·cases b
structure Back (aP:bh) (ax:Nat->aR) (hp:b5) (Fr:bh) (s:az) (eH:bh) (ρ':Nat->aR) (dn:b5) (s':az):Prop where
 bE:dT aP eH
 dN: ∀x,dO (gl hp) [] x->dO (gl dn) [] x
 ax: ∀x,dO (gl hp) [] x->ρ' (2*x)=ax (2*x)
 aY:fe eH Fr ρ' (gl dn) [] s'.heap
 gens:s'.gens=s.gens
 os:s'.os=s.os
open Classical in
theorem aX.enter {Γ:bM} {T:bG} {s:az} (N:aX Γ T s): ∃kv,fe T.aP kv T.ax (gl T.σ.hp) [] s.heap/\
  ∀eH ρ' dn s',Back T.aP T.ax T.σ.hp kv s eH ρ' dn s'-> ∃iV,aX Γ ⟨eH,iV,⟨T.σ.loc,dn,T.σ.lh,T.σ.lu⟩⟩ s'/\T.dS ⟨eH,iV,⟨T.σ.loc,dn,T.σ.lh,T.σ.lu⟩⟩/\
   ∀av v,ec eH ρ' (dO (gl dn) []) av v->bG.A ⟨eH,iV,⟨T.σ.loc,dn,T.σ.lh,T.σ.lu⟩⟩ av v:=by
 let own:aR->Prop:=λb=>b=Γ.L\/ ∃x ao,100<=x/\T.σ.g x=ab ao/\b∈adr T.ax x ao
 let kv:bh:=λb=>if own b then s.heap.get? b else Γ.Fr b
 have Fj: ∀b,own b->T.aP b=af/\Γ.Fr b=af:=λb h=>by
  rcases h with rfl| ⟨x,ao,_,aH,ag⟩
  ·exact N.lo.free
  ·exact N.aY.ca x ao aH b ag
 have U:=N.lo.lu
 refine⟨kv,⟨N.aY.bE,λb o e=> ?_,λx ao e=> ?_,λx ao e a aE=> ?_,λx y ao bo e1 e2=> ?_⟩, ?_⟩
 ·by_cases h:own b
  ·have e:s.heap.get? b=ab o:=by simpa [kv,h] using e
   exact⟨e,(Fj b h).1⟩
  ·have e:Γ.Fr b=ab o:=by simpa [kv,h] using e
   exact N.aY.fr b o e
 ·have lt:=qP e
  rw[pk lt] at e
  exact Hq (rB U) (N.aY.cell x ao e)
 ·have lt:=qP e
  rw[pk lt] at e
  refine⟨(N.aY.ca x ao e a aE).1, ?_⟩
  have no: ¬own a:=λh=>by
   rcases h with rfl| ⟨y,bo,cP,cN,ag⟩
   ·exact N.lo.b2 x ao e aE
   ·exact N.aY.gn x y ao bo e cN (by omega) a aE ag
  simp only[kv,no,if_false]
  exact(N.aY.ca x ao e a aE).2
 ·have l1:=qP e1
  have e3:=qP e2
  rw[pk l1] at e1
  rw[pk e3] at e2
  exact N.aY.gn x y ao bo e1 e2
 ·intro eH ρ' dn s' B
  let iV:Nat->aR:=λk=>if k<200 then ρ' k else T.ax k
  have lo: ∀x,x<100->iV (2*x)=ρ' (2*x)/\iV (2*x+1)=ρ' (2*x+1):=λx h=> ⟨if_pos (by omega),if_pos (by omega)⟩
  have bj: ∀x,100<=x->iV (2*x)=T.ax (2*x)/\iV (2*x+1)=T.ax (2*x+1):=λx h=> ⟨if_neg (by omega),if_neg (by omega)⟩
  let σ':St:=⟨T.σ.loc,dn,T.σ.lh,T.σ.lu⟩
  have sF: ∀x,100<=x->σ'.g x=T.σ.g x:=λx h=>by
   unfold St.g
   rw[show d6 x 100=ac from by cases q:d6 x 100 with|false=>rfl|true=>exact absurd (cS q) (by show¬x<100;omega)]
  have i8: ∀x,x<100->σ'.g x=gl dn x:=λx h=> (pk (σ:=σ') h).symm
  have G2: ∀x,T.U x->dO σ'.g σ'.lu x:=λx h=>by
   by_cases lt:x<100
   ·exact Dv (σ:=σ') x (B.dN x (rB U x lt h))
   ·rcases h with⟨_,q⟩ |q
    ·exact absurd q lt
    ·exact .inr q
  have Hi: ∀x,T.U x->iV (2*x)=T.ax (2*x):=λx h=>by
   by_cases lt:x<100
   ·rw[(lo x lt).1];exact B.ax x (rB U x lt h)
   ·exact(bj x (by omega)).1
  have ex:T.dS ⟨eH,iV,σ'⟩:=⟨B.bE,G2,Hi⟩
  have qN: ∀b,own b-> ∀o,s.heap.get? b=ab o->kv b=ab o:=λb h o e=>by simp only[kv,h,if_true];exact e
  have live: ∀b,own b-> ∃o,s.heap.get? b=ab o:=λb h=>by
   rcases h with rfl| ⟨x,ao,_,aH,ag⟩
   ·obtain ⟨m,⟨o,_,_,e,_⟩,_⟩:=N.lo.ns;exact⟨o,e⟩
   ·exact lM (N.aY.cell x ao aH) b ag
  have kept: ∀b,own b->s.heap.get? b=s'.heap.get? b:=λb h=>by
   obtain ⟨o,e⟩:=live b h
   rw[e,(B.aY.fr b o (qN b h o e)).1]
  have uq: ∀x ao,100<=x->adr iV x ao=adr T.ax x ao:=λx ao h=>by cases ao<;>simp only[adr,(bj x h).1,(bj x h).2]
  have ur: ∀x ao,x<100->adr iV x ao=adr ρ' x ao:=λx ao h=>by cases ao<;>simp only[adr,(lo x h).1,(lo x h).2]
  have xF: ∀av v,ec eH ρ' (dO (gl dn) []) av v->ec eH iV (dO σ'.g σ'.lu) av v:=λav v h=>
   h.mono (dT.refl _) (λx q=>Dv (σ:=σ') x q) λx q=>by
    rcases q with⟨_,q⟩ |q
    ·exact(lo x q).1
    ·cases q
  refine⟨iV,⟨⟨B.aY.bE,λb o e=> ?_,λx ao e=> ?_,λx ao e a aE=> ?_,λx y ao bo e1 e2 ne a aE=> ?_⟩,⟨?_, ?_,λx ao e=> ?_,U⟩,N.base.trans B.bE,B.gens.trans N.gens,B.os.trans N.os,λx a e=> ⟨G2 x (N.pin x a e).1,(Hi x (N.pin x a e).1).trans (N.pin x a e).2⟩⟩,ex,xF⟩
  ·have: ¬own b:=λh=>by rw[(Fj b h).2] at e;cases e
   exact B.aY.fr b o (by simp only[kv,this,if_false];exact e)
  ·have e:σ'.g x=ab ao:=e
   by_cases lt:x<100
   ·rw[i8 x lt] at e
    exact ix (dT.refl _) (λy q=>Dv (σ:=σ') y q) (λy q=>by
     rcases q with⟨_,q⟩ |q
     ·exact(lo y q).1
     ·cases q) (λ_ _=>rfl) (lo x lt).1 (lo x lt).2 (B.aY.cell x ao e)
   ·rw[sF x (by omega)] at e
    exact ix B.bE G2 Hi (λa aE=>kept a (.inr ⟨x,ao,by omega,e,aE⟩)) (bj x (by omega)).1 (bj x (by omega)).2 (N.aY.cell x ao e)
  ·have e:σ'.g x=ab ao:=e
   by_cases lt:x<100
   ·rw[i8 x lt] at e
    rw[ur x ao lt] at aE
    have z:=B.aY.ca x ao e a aE
    refine⟨z.1, ?_⟩
    have no: ¬own a:=λh=>by obtain ⟨o,q⟩:=live a h;rw[qN a h o q] at z;cases z.2
    have mj:=z.2
    simp only[kv,no,if_false] at mj
    exact mj
   ·rw[sF x (by omega)] at e
    rw[uq x ao (by omega)] at aE
    have o:own a:= .inr ⟨x,ao,by omega,e,aE⟩
    obtain ⟨aq,q⟩:=live a o
    exact⟨(B.aY.fr a aq (qN a o aq q)).2,(Fj a o).2⟩
  ·have e1:σ'.g x=ab ao:=e1
   have e2:σ'.g y=ab bo:=e2
   by_cases l1:x<100
   ·rw[i8 x l1] at e1
    rw[ur x ao l1] at aE
    by_cases e3:y<100
    ·rw[i8 y e3] at e2
     rw[ur y bo e3]
     exact B.aY.gn x y ao bo e1 e2 ne a aE
    ·rw[sF y (by omega)] at e2
     rw[uq y bo (by omega)]
     intro ag
     have o:own a:= .inr ⟨y,bo,by omega,e2,ag⟩
     obtain ⟨aq,q⟩:=live a o
     have:=(B.aY.ca x ao e1 a aE).2
     rw[qN a o aq q] at this;cases this
   ·rw[sF x (by omega)] at e1
    rw[uq x ao (by omega)] at aE
    by_cases e3:y<100
    ·rw[i8 y e3] at e2
     rw[ur y bo e3]
     intro ag
     have o:own a:= .inr ⟨x,ao,by omega,e1,aE⟩
     obtain ⟨aq,q⟩:=live a o
     have:=(B.aY.ca y bo e2 a ag).2
     rw[qN a o aq q] at this;cases this
    ·rw[sF y (by omega)] at e2
     rw[uq y bo (by omega)]
     exact N.aY.gn x y ao bo e1 e2 ne a aE
  ·obtain ⟨m,ar,hm⟩:=N.lo.ns
   obtain ⟨o,es,ep,e,r⟩:=ar
   exact⟨m,⟨o,es,ep,(kept Γ.L (.inl rfl)).symm.trans e,r⟩,λn av e=>let ⟨v,a1,a2⟩:=hm n av e;⟨v,a1,a2.ex ex⟩⟩
  ·obtain ⟨aq,q⟩:=live Γ.L (.inl rfl)
   exact⟨(B.aY.fr Γ.L aq (qN _ (.inl rfl) aq q)).2,N.lo.free.2⟩
  ·have e:σ'.g x=ab ao:=e
   by_cases lt:x<100
   ·rw[i8 x lt] at e
    intro ag
    rw[ur x ao lt] at ag
    obtain ⟨aq,q⟩:=live Γ.L (.inl rfl)
    have:=(B.aY.ca x ao e _ ag).2
    rw[qN _ (.inl rfl) aq q] at this;cases this
   ·rw[sF x (by omega)] at e
    rw[uq x ao (by omega)]
    exact N.lo.b2 x ao e
end
section
open Builtin Builtin.Str
theorem blt_eq (a b:Nat):d6 a b=decide (a<b):=AN.mpr ⟨λh=>decide_eq_true (cS h),λh=>mr (of_decide_eq_true h)⟩
theorem Es {x:List Nat}: ∀{y:List Nat},en x y=decide (x<y):=by
 induction x with
 |nil=>exact λ{y}=>by cases y<;>rfl
 |cons a x ai=>
  intro y
  cases y with
  |nil=>rfl
  |cons b y=>
   show(d6 a b|| (bA a b&&en x y))=_
   rw[ai,beq_eq,blt_eq]
   simp only[List.cons_lt_cons_iff,Bool.decide_or,Bool.decide_and]
theorem Eg (x y:List Nat):aM x y=(x==y):=by
 cases q:(x==y) with
 |true=>exact gM.mpr (by simpa using q)
 |false=>
  cases z:aM x y with
  |false=>rfl
  |true=>have:=gM.mp z;subst this;simp at q
theorem zQ: ∀{x y:List Nat},pre x y=aa↔ ∃z,y=x++z
 | [],y=>by simp[pre]
 |_::_,[]=>by simp[pre]
 |a::x,b::y=>by
  simp only[pre,gF,beq_eq,decide_eq_true_eq,zQ (x:=x) (y:=y),RN,List.cons.injEq]
  exact⟨λ⟨h,z,k⟩=> ⟨z,h.symm,k⟩,λ⟨z,h,k⟩=> ⟨h.symm,z,k⟩⟩
theorem MO: ∀{x y:List Nat},bO x y=aa↔ ∃a z,y=a++(x++z)
 |x,[]=>by
  simp only[bO,zQ]
  exact⟨λ⟨z,h⟩=> ⟨[],z,h⟩,λ⟨a,z,h⟩=> ⟨z,by
   have:=congrArg A6 h
   simp at this
   have aE:a= []:=wW (by omega)
   subst aE;exact h⟩⟩
 |x,b::y=>by
  simp only[bO,nk,zQ,MO (x:=x) (y:=y)]
  constructor
  ·rintro (⟨z,h⟩ | ⟨a,z,h⟩)
   ·exact⟨[],z,h⟩
   ·exact⟨b::a,z,by rw[h];rfl⟩
  ·rintro ⟨a,z,h⟩
   cases a with
   |nil=>exact .inl ⟨z,h⟩
   |cons c a=>exact .inr ⟨a,z,by simpa using(gw h).2⟩
theorem Ac {y x:List Nat} {i:Nat} (bj:i+x.length<=y.length):subAt (aK y) (aK x) i=aa↔ ∃a z,a.length=i/\y=a++(x++z):=by
 unfold subAt
 have e:((aK y).cps.extract i (i+(aK x).length)==(aK x).cps)=((y.drop i).take x.length==x):=by
  rw[AN,beq_iff_eq,beq_iff_eq,<-wG]
  simp[List.extract_eq_drop_take,Ip]
 rw[e,beq_iff_eq]
 constructor
 ·intro h
  have k:=p7 x.length (y.drop i)
  rw[h] at k
  exact⟨y.take i,(y.drop i).drop x.length,by simp;omega,by rw[k,p7]⟩
 ·rintro ⟨a,z,rfl,rfl⟩
  simp
theorem MP (x y:List Nat):(!(occurrences (aK y) (aK x) 0 (aK y).length 1).isEmpty)=bO x y:=by
 have k:=StrLaws.found_iff (aK y) (aK x)
 rw[AN,k,MO]
 have zo:(aK y).length=y.length:=by simp[Ip]
 have abN:(aK x).length=x.length:=by simp[Ip]
 rw[zo,abN]
 constructor
 ·rintro ⟨i,ap,aC⟩
  obtain ⟨a,z,_,h⟩:=(Ac ap).mp aC
  exact⟨a,z,h⟩
 ·rintro ⟨a,z,h⟩
  have aA:a.length+x.length<=y.length:=by rw[h];simp
  exact⟨a.length,aA,(Ac aA).mpr ⟨a,z,rfl,h⟩⟩
variable [WP]
theorem gK {F:bh} {i:Int} {v:ah} (h:bq F (.int i) v): ∃t,v= .int i t:=h.i
theorem fR {F:bh} {x:List Nat} {v:ah} (h:bq F (.str x) v): ∃t,v= .str (aK x) t/\x.length<=d0:=h.i
theorem ys {F:bh} {b:Bool} {v:ah} (h:bq F (.bool b) v):v= .bool b:=h.i
theorem k9 {F:bh} {v:ah} (h:bq F .none v):v= .none:=h.i
theorem L4 (c:Nat): ∀(n:Nat) (a:Array Nat),(gQ n #[c]).foldl (· ++ ·) a=a++(gQ n c).toArray
 |0,a=>by simp
 |n+1,a=>by
  rw[R1,List.foldl_cons,L4 c n]
  refine wG.mp ?_
  simp[R1]
section
variable {prog:cO} {w:ba} {A:c2} {E:ah->az->Prop} {s:az} {Γ:bM} {T:bG}
theorem Jd {x y:List Nat} {t u:Tok} {K:ae->St->aB} {Q:ah->az->Prop} (q:fx Γ T K Q) (N:aX Γ T s) (ap:x.length<=d0) (aC:y.length<=d0) (h:SZ (x++y).length/\(K (.f (.str (x++y))) T.σ).holds):
  (if(aK x).length==0 then Ii (.str (aK y) u) else if(aK y).length==0 then Ii (.str (aK x) t) else Ih (aK x++aK y)).post Q s:=by
 obtain ⟨cH,h⟩:=h
 cases x with
 |nil=>exact q.fr N (.str _ _ aC) h
 |cons c x=>
  cases y with
  |nil=>exact q.fr N (.str _ _ ap) (by rw[dj] at h;exact h)
  |cons d y=>
   have e:aK (c::x)++aK (d::y)=aK ((c::x)++(d::y)):=by
    show rV _=rV _
    congr 1
    show(c::x).toArray++(d::y).toArray=_
    simp
   show(Ih _).post _ _
   rw[e]
   have z:(c::x++d::y).length<=d0:=by rw[gj];exact cH
   exact⟨z,q.fr (N.toks _) (.str _ _ z) h⟩
omit [WP] in
theorem o4 {v:ae} {i:Int} (h:hb v=ab i):v= .f (.int i):=by
 cases v with
 |f v=>cases v with
  |int j=>cases h;rfl
  |_=>exact a3 h
 |_=>exact a3 h
omit [WP] in
theorem mF {v:ae} {x:List Nat} (h:ih v=ab x):v= .f (.str x):=by
 cases v with
 |f v=>cases v with
  |str j=>cases h;rfl
  |_=>exact a3 h
 |_=>exact a3 h
theorem vk {a b:ae} {x y:ah} {P:ah->ah->Prop} {f:Int->Int->Option Prop×ae} {k:Option Prop×ae->aB} (aE:T.A a x) (ag:T.A b y) (h:(cv (match hb a with
  |some i=> (hb b).map (f i)
  |none=>af) k).holds) (q: ∀i j t u,(k (f i j)).holds->P (.int i t) (.int j u)):P x y:=by
 revert h
 cases e:hb a with
 |none=>exact fL
 |some i=>cases cN:hb b with
  |none=>exact fL
  |some j=>
   rw[o4 e] at aE
   rw[o4 cN] at ag
   exact λh=>ak (gK aE) λt r=>ak (gK ag) λu iu=>by rw[r,iu];exact q i j t u h
omit [WP] in
theorem Uh {v:ae} {x:List aj} (h:Js v=ab x):v= .f (.tup x):=by
 cases v with
 |f v=>cases v with
  |tup j=>rw[<-bQ h]
  |_=>exact a3 h
 |_=>exact a3 h
omit [WP] in
theorem Jq {v:ae} {x:List (List Nat)×List aj} (h:Ck v=ab x):v= .f (.ek x.1 x.2):=by
 cases v with
 |f v=>cases v with
  |ek _ _=>rw[<-bQ h]
  |_=>exact a3 h
 |_=>exact a3 h
omit [WP] in
theorem Ud {v:ae} {x:aj} (h:uw v=ab x):v= .f x:=by
 cases v with
 |f v=>rw[<-bQ h]
 |_=>exact a3 h
omit [WP] in
theorem xG {v:ae} {x:List aj} (h:se v=ab x):v= .f (.lst x):=by
 cases v with
 |f v=>cases v with
  |lst j=>rw[<-bQ h]
  |_=>exact a3 h
 |_=>exact a3 h
theorem Jc {a b:ae} {x y:ah} {P:ah->ah->Prop} {k:ae->aB} (aE:T.A a x) (ag:T.A b y) (h:(o6 .Add a b k).holds) (q: ∀i j t u,(k (.f (.int (i+j)))).holds->P (.int i t) (.int j u))
  (gO: ∀i j t u,i.length<=d0->j.length<=d0->SZ (i++j).length/\(k (.f (.str (i++j)))).holds->P (.str (aK i) t) (.str (aK j) u)):P x y:=by
 cases a with
 |f a=>cases a with
  |int i=>exact vk (f:=λi j=> (af,.f (.int (i+j)))) aE ag h q
  |str i=>
   have h:(cv ((ih b).map λy=> (ab (SZ (i++y).length),.f (.str (i++y)))) λr=>nY r.1 (k r.2)).holds:=h
   revert h
   cases e:ih b with
   |none=>exact fL
   |some j=>
    rw[mF e] at ag
    exact λh=>ak (fR aE) λt r=>ak (fR ag) λu iu=>by rw[r.1,iu.1];exact gO i j t u r.2 iu.2 h
  |_=>exact h.elim
 |_=>exact h.elim
theorem adC {i j:Int} (h:0<j):i.fmod j=i%j:=Int.fmod_eq_emod_of_nonneg _ (Ry h)
theorem Fp {j:Int} (h:0<j):(j==0)=ac:=beq_eq_false_iff_ne.mpr (RB h)
theorem acx {i j:Int} (h:0<j) (k:j<10000): ¬divisionGoesByPylong i j=aa:=by
 unfold divisionGoesByPylong
 have:j.natAbs.log2<14:=(Nat.log2_lt (by omega)).mpr (by omega)
 simp only[Fp h,Rj,if_false,gF,decide_eq_true_eq]
 omega
theorem ab3 {c:Nat} {n:Int} {t u:Tok} {K:ae->St->aB} {Q:ah->az->Prop} (q:fx Γ T K Q) (N:aX Γ T s) (ap: [c].length<=d0) (l1: -1000<n) (e3:n<1000) (h:(K (.f (.str (gQ n.toNat c))) T.σ).holds):
  bg (bp prog w) A (qf .Mult (.str (aK [c]) t) (.int n u)) Q E s:=by
 have len:(aK [c]).length=1:=rfl
 refine P.mul_str (by simp;omega) (λ_ _=> ?_) (λ_ _=> ?_) ?_
 ·rw[len]
  have:(2 ^ 63-1:Int) /n≥1:=(Int.le_ediv_iff_mul_le (by omega)).mpr (by omega)
  omega
 ·rw[len]
  unfold Sq
  rw[gj]
  simp;omega
 ·rw[len]
  split
  ·rename_i z
   have:n.toNat=0:=by omega
   rw[this] at h
   exact⟨fw _,q.fr (N.toks _) (.str [] _ (fw _)) h⟩
  ·split
   ·rename_i hF gO
    have e:n=1:=by simpa using gO
    rw[e] at h
    exact q.fr N (.str _ _ ap) h
   ·have e:(⟨(gQ n.toNat (aK [c]).cps).foldl (· ++ ·) #[]⟩:aZ)=aK (gQ n.toNat c):=by
     show rV ((gQ n.toNat #[c]).foldl (· ++ ·) #[])=rV _
     rw[L4,Array.empty_append]
    rw[e]
    have z:(gQ n.toNat c).length<=d0:=by rw[gj,A8];omega
    exact⟨z,q.fr (N.toks _) (.str _ _ z) h⟩
theorem Ut {op:my} {a b:ae} {hW kq:ah} {K:ae->St->aB} (N:aX Γ T s) (aE:T.A a hW) (ag:T.A b kq) {Q:ah->az->Prop} (h:(o6 op a b λr=>K r T.σ).holds) (q:fx Γ T K Q):
  bg (bp prog w) A (qf op hW kq) Q E s:=by
 cases op with
 |Add=>exact Jc (P:=λx y=>bg (bp prog w) A (qf .Add x y) Q E s) aE ag h (λi j t u h=>P.add_int (q.fr (N.toks _) (.int _ _) h)) (λi j t u ap aC h=>P.add_str (Jd q N ap aC h))
 |Sub=>exact vk (P:=λx y=>bg (bp prog w) A (qf .Sub x y) Q E s) aE ag h (λi j t u h=>P.sub_int (q.fr (N.toks _) (.int _ _) h))
 |Mod=>exact vk (P:=λx y=>bg (bp prog w) A (qf .Mod x y) Q E s) (f:=λi j=> (ab (0<j),.f (.int (i%j)))) aE ag h λi j t u h=>AutoIntOps.mod_1 (ne_true_of_eq_false<|Fp h.1) (by rw[adC h.1];exact q.fr (N.toks _) (.int _ _) h.2)
 |FloorDiv=>exact vk (P:=λx y=>bg (bp prog w) A (qf .FloorDiv x y) Q E s) (f:=λi j=> (ab (0<j/\j<10000),.f (.int (i/j)))) aE ag h λi j t u h=>
   AutoIntOps.floordiv_1 (ne_true_of_eq_false<|Fp h.1.1) (acx h.1.1 h.1.2) (by rw[Int.fdiv_eq_ediv_of_nonneg _ (Ry h.1.1)];exact q.fr (N.toks _) (.int _ _) h.2)
 |Mult=>
  have h:(cv (match ih a with
   |some [c]=> (hb b).map λn=> (ab (-1000<n/\n<1000),ae.f (.str (gQ n.toNat c)))
   |_=>af) λr=>nY r.1 (K r.2 T.σ)).holds:=h
  revert h
  cases e:ih a with
  |none=>exact fL
  |some l=>cases l with
   |nil=>exact fL
   |cons c l=>cases l with
    |cons _ _=>exact fL
    |nil=>cases cN:hb b with
     |none=>exact fL
     |some n=>
      rw[mF e] at aE
      rw[o4 cN] at ag
      exact λh=>ak (fR aE) λt r=>ak (gK ag) λu iu=>by rw[r.1,iu];exact ab3 q N r.2 h.1.1 h.1.2 h.2
 |_=>exact h.elim
noncomputable def B9:my->Bool
 | .Add=>aa
 | .Sub=>aa
 |_=>ac
theorem MT {op:my} {a b:ae} {hW kq:ah} {K:ae->St->aB} (bW:B9 op=aa) (N:aX Γ T s) (aE:T.A a hW) (ag:T.A b kq) {Q:ah->az->Prop} (h:(o6 op a b λr=>K r T.σ).holds) (q:fx Γ T K Q):
  bg (bp prog w) A (xk op hW kq) Q E s:=by
 cases op with
 |Add=>exact Jc (P:=λx y=>bg (bp prog w) A (xk .Add x y) Q E s) aE ag h (λi j t u h=>P.iadd_int (q.fr (N.toks _) (.int _ _) h)) (λi j t u ap aC h=>P.iadd_str (Jd q N ap aC h))
 |Sub=>exact vk (P:=λx y=>bg (bp prog w) A (xk .Sub x y) Q E s) aE ag h (λi j t u h=>P.isub_int (q.fr (N.toks _) (.int _ _) h))
 |_=>exact cm bW
end
end
section
open Builtin Builtin.Str
variable [WP]
section
variable {prog:cO} {w:ba} {A:c2} {E:ah->az->Prop} {s:az} {Γ:bM} {T:bG}
def ue (Γ:bM) (T:bG) (K:Bool->St->aB) (Q:Bool->az->Prop):Prop:= ∀a5 b s',T.dS a5->aX Γ a5 s'->(K b a5.σ).holds->Q b s'
theorem ue.ex {K:Bool->St->aB} {Q:Bool->az->Prop} {a5:bG} (x:T.dS a5) (q:ue Γ T K Q):ue Γ a5 K Q:=λmC b s' y=>q mC b s' (x.trans y)
theorem Zq {v:ae} {x:ah} {r:Bool} (aW:T.A v x) (h:MZ v=ab r):plainIs x .none=aa/\(x==Value.none)=r:=by
 cases v with
 |aq y=>rw[aW.2];exact⟨rfl,bQ h⟩
 |dy y f=>exact ak aW.2 λa e=>by rw[e.1];exact⟨rfl,bQ h⟩
 |f v=>
  revert h
  cases (show bq T.aP v x from aW)<;>first|exact λh=> ⟨rfl,bQ h⟩ |exact λh=>nomatch h
theorem Zm {c:Bool} {v:ae} {x:ah} {r:Bool} (aW:T.A v x) (h:MW c v=ab r):plainIs x (.bool c)=aa/\(x==SP c)=r:=by
 cases v with
 |f v=>cases v with
  |none=>rw[k9 aW];exact⟨rfl,bQ h⟩
  |bool b=>rw[ys aW];exact⟨by cases b<;>cases c<;>rfl,AU (by cases b<;>cases c<;>rfl) (bQ h)⟩
  |_=>exact a3 h
 |_=>exact a3 h
theorem y3 {a b:ae} {x y:ah} {r:Bool} (aE:T.A a x) (ag:T.A b y) (h:vl a b=ab r):plainIs x y=aa/\(x==y)=r:=by
 cases b with
 |f v=>cases v with
  |none=>rw[k9 ag];exact Zq aE h
  |bool b=>rw[ys ag];exact Zm aE h
  |_=>exact a3 h
 |_=>exact a3 h
theorem Va {op:ht} {i j:Int} {t u:Tok} {r:Bool} {Q:ah->az->Prop} (h:CQ op i j=ab r) (q:Q (.bool r) s):
  bg (bp prog w) A (qg op (.int i t) (.int j u)) Q E s:=by
 cases op with
 |Eq=>exact P.eq_int (by rw[<-bQ h] at q;exact q)
 |NotEq=>exact P.ne_int (by rw[<-bQ h] at q;exact q)
 |Lt=>exact P.lt_int (by rw[<-bQ h] at q;exact q)
 |LtE=>exact P.le_int (by rw[<-bQ h] at q;exact q)
 |Gt=>exact P.gt_int (by rw[<-bQ h] at q;exact q)
 |GtE=>exact P.ge_int (by rw[<-bQ h] at q;exact q)
 |_=>exact a3 h
theorem Vd {op:ht} {x y:List Nat} {t u:Tok} {r:Bool} {Q:ah->az->Prop} (h:CR op x y=ab r) (q:Q (.bool r) s):
  bg (bp prog w) A (qg op (.str (aK x) t) (.str (aK y) u)) Q E s:=by
 cases op with
 |Eq=>exact P.eq_str (by have:=bQ h;rw[Eg] at this;rw[<-this] at q;exact q)
 |NotEq=>exact P.ne_str (by have:=bQ h;rw[Eg] at this;rw[<-this] at q;exact q)
 |Lt=>exact P.lt_str (by have:=bQ h;rw[Es] at this;rw[<-this] at q;exact q)
 |LtE=>exact P.le_str (by have:=bQ h;rw[Es] at this;rw[<-this] at q;exact q)
 |In=>exact P.in_str (by rw[MP];exact bQ h▸q)
 |NotIn=>exact P.notIn_str (by rw[MP];exact bQ h▸q)
 |_=>exact a3 h
noncomputable def su:ah->ah->Bool
 | .none,.none=>aa
 | .int i _,.int j _=>i==j
 | .str x _,.str y _=>x==y
 |_,_=>ac
abbrev Ru (A:c2) (s:az) (x y:ah) (b:Bool):Prop:=Il A s x y (su x y)/\su x y=b
theorem Xo {A:c2} {v w:aj} {x y:ah} {b:Bool} (aW:bq T.aP v x) (hw:bq T.aP w y) (h:yx v w=ab b):Ru A s x y b:=by
 cases v with
 |none=>
  rw[k9 aW]
  cases w with
  |none=>rw[k9 hw];exact⟨Im _,bQ h⟩
  |int i=>exact ak (gK hw) λu e=>by rw[e];exact⟨SeqAt.EqAt.none_int _ _,bQ h⟩
  |str i=>exact ak (fR hw) λu e=>by rw[e.1];exact⟨SeqAt.EqAt.none_str _ _,bQ h⟩
  |_=>exact a3 h
 |int i=>
  refine ak (gK aW) λt e=> ?_
  rw[e]
  cases w with
  |none=>rw[k9 hw];exact⟨SeqAt.EqAt.int_none _ _,bQ h⟩
  |int i=>exact ak (gK hw) λu e=>by rw[e];exact⟨SM _ _ _ _,bQ h⟩
  |_=>exact a3 h
 |str i=>
  refine ak (fR aW) λt e=> ?_
  rw[e.1]
  cases w with
  |none=>rw[k9 hw];exact⟨SeqAt.EqAt.str_none _ _,bQ h⟩
  |str j=>exact ak (fR hw) λu e=>by rw[e.1];exact⟨Io _ _ _ _,AU (by show(aK i==aK j)=_;rw[Eg,<-SeqAt.str_beq]) (bQ h)⟩
  |_=>exact a3 h
 |_=>exact a3 h
theorem ML {A:c2} {v:aj} {x:ah} (aW:bq T.aP v x) {l:List aj}: ∀{nj:List ah} {r:Bool},ez T.aP l nj->kI v l=ab r->
  (∀y∈nj,Il A s y x (su y x))/\nj.any (λy=>su y x)=r:=by
 induction l with
 |nil=>exact λaA h=>by rw[aA.q8];exact⟨λy cP=>absurd cP eI,bQ h⟩
 |cons w l ai=>
  refine λ{nj r} aA h=>bT aA.cases λy zs aA=> ?_
  have h:(match yx w v,kI v l with
   |some b,ab c=>ab (b||c)
   |_,_=>af)=ab r:=h
  rw[aA.1]
  cases e1:yx w v with
  |none=>rw[e1] at h;exact a3 h
  |some b=>cases e2:kI v l with
   |none=>rw[e1,e2] at h;exact a3 h
   |some c=>
    rw[e1,e2] at h
    have f:=Xo (A:=A) (s:=s) aA.2.1 aW e1
    have k:=ai aA.2.2 e2
    refine⟨λz cH=> ?_,by rw[RJ,f.2,k.2];exact bQ h⟩
    cases cH with
    |head=>exact f.1
    |tail _ cH=>exact k.1 z cH
noncomputable def MM (m:Bool):ht:=cond m .In .NotIn
theorem Zh {m:Bool} {b:ae} {v:aj} {x:ah} {l:List aj} {y:ah} {r:Bool} {Q:ah->az->Prop} (N:aX Γ T s) (aW:bq T.aP v x) (ag:T.A b y) (aA:tk b=ab l) (h:kI v l=ab r)
  (q:Q (.bool (cond m r (!r))) s):bg (bp prog w) A (qg (MM m) x y) Q E s:=by
 cases b with
 |f u=>cases u with
  |lst cA=>
   cases aA
   refine c5 (bq.i ag) λa vs n i=> ?_
   rw[i.1]
   have k:=ML (A:=A.in1) (s:=s) aW i.2.2 h
   have I:s.heap.IsList a vs.toArray:=⟨_,N.aY.bE _ _ i.2.1,rfl,_,rfl⟩
   have e:vs.toArray.any (λy=>su y x)=r:=by rw[<-k.2,RL]
   rw[<-e] at q
   have M:=λy cP=>k.1 y (wF.mpr cP)
   cases m with
   |true=>exact SeqAt.in_listAt _ I M q
   |false=>exact SeqAt.notIn_listAt _ I M q
  |tup cA=>
   cases aA
   refine bT (bq.i ag) λa vs i=> ?_
   rw[i.1]
   have k:=ML (A:=A.in1) (s:=s) aW i.2.2 h
   have I:s.heap.IsTuple a vs.toArray:=⟨_,N.aY.bE _ _ i.2.1,rfl,_,rfl⟩
   have e:vs.toArray.any (λy=>su y x)=r:=by rw[<-k.2,RL]
   rw[<-e] at q
   have M:=λy cP=>k.1 y (wF.mpr cP)
   cases m with
   |true=>exact SeqAt.in_tupleAt _ I M q
   |false=>exact SeqAt.notIn_tupleAt _ I M q
  |_=>exact a3 aA
 |_=>exact a3 aA
def kvs (ks:List (List Nat)) (es:List cT):List (aZ×ah):=(ks.map aK).zip (es.map (·.val))
theorem isStrOf_self (k:aZ) (t:Tok):Br k (.str k t)=aa:=by unfold Br;exact beq_self_eq_true _
theorem wV.is {k:List Nat} {e:cT} (h:wV k e):(strKind prog w).is (aK k) e.key=aa:=ak h.1 λt e=>by rw[e];exact isStrOf_self (aK k) t
theorem Nl {ks:List (List Nat)} {es:List cT} (h:gi ks es):Pairs (strKind prog w) es (kvs ks es):=by
 induction h with
 |nil=>exact .nil
 |cons h t ai=>exact .cons (wV.is h) rfl ai
theorem gi.keys (ay:WP.P=w.params) {ks:List (List Nat)} {es:List cT} (h:gi ks es): ∀e∈es,∃k,(strKind prog w).is k e.key=aa/\e.hash=(strKind prog w).hash k:=by
 induction h with
 |nil=>exact λe h=>absurd h eI
 |cons h t ai=>exact wY.mpr ⟨⟨_,wV.is h,by rw[h.2,ay];rfl⟩,ai⟩
theorem sV {ks:List (List Nat)} {es:List cT} (h:gi ks es):(kvs ks es).map (·.1)=ks.map aK:=by
 induction h with
 |nil=>rfl
 | @cons k e _ _ h t ai=>exact congrArg (aK k:: ·) ai
theorem v7 {a b:List Nat} (h:aK a=aK b):a=b:=List.toArray_inj (congrArg Str.cps h)
theorem pb {h:cw} {a:aR} {ks:List (List Nat)} {es:List cT} {n:Nat} (ay:WP.P=w.params) (aE:h.get? a=ab (eD es n)) (bY:ks.Nodup) (aS:gi ks es):
  h.DictOf (strKind prog w) a (kvs ks es):=
 ⟨_,es.toArray,n,aE,⟨rfl,rfl,rfl⟩,rfl,λe he=>aS.keys ay e (wF.mpr he),Nl aS,by
  rw[sV aS]
  exact A0 aK (λa b sI e=>sI (v7 e)) bY⟩
theorem yb (k x:List Nat):decide (aK k=aK x)=aM k x:=by
 cases e:aM k x with
 |true=>exact decide_eq_true (congrArg aK (gM.mp e))
 |false=>exact decide_eq_false λq=>by rw[gM.mpr (v7 q)] at e;cases e
theorem Nk {ks:List (List Nat)} {es:List cT} (x:List Nat) (h:gi ks es):(r3 (kvs ks es) (aK x)).isSome=il x ks:=by
 induction h with
 |nil=>rfl
 | @cons k e ks es h t ai=>
  unfold r3 at ai⊢
  show(H6 _ (HM _ ((aK k,e.val)::kvs ks es))).isSome=(aM k x||il x ks)
  rw[wX,yb]
  cases aM k x with
  |true=>rfl
  |false=>exact ai
theorem Ze {op:ht} {x:List Nat} {t:Tok} {d:aR} {ks:List (List Nat)} {es:List cT} {n:Nat} {r:Bool} {Q:ah->az->Prop} (ay:WP.P=w.params) (hd:s.heap.get? d=ab (eD es n)) (bY:(ks.Nodup/\ ∀k∈ks,k.length<=d0)/\(d==lJ)=ac) (aS:gi ks es)
  (h:inD op x ks=ab r) (q:Q (.bool r) {s with toks:=s.toks+1}):bg (bp prog w) A (qg op (.str (aK x) t) (.ref d)) Q E s:=by
 have D:=pb (prog:=prog) ay hd bY.1.1 aS
 have is:(strKind prog w).is (aK x) (.str (aK x) t)=aa:=isStrOf_self (aK x) t
 cases op with
 |In=>exact wpAny_in_of is bY.2 D.mapOf (by rw[Nk x aS];exact bQ h▸q)
 |NotIn=>exact wpAny_notIn_of is bY.2 D.mapOf (by rw[Nk x aS];exact bQ h▸q)
 |_=>exact a3 h
theorem Zf {op:ht} {i:Int} {t:Tok} {d:aR} {ks:List (List Nat)} {es:List cT} {n:Nat} {r:Bool} {Q:ah->az->Prop} (hd:s.heap.get? d=ab (eD es n)) (bY:(d==lJ)=ac) (aS:gi ks es)
  (h:DT op ks=ab r) (q:Q (.bool r) {s with toks:=s.toks+1}):bg (bp prog w) A (qg op (.int i t) (.ref d)) Q E s:=by
 cases op with
 |In=>
  cases aS with
  |nil=>
   have D:s.heap.DictOf (intKind prog w) d []:=⟨_, #[],n,hd,⟨rfl,rfl,rfl⟩,rfl,λe he=>absurd he (Array.not_mem_empty e),.nil,.nil⟩
   exact wpAny_in_of (k:=i) (by show SQ i (.int i t)=aa;simp[SQ]) bY D.mapOf (by rw[<-bQ h] at q;exact q)
  |cons _ _=>exact a3 h
 |_=>exact a3 h
theorem VA {T:bG} {v:ae} {e:List (List Nat)×List ae} (h:nQ T.σ v=ab e): ∃y,v= .aq y/\T.σ.g y=ab (.dict e.1 e.2):=by
 cases v with
 |aq y=>
  have h:(match T.σ.g y with
   |some ao=>Jm ao
   |none=>af)=ab e:=h
  cases cJ:T.σ.g y with
  |none=>rw[cJ] at h;exact a3 h
  |some ao=>
   rw[cJ] at h
   cases ao with
   |dict ks l=>cases h;exact⟨y,rfl,cJ⟩
   |_=>exact a3 h
 |_=>exact a3 h
theorem uR {v:ae} {x:ah} {e:List (List Nat)×List ae} (N:aX Γ T s) (aW:T.A v x) (h:nQ T.σ v=ab e): ∃y,v= .aq y/\T.σ.g y=ab (.dict e.1 e.2)/\x= .ref (T.ax (2*y))/\ ∃es n,∃_:(e.1.Nodup/\ ∀k∈e.1,k.length<=d0)/\(T.ax (2*y)==lJ)=ac,s.heap.get? (T.ax (2*y))=ab (eD es n)/\
   gi e.1 es/\bC (λa e=>T.A a (e:cT).val/\glob a=aa) e.2 es:=
 ak (VA h) λy h=> ⟨y,h.1,h.2,(show T.A (.aq y) x from h.1▸aW).2,N.aY.cell y _ h.2⟩
def Vb (op:ht) (a b:ae) (σ:St):Option Bool:=match a with
  | .f (.int i)=>match b with
   | .f (.int j)=>CQ op i j
   | .aq d=> (nQ σ (.aq d)).bind λe=>DT op e.1
   |_=>af
  | .f (.str x)=>match b with
   | .f (.str y)=>CR op x y
   | .f .none=>sq op
   | .aq d=> (nQ σ (.aq d)).bind λe=>inD op x e.1
   |_=>af
  | .f .none=>match b with
   | .f (.str _)=>sq op
   | .f (.int _)=>sq op
   |_=>af
  |_=>af
theorem Vc {op:ht} {a b:ae} {hW kq:ah} {r:Bool} {Q:ah->az->Prop} (ay:WP.P=w.params) (N:aX Γ T s) (aE:T.A a hW) (ag:T.A b kq) (h:Vb op a b T.σ=ab r) (q: ∀s',aX Γ T s'->Q (.bool r) s'):bg (bp prog w) A (qg op hW kq) Q E s:=by
 cases a with
 |f a=>cases a with
  |int i=>
   refine ak (gK aE) λt e=> ?_
   rw[e]
   cases b with
   |f b=>cases b with
    |int j=>exact ak (gK ag) λu e=>by rw[e];exact Va h (q _ N)
    |_=>exact a3 h
   |aq d=>
    refine ak (qb.mp h) λe h=>ak (uR N ag h.1) λy c=>c5 c.2.2.2 λes n bY f7=> ?_
    rw[c.2.2.1];exact Zf f7.1 bY.2 f7.2.1 h.2 (q _ (N.toks _))
   |_=>exact a3 h
  |str x=>
   refine ak (fR aE) λt e=> ?_
   rw[e.1]
   cases b with
   |f b=>cases b with
    |str j=>exact ak (fR ag) λu e=>by rw[e.1];exact Vd h (q _ N)
    |none=>
     rw[k9 ag]
     cases op with
     |Eq=>cases h;exact SeqAt.RcAt.str_none _ _ _ _ _ _ (q _ N)
     |_=>exact a3 h
    |_=>exact a3 h
   |aq d=>
    refine ak (qb.mp h) λe h=>ak (uR N ag h.1) λy c=>c5 c.2.2.2 λes n bY f7=> ?_
    rw[c.2.2.1];exact Ze ay f7.1 bY f7.2.1 h.2 (q _ (N.toks _))
   |_=>exact a3 h
  |none=>
   rw[k9 aE]
   cases b with
   |f b=>cases b with
    |str j=>
     refine ak (fR ag) λu e=> ?_
     rw[e.1]
     cases op with
     |Eq=>cases h;exact SeqAt.RcAt.none_str _ _ _ _ _ _ (q _ N)
     |_=>exact a3 h
    |int j=>
     refine ak (gK ag) λu e=> ?_
     rw[e]
     cases op with
     |Eq=>cases h;exact SeqAt.RcAt.none_int _ _ _ _ _ _ (q _ N)
     |_=>exact a3 h
    |_=>exact a3 h
   |_=>exact a3 h
  |_=>exact a3 h
 |_=>exact a3 h
theorem Ve {op:ht} {a b:ae} {hW kq:ah} {r:Bool} {Q:ah->az->Prop} (ay:WP.P=w.params) (N:aX Γ T s) (aE:T.A a hW) (ag:T.A b kq) (h:Lv op a b T.σ=ab r)
  (q: ∀s',aX Γ T s'->Q (.bool r) s'):bg (bp prog w) A (qg op hW kq) Q E s:=by
 cases op with
 |Is=>exact wpAny_is_plain (y3 aE ag h).1 (by rw[(y3 aE ag h).2];exact q _ N)
 |IsNot=>
  have h:O7 (vl a b)=ab r:=h
  cases z:vl a b with
  |none=>rw[z] at h;exact a3 h
  |some c=>
   rw[z] at h
   exact wpAny_isNot_plain (y3 aE ag z).1 (by rw[(y3 aE ag z).2];exact bQ h▸q _ N)
 |_=>exact Vc ay N aE ag h q
theorem abS {op:ht} {a b:ae} {m:Bool×aj×List aj} (h:ER op a b=ab m):op=MM m.1/\tk b=ab m.2.2/\a= .f m.2.1:=by
 have K: ∀{c:Bool},((tk b).bind λl=> (uw a).map λx=> (c,x,l))=ab m->m.1=c/\tk b=ab m.2.2/\a= .f m.2.1:=λh=>
  ak (qb.mp h) λl h=>ak (qc.mp h.2) λx e=>by
   cases e.2
   cases a with
   |f v=>cases e.1;exact⟨rfl,h.1,rfl⟩
   |_=>exact a3 e.1
 cases op with
 |In=>exact⟨by rw[(K h).1];rfl,(K h).2⟩
 |NotIn=>exact⟨by rw[(K h).1];rfl,(K h).2⟩
 |_=>exact a3 h
theorem sk {op:ht} {a b:ae} {hW kq:ah} {k:Bool->aB} {Q:ah->az->Prop} (ay:WP.P=w.params) (N:aX Γ T s) (aE:T.A a hW) (ag:T.A b kq) (h:(o9 op a b T.σ k).holds)
  (q: ∀r s',aX Γ T s'->(k r).holds->Q (.bool r) s'):bg (bp prog w) A (qg op hW kq) Q E s:=by
 unfold o9 at h
 revert h
 cases e:ER op a b with
 |none=>exact λh=>ak (dp h) λr h=>Ve ay N aE ag h.1 λs' cR=>q r s' cR h.2
 |some m=>
  exact λh=>ak h λb h=>by
   have i:=abS e
   rw[i.1]
   rw[i.2.2] at aE
   exact Zh N aE ag i.2.1 h.1 (q _ s N h.2)
end
end
section
open Builtin
theorem E3 {α β:Type} {l:List α} {m:List β} (e:l.length=m.length):(!m.toArray.isEmpty)=s9 l:=by
 cases l with
 |nil=>rw[wW e.symm];rfl
 |cons _ _=>cases m with
  |nil=>cases e
  |cons _ _=>rfl
theorem pV {α:Type} {l:List α} (h:cn l=aa):l.length<=1000000:=cS h
theorem z8 {α:Type} {l:List α} (h:cn l=aa):(l.length:Int)<2 ^ 63:=by have:=pV h;omega
variable [WP]
theorem ez.length {F:bh} {l:List aj}: ∀{m:List ah},ez F l m->l.length=m.length:=by
 induction l with
 |nil=>exact λh=>by rw[h.q8];rfl
 |cons v l ai=>exact λh=>bT h.cases λy zs h=>by rw[h.1];exact congrArg tY (ai h.2.2)
theorem n4 {ks:List (List Nat)} {es:List cT} (h:gi ks es):(kvs ks es).length=es.length:=by
 unfold kvs
 rw[List.length_zip,eg,eg,h.length,Nat.min_self]
theorem ab0:IJ (.type "method") "__bool__" =pure af:=by rw[S9,SX];kernel_rfl
theorem ab1:IJ (.type "method") "__len__" =pure af:=by rw[S9,SX];kernel_rfl
section
variable {prog:cO} {w:ba} {A:c2} {E:ah->az->Prop} {s:az} {Γ:bM} {T:bG}
theorem LH {α:Type} {a:aR} {ks:List (List Nat)} {l:List α} {es:List cT} {n:Nat} {Q:Bool->az->Prop} (ay:WP.P=w.params) (aE:s.heap.get? a=ab (eD es n)) (bY:(ks.Nodup/\ ∀k∈ks,k.length<=d0)/\(a==lJ)=ac) (aS:gi ks es)
  (e:l.length=es.length) (cH:cn l=aa) (h:Q (s9 l) {s with toks:=s.toks+1+1}):bg (bp prog w) A (truthy (.ref a)) Q E s:=by
 have k:=n4 aS
 refine wpAny_truthy_dict bY.2 (pb (prog:=prog) ay aE bY.1.1 aS) (by rw[k,<-e];exact z8 cH) ?_
 rw[<-List.isEmpty_toArray,E3 (e.trans k.symm)];exact h
theorem N6 {α:Type} {a:aR} {l:List α} {vs:List ah} {n:Nat} {Q:Bool->az->Prop} (aE:s.heap.get? a=ab (lobj vs n))
  (e:l.length=vs.length) (cH:cn l=aa) (h:Q (s9 l) {s with toks:=s.toks+1+1}):bg (bp prog w) A (truthy (.ref a)) Q E s:=
 wpAny_truthy_list ⟨_,aE,rfl,_,rfl⟩ (by rw[hr,<-e];exact z8 cH) (by rw[E3 e];exact h)
theorem ab2 {a:aR} {f x:ah} {Q:Bool->az->Prop} (aE:s.heap.get? a=ab (xd f x)) (q:Q aa s):bg (bp prog w) A (truthy (.ref a)) Q E s:=by
 have dQ:s.TypeIs (.ref a) "method" :=⟨_,aE,rfl⟩
 unfold truthy
 refine bz (wpAny_callSpecial?_none (name:=cF "__bool__") dQ ab0 ?_)
 refine bz (IR (name:=cF "__len__") dQ ab1 ?_)
 exact dc q
theorem Aj {v:ae} {x:ah} {K:Bool->St->aB} {Q:Bool->az->Prop} (ay:WP.P=w.params) (N:aX Γ T s) (aW:T.A v x) (h:(wb v T.σ K).holds) (q:ue Γ T K Q):
  bg (bp prog w) A (truthy x) Q E s:=by
 cases v with
 |dy y f=>
  refine ak aW.2 λa e=> ?_
  rw[e.1]
  exact ab2 (N.aY.bE _ _ e.2) (q T aa _ (.refl T) N h)
 |aq y=>
  rw[aW.2]
  have c:=N.aY.cell y
  have h:(cv (match T.σ.g y with
   |some (.list l)=>ab (rx l)
   |some (.dict _ l)=>ab (rx l)
   |_=>af) λr=>nY r.1 (ask r.2 T.σ K)).holds:=h
  revert h c
  cases T.σ.g y with
  |none=>exact λ_ h=>h.elim
  |some ao=>
   cases ao with
   |inst _ _ _=>exact λ_ h=>h.elim
   |list l=>exact λc h=>bT (c _ rfl) λvs n c=>N6 c.1 c.2.length h.1 (q T _ _ (.refl T) (N.toks _) (nK h.2))
   |dict ks l=>exact λc h=>c5 (c _ rfl) λes n bY c=>LH ay c.1 bY c.2.1 c.2.2.length h.1 (q T _ _ (.refl T) (N.toks _) (nK h.2))
 |f v=>
  have i:=bq.i aW
  cases v with
  |none=>rw[i];exact λ_ _ _=>q T ac _ (.refl T) N h
  |bool b=>rw[i];exact ud (q T b _ (.refl T) N (nK h))
  |int n=>exact ak i λt e=>by rw[e];exact P.truthy_int (q T _ _ (.refl T) N (nK h))
  |str l=>
   refine ak i λt e=> ?_
   rw[e.1]
   have len:(aK l).length=l.length:=hr ..
   refine SK (by have:=e.2;rw[gj] at this;rw[len];omega) (q T _ _ (.refl T) (N.toks _) ?_)
   rw[len]
   cases l with
   |nil=>exact h
   |cons _ _=>exact h
  |tup l=>
   refine bT i λa vs i=> ?_
   rw[i.1]
   exact ktl_truthy (N.aY.bE _ _ i.2.1) (by rw[hr,<-i.2.2.length];exact RC.mpr (z8 h.1)) (by rw[E3 i.2.2.length];exact q T _ _ (.refl T) (N.toks _) (nK h.2))
  |lst l=>
   refine c5 i λa vs n i=> ?_
   rw[i.1]
   exact N6 (N.aY.bE _ _ i.2.1) i.2.2.length h.1 (q T _ _ (.refl T) (N.toks _) (nK h.2))
  |ek ks l=>
   refine c5 i λa es n i=> ?_
   rw[i.1]
   exact LH ay (N.aY.bE _ _ i.2.2.1) i.2.1 i.2.2.2.1 (by rw[i.2.2.2.2.length,eg]) h.1 (q T _ _ (.refl T) (N.toks _) (nK h.2))
  |_=>exact h.elim
end
end
section
def seq (a b:aZ):Bool:=aM a.cps.toList b.cps.toList
theorem seq_eq {a b:aZ} (h:seq a b=aa):a=b:=by
 have:=gM.mp h
 cases a;cases b
 congr 1
 exact wG.mp this
def E6 (n:Nat) (id:aZ):Bool:=seq (nm n) id
noncomputable def ta (id:aZ):Bool:= !(id==("__debug__" :aZ))
noncomputable def zE:Expr->Bool
 | .Call (.Name id _) [] [] _=>id !=("super" :aZ)
 |_=>aa
noncomputable def notStar:Expr->Bool
 | .Starred .. =>ac
 |_=>aa
noncomputable def D2:Expr->Bool
 | .UnaryOp .Not _ _=>ac
 | .BoolOp .. =>ac
 | .IfExp .. =>ac
 | .Compare .. =>ac
 |_=>aa
structure tM where
 x:Expr->Bool
 l:List Expr->Bool
 k:List mw->Bool
 e:Expr->Expr
 dw:List Expr->List Expr
 k8:List mw->List mw
noncomputable def tM.no:tM:=⟨λ_=>ac,λ_=>ac,λ_=>ac,id,id,id⟩
noncomputable def tM.of (f:Expr->Bool) (e:Expr->Expr):tM:=⟨f,λ_=>ac,λ_=>ac,e,id,id⟩
noncomputable def ck:Expr->Expr
 | .BinOp l _ _ _=>l
 | .UnaryOp _ e _=>e
 | .IfExp t _ _ _=>t
 | .Compare l _ _ _=>l
 | .Call f _ _ _=>f
 | .FormattedValue v _ _ _=>v
 | .Attribute v _ _=>v
 | .Subscript v _ _=>v
 | .ListComp e _ _ _=>e
 |e=>e
noncomputable def gE:Expr->Expr
 | .BinOp _ _ r _=>r
 | .IfExp _ b _ _=>b
 | .Subscript _ s _=>s
 |e=>e
noncomputable def QX:Expr->Expr
 | .IfExp _ _ o _=>o
 |e=>e
noncomputable def xs:Expr->List Expr
 | .BoolOp _ vs _=>vs
 | .Compare _ _ cs _=>cs
 | .Call _ as _ _=>as
 | .JoinedStr vs _=>vs
 | .List es _=>es
 | .Tuple es _ _=>es
 |_=> []
noncomputable def p0:Expr->List mw
 | .Call _ _ ks _=>ks
 |_=> []
noncomputable def jq:Expr->Nat
 | .Constant _ k _=>k
 | .Tuple _ k _=>k
 |_=>0
noncomputable def fK:Expr->Comprehension
 | .ListComp _ (g::_) _ _=>g
 |e=> ⟨e,e,[],0⟩
noncomputable def jp (sc:cC):Expr->cC
 | .ListComp _ _ s _=>s
 |_=>sc
noncomputable def Q1:Expr->Option Expr
 | .Slice l _ _ _=>l
 |_=>af
noncomputable def Q0:Expr->Option Expr
 | .Slice _ h _ _=>h
 |_=>af
noncomputable def h0 (l:List Expr):Expr:=l.headD default
noncomputable def ap (l:List Expr):Expr:=l.tail.headD default
noncomputable def D6 (l:List mw):mw:=l.headD ⟨af,default,default⟩
noncomputable def MY:Expr->Bool
 | .Name _ _=>aa
 |_=>ac
theorem Zp {P:Expr->Prop} {e:Expr} (h:MY e=aa) (k: ∀id p,P (.Name id p)):P e:=by
 cases e with
 |Name id p=>exact k id p
 |_=>exact cm h
theorem jh {b:Bool} (h:(!b)=aa):b=ac:=(oE b).mp h
theorem i4 {a b:Bool} (x:a=aa) (y:b=aa):(a&&b)=aa:=by rw[x,y];rfl
theorem b3 {a b:Bool} (h:(a&&b)=aa):a=aa/\b=aa:=fW.mp h
theorem cU {a b c:Bool} (h:(a&&b&&c)=aa):a=aa/\b=aa/\c=aa:=⟨(b3 (b3 h).1).1,(b3 (b3 h).1).2,(b3 h).2⟩
theorem d1 {a b c d:Bool} (h:(a&&b&&c&&d)=aa):a=aa/\b=aa/\c=aa/\d=aa:=⟨(b3 (cU h).1).1,(b3 (cU h).1).2,(cU h).2⟩
theorem fl {a b c d e:Bool} (h:(a&&b&&c&&d&&e)=aa):a=aa/\b=aa/\c=aa/\d=aa/\e=aa:=⟨(b3 (d1 h).1).1,(b3 (d1 h).1).2,(d1 h).2⟩
theorem k2 {a b c d e f:Bool} (h:(a&&b&&c&&d&&e&&f)=aa):a=aa/\b=aa/\c=aa/\d=aa/\e=aa/\f=aa:=⟨(b3 (fl h).1).1,(b3 (fl h).1).2,(fl h).2⟩
noncomputable def fH (sc:cC) (id:aZ):Bool:=sc.names.lookup id==ab .local
noncomputable def pB (sc:cC) (id:aZ):Bool:=sc.names.lookup id==ab .cell
noncomputable def D1 (sc:cC) (id:aZ):Bool:=sc.names.lookup id==ab .globalImplicit
noncomputable def qK (args:List Expr) (kws:List mw):Bool:=d6 (args.length+kws.length) 20
noncomputable def zD:Expr->Bool
 | .Slice .. =>ac
 |_=>aa
noncomputable def y7:X->Bool
 | .no=>aa
 |_=>ac
def jI (sc:cC) (n:String):Bool:=D1 sc (cF n)&&ta (cF n)
def zq (v:Expr) (b2 pos:eu):Bool:=zE v&&(b2.endLine==pos.line)
noncomputable def zC:Expr->Bool
 | .Set .. =>ac
 |_=>aa
noncomputable def l8 (scope sc:cC):cC:={scope with names:=scope.names.map λ(n,k)=>if(k== .free&&sc.kind== .function&&sc.names.lookup n==ab .cell) then(n,.cell) else(n,k)}
noncomputable def Dn (fr:List Nat):List (aZ×mx)->Bool
 | []=>aa
 | (n,k)::r=> (match k with
  | .free=>fr.any λm=>E6 m n
  | .cell=>ac
  |_=>aa)&&Dn fr r
noncomputable def Dm (sc:cC) (scope:cC):List Nat->Bool
 | []=>aa
 |m::r=>scope.names.lookup (nm m)==ab .free&&pB sc (nm m)&&Dm sc scope r
def x6 (scope sc:cC) (n:Nat) (fr:List Nat):Bool:=fH scope (nm n)&&scope.kind== .function&&(scope.names.all λx=>x.2 != .local||scope.names.lookup x.1==ab .local)&&Dn fr scope.names&&Dm sc scope fr
noncomputable def Dk (k:Nat):aZ:=match k with
 |0=>cF "%%YAML %s"
 |_=>cF "%d.%d"
def Lj (s:String) (p:Expr):Expr:= .Constant (.str (cF s)) (jq p) p.pos
noncomputable def E5 (n:String) (p:Expr):Expr:= .Name (cF n) p.pos
def jZ (n:String) (as:List Expr) (p:Expr):Expr:= .Call (E5 n (ck p)) as [] p.pos
def n6 (n:String) (v:Expr->Expr) (as:List Expr) (p:Expr):Expr:= .Call (.Attribute (v (ck (ck p))) (cF n) (ck p).pos) as [] p.pos
def n7 (v:Expr->Expr) (p:Expr):Bool:=zq (v (ck (ck p))) (ck p).pos p.pos
def yi (a:X) (c:Expr->Expr) (o:Option Expr):Option Expr:=match y7 a with
 |true=>af
 |false=>ab (c (o.getD default))
def zJ (a:X) (c:Expr->Bool) (o:Option Expr):Bool:=match y7 a with
 |true=>aa
 |false=>c (o.getD default)
def Ma (n:Nat) (p:Expr):Expr:= .FormattedValue (.Name (nm n) (ck p).pos) 115 af p.pos
def td (sc:cC) (n:Nat):Bool:=ta (nm n)&&fH sc (nm n)
noncomputable def au (sc:cC):X->tM
 | .cu=> .of (λ_=>aa) λp=> .Constant .none (jq p) p.pos
 | .bF b=> .of (λ_=>aa) λp=> .Constant (.bool b) (jq p) p.pos
 | .a6 i=> .of (λ_=>aa) λp=> .Constant (.int i) (jq p) p.pos
 | .ks s=> .of (λ_=>aa) λp=> .Constant (.str (aK s)) (jq p) p.pos
 | .lo n=> .of (λ_=>td sc n) λp=> .Name (nm n) p.pos
 | .gl n=> .of (λ_=>ta (nm n)&&D1 sc (nm n)) λp=> .Name (nm n) p.pos
 | .clo n=> .of (λ_=>ta (nm n)&&pB sc (nm n)) λp=> .Name (nm n) p.pos
 | .at o n=> .of (λp=>zE ((au sc o).e (ck p))&&(au sc o).x (ck p)) λp=> .Attribute ((au sc o).e (ck p)) (nm n) p.pos
 | .bin op a b=> .of (λp=> (au sc a).x (ck p)&&(au sc b).x (gE p)) λp=> .BinOp ((au sc a).e (ck p)) op ((au sc b).e (gE p)) p.pos
 | .cmp op a b=> .of (λp=> !BD op ((au sc b).e (h0 (xs p)))&&(au sc a).x (ck p)&&(au sc b).x (h0 (xs p))) λp=> .Compare ((au sc a).e (ck p)) [op] [(au sc b).e (h0 (xs p))] p.pos
 | .co o i=> .of (λp=>zD ((au sc i).e (gE p))&&(au sc o).x (ck p)&&(au sc i).x (gE p)) λp=> .Subscript ((au sc o).e (ck p)) ((au sc i).e (gE p)) p.pos
 | .aK o a b=> .of (λp=> (au sc o).x (ck p)&&zJ a (au sc a).x (Q1 (gE p))&&zJ b (au sc b).x (Q0 (gE p))) λp=> .Subscript ((au sc o).e (ck p)) (.Slice (yi a (au sc a).e (Q1 (gE p))) (yi b (au sc b).e (Q0 (gE p))) af (gE p).pos) p.pos
 | .neg a=> .of (λp=> (au sc a).x (ck p)) λp=> .UnaryOp .USub ((au sc a).e (ck p)) p.pos
 | .fy hT iO a b c=> .of (λp=> !BD iO ((au sc c).e (ap (xs p)))&&(au sc a).x (ck p)&&(au sc b).x (h0 (xs p))&&(au sc c).x (ap (xs p))) λp=> .Compare ((au sc a).e (ck p)) [hT,iO] [(au sc b).e (h0 (xs p)),(au sc c).e (ap (xs p))] p.pos
 | .tup l=> .of (λp=> (au sc l).l (xs p)) λp=> .Tuple ((au sc l).dw (xs p)) (jq p) p.pos
 | .lst l=> .of (λp=> (au sc l).l (xs p)) λp=> .List ((au sc l).dw (xs p)) p.pos
 | .len a=> .of (λp=>jI sc "len" &&notStar ((au sc a).e (h0 (xs p)))&&(au sc a).x (h0 (xs p))) λp=>jZ "len" [(au sc a).e (h0 (xs p))] p
 | .gz a c=> .of (λp=>jI sc "isinstance" &&notStar ((au sc a).e (h0 (xs p)))&&notStar ((au sc c).e (ap (xs p)))&&(au sc a).x (h0 (xs p))&&(au sc c).x (ap (xs p))) λp=>jZ "isinstance" [(au sc a).e (h0 (xs p)),(au sc c).e (ap (xs p))] p
 | .vo a=> .of (λp=>jI sc "isinstance" &&jI sc "str" &&notStar ((au sc a).e (h0 (xs p)))&&(au sc a).x (h0 (xs p))) λp=>jZ "isinstance" [(au sc a).e (h0 (xs p)),E5 "str" (ap (xs p))] p
 | .cell _ l=> .of (λp=> (au sc l).l (xs p)) λp=> .List ((au sc l).dw (xs p)) p.pos
 | .o8 _=> .of (λ_=>aa) λp=> .Dict [] [] p.pos
 | .cG o a=> .of (λp=>n7 (au sc o).e p&&notStar ((au sc a).e (h0 (xs p)))&&(au sc o).x (ck (ck p))&&(au sc a).x (h0 (xs p))) λp=>n6 "append" (au sc o).e [(au sc a).e (h0 (xs p))] p
 | .ext o a=> .of (λp=>n7 (au sc o).e p&&notStar ((au sc a).e (h0 (xs p)))&&(au sc o).x (ck (ck p))&&(au sc a).x (h0 (xs p))) λp=>n6 "extend" (au sc o).e [(au sc a).e (h0 (xs p))] p
 | .ri o=> .of (λp=>n7 (au sc o).e p&&(au sc o).x (ck (ck p))) λp=>n6 "pop" (au sc o).e [.Constant (.int 0) (jq (h0 (xs p))) (h0 (xs p)).pos] p
 | .rj o=> .of (λp=>n7 (au sc o).e p&&(au sc o).x (ck (ck p))) λp=>n6 "pop" (au sc o).e [] p
 | .join s l=> .of (λp=>n7 (au sc s).e p&&notStar ((au sc l).e (h0 (xs p)))&&(au sc s).x (ck (ck p))&&(au sc l).x (h0 (xs p))) λp=>n6 "join" (au sc s).e [(au sc l).e (h0 (xs p))] p
 | .tr a b=> .of (λp=>n7 (au sc a).e p&&notStar ((au sc b).e (h0 (xs p)))&&(au sc a).x (ck (ck p))&&(au sc b).x (h0 (xs p))) λp=>n6 "startswith" (au sc a).e [(au sc b).e (h0 (xs p))] p
 | .mZ a b=> .of (λp=>jI sc "max" &&notStar ((au sc a).e (h0 (xs p)))&&notStar ((au sc b).e (ap (xs p)))&&(au sc a).x (h0 (xs p))&&(au sc b).x (ap (xs p))) λp=>jZ "max" [(au sc a).e (h0 (xs p)),(au sc b).e (ap (xs p))] p
 | .rq a=> .of (λp=>jI sc "str" &&notStar ((au sc a).e (h0 (xs p)))&&(au sc a).x (h0 (xs p))) λp=>jZ "str" [(au sc a).e (h0 (xs p))] p
 | .sT a=> .of (λp=>jI sc "int" &&notStar ((au sc a).e (h0 (xs p)))&&(au sc a).x (h0 (xs p))) λp=>jZ "int" [(au sc a).e (h0 (xs p))] p
 | .tp a=> .of (λp=>jI sc "sorted" &&n7 (au sc a).e (h0 (xs p))&&(au sc a).x (ck (ck (h0 (xs p))))) λp=>jZ "sorted" [n6 "keys" (au sc a).e [] (h0 (xs p))] p
 | .u2 n m=> .of (λ_=>td sc n&&td sc m) λp=> .JoinedStr [Lj "%TAG " (h0 (xs p)),Ma n (ap (xs p)),Lj " " (h0 (xs p).tail.tail),Ma m (ap (xs p).tail.tail)] p.pos
 | .fmt k a=> .of (λp=> (au sc a).x (gE p)) λp=> .BinOp (.Constant (.str (Dk k)) (jq (ck p)) (ck p).pos) .Mod ((au sc a).e (gE p)) p.pos
 | .uO _ o=> .of (λp=>n7 (au sc o).e p&&(au sc o).x (ck (ck p))) λp=>n6 "copy" (au sc o).e [] p
 | .uN o=> .of (λp=>n7 (au sc o).e p&&(au sc o).x (ck (ck p))) λp=>n6 "copy" (au sc o).e [] p
 | .ph a=> .of (λp=>D2 ((au sc a).e p)&&(au sc a).x p) (au sc a).e
 | .uX a b=> .of (λp=> !BD .Eq ((au sc b).e (h0 (xs p)))&&(au sc a).x (ck p)&&(au sc b).x (h0 (xs p))) λp=> .Compare ((au sc a).e (ck p)) [.Eq] [(au sc b).e (h0 (xs p))] p.pos
 | .hC _ n fr e i=> .of (λp=>x6 (jp sc p) sc n fr&&zC ((au sc i).e (fK p).iter)&&(au (l8 (jp sc p) sc) e).x (ck p)&&(au sc i).x (fK p).iter) λp=> .ListComp ((au (l8 (jp sc p) sc) e).e (ck p)) [⟨.Name (nm n) (fK p).target.pos,(au sc i).e (fK p).iter,[],0⟩] (jp sc p) p.pos
 | .vw n fr e i=> .of (λp=>x6 (jp sc p) sc n fr&&jI sc "range" &&notStar ((au sc i).e (h0 (xs (fK p).iter)))&&(au (l8 (jp sc p) sc) e).x (ck p)&&(au sc i).x (h0 (xs (fK p).iter))) λp=> .ListComp ((au (l8 (jp sc p) sc) e).e (ck p)) [⟨.Name (nm n) (fK p).target.pos,jZ "range" [(au sc i).e (h0 (xs (fK p).iter))] (fK p).iter,[],0⟩] (jp sc p) p.pos
 | .not a=> .of (λp=> (au sc a).x (ck p)) λp=> .UnaryOp .Not ((au sc a).e (ck p)) p.pos
 | .and l=> .of (λp=> (au sc l).l (xs p)) λp=> .BoolOp .And ((au sc l).dw (xs p)) p.pos
 | .or l=> .of (λp=> (au sc l).l (xs p)) λp=> .BoolOp .Or ((au sc l).dw (xs p)) p.pos
 | .j8 c a b=> .of (λp=> (au sc c).x (ck p)&&(au sc a).x (gE p)&&(au sc b).x (QX p)) λp=> .IfExp ((au sc c).e (ck p)) ((au sc a).e (gE p)) ((au sc b).e (QX p)) p.pos
 | .call f args kws=> .of (λp=>MY ((au sc f).e (ck p))&&(au sc f).x (ck p)&&(au sc args).l (xs p)&&(au sc kws).k (p0 p)&&qK ((au sc args).dw (xs p)) ((au sc kws).k8 (p0 p))) λp=> .Call ((au sc f).e (ck p)) ((au sc args).dw (xs p)) ((au sc kws).k8 (p0 p)) p.pos
 | .aG o n args kws=> .of (λp=>zE ((au sc o).e (ck (ck p)))&&((ck p).pos.endLine==p.pos.line)&&(au sc o).x (ck (ck p))&&(au sc args).l (xs p)&&(au sc kws).k (p0 p)&&qK ((au sc args).dw (xs p)) ((au sc kws).k8 (p0 p))) λp=> .Call (.Attribute ((au sc o).e (ck (ck p))) (nm n) (ck p).pos) ((au sc args).dw (xs p)) ((au sc kws).k8 (p0 p)) p.pos
 | .nil=> ⟨λ_=>ac,λ_=>aa,λ_=>aa,id,λ_=> [],λ_=> []⟩
 | .cons a r=> ⟨λ_=>ac,λl=>notStar ((au sc a).e (h0 l))&&(au sc a).x (h0 l)&&(au sc r).l l.tail,λ_=>ac,id,λl=> (au sc a).e (h0 l)::(au sc r).dw l.tail,id⟩
 | .e0 n a r=> ⟨λ_=>ac,λ_=>ac,λl=> (au sc a).x (D6 l).value&&(au sc r).k l.tail,id,id,λl=> ⟨ab (nm n),(au sc a).e (D6 l).value,(D6 l).pos⟩::(au sc r).k8 l.tail⟩
 |_=> .no
theorem Zr {P:X->Prop} {a:X} (h:y7 a=aa) (k:P .no):P a:=by
 cases a with
 |no=>exact k
 |_=>exact cm h
theorem Lr {P:X->Prop} {sc:cC} {r:X} {a8:List Expr} (h:(au sc r).l a8=aa) (k:P .nil) (kb: ∀a b,P (.cons a b)):P r:=by
 cases r with
 |nil=>exact k
 |cons a b=>exact kb a b
 |_=>exact cm h
theorem uC {o:Expr} {attr:aZ} {env:dm} {whole:hK ah}:zE o=aa->attributeBase o attr env whole=whole:=by
 cases o with
 |Call f as ks p=>cases f with
  |Name id p=>cases as with
   |nil=>cases ks with
    |nil=>
     intro h
     have e:((id !=("super" :aZ)) ||attr== "__class__" ||env.kindOf "super" !=ab .globalImplicit||env.kindOf "__class__" !=ab .free)=aa:=by rw[show(id !=("super" :aZ))=aa from h];rfl
     exact if_pos e
    |cons _ _=>exact λ_=> (rfl:whole=whole)
   |cons _ _=>exact λ_=> (rfl:whole=whole)
  |_=>exact λ_=> (rfl:whole=whole)
 |_=>exact λ_=> (rfl:whole=whole)
theorem M3 {e:Expr} {env:dm} {whole:hK ah}:D2 e=aa->isTrue e env whole=(do let v <-whole;xn e.pos;holding [v] (truthy v)):=by
 cases e with
 |UnaryOp op x p=>cases op with
  |Not=>exact cm
  |_=>exact λ_=>rfl
 |BoolOp=>exact cm
 |IfExp=>exact cm
 |Compare=>exact cm
 |_=>exact λ_=>rfl
theorem v9 {e:Expr} {rest:List Expr} {env:dm}:notStar e=aa->h3 (e::rest) env=(ac,dz e env)::h3 rest env:=by
 cases e with
 |Starred=>exact cm
 |_=>exact λ_=>rfl
theorem v8 {σ:St} {n:Nat} {v:ae} {K:St->aB}:stK σ n v K=K ⟨ng n v σ.loc,σ.hp,σ.lh,σ.lu⟩:=G1 _ _
variable [WP]
def wL (env:dm) (Γ:bM) (n:Nat) (v:ae):Prop:= ∃c o x,env.cells.lookup (nm n)=ab c/\Γ.Fr c=ab o/\o.data= .cell (ab x)/\(match v with
 | .aq i=> ∃a,Γ.pin i=ab a/\x= .ref a
 | .f (.bool b)=>x= .bool b
 |_=>False)
structure dk (sc:cC) (env:dm) (Γ:bM) (S:cM):Prop where
 scope:env.scope=sc
 kind:sc.kind= .function
 loc:env.locals=Γ.L
 i8:env.globals=jx
 blt:env.builtins=oV
 clo: ∀n v,aL n S.clo=ab v->wL env Γ n v
def fu (A:c2) (k:Nat):Prop:=A.depth+3*k<=990/\A.units+20*k<=9000/\A.handled=af
def AW (base:cw) (n:aZ) (v:aj):Prop:= ∃a l2,bq base.get? v a/\base.Ns jx l2/\(l2 n=ab a\/(l2 n=af/\ ∃n8,base.Ns oV n8/\n8 n=ab a))
noncomputable def uE:List (aZ×ah):= [("len",.builtin "len"),("isinstance",.builtin "isinstance"),("str",.type "str"),("int",.type "int"),("max",.builtin "max"),("sorted",.builtin "sorted"),("list",.type "list"),("range",.type "range"),("enumerate",.type "enumerate"),("super",.type "super")]
structure I1 (K:bZ) (D:Nat) (m:List (Nat×Bool)):Prop where
 g:BA K D "__class__" =aa
 d:Bw K D=aa
 a:hL K (.ref D) "__class__" =ab (ab (.builtin "object.__class__"))
 q6:mroIn K D (.type "object")=ab aa
 c: ∀C b,aL C m=ab b->(b=aa->isIn K (.ref D) C=aa)/\(b=ac->kin_not K D C=aa)
structure Top (K:bZ) (base:cw) (S:cM):Prop extends Known K base S where
 dd: ∀x∈uE,∃l2 n8,base.Ns jx l2/\l2 x.1=af/\base.Ns oV n8/\n8 x.1=ab x.2
 sub: ∀D m,aL D S.sub=ab m->I1 K D m
 yH:oS K (.builtin "object.__class__") "__get__" =ab (ab (.builtin "getset_descriptor.__get__"))/\xg K (.builtin "object.__class__")=ab aa
 Lw: ∀D m,aL D S.sub=ab m->(mz K D).isSome=aa
 g: ∀n v,aL n S.g=ab v->AW base (nm n) v
 lim:base.NoLimit
section
variable {prog:cO} {w:ba} {A:c2} {E:ah->az->Prop} {s:az} {Γ:bM} {T:bG} {env:dm} {sc:cC} {S:cM} {Kf:bZ} {K:ae->St->aB} {Q:ah->az->Prop}
theorem dk.fn (Ev:dk sc env Γ S):env.scope.kind= .function:=by rw[Ev.scope];exact Ev.kind
theorem dk.is (Ev:dk sc env Γ S) {n:aZ} {k:mx} (h:(sc.names.lookup n==ab k)=aa):env.kindOf n=ab k:=by unfold Ic;rw[Ev.scope];exact beq_iff_eq.mp h
theorem Ew {n:Nat} {v:ae} (Ev:dk sc env Γ S) (aA:fH sc (nm n)=aa) (N:aX Γ T s) (aW:gu n T.σ.loc=ab v) (h:(K v T.σ).holds) (q:fx Γ T K Q):bg (bp prog w) A (loadName env (nm n)) Q E s:=
 ak N.lo.ns λm hm=>ak (hm.2 n v aW) λx e=>BQ Ev.fn (Ev.is aA) (by rw[Ev.loc];exact hm.1) e.1 (q.of N e.2 h)
theorem aby {n:Nat} {v:aj} (bb:Top Kf Γ.base S) (Ev:dk sc env Γ S) (aA:D1 sc (nm n)=aa) (N:aX Γ T s) (aW:aL n S.g=ab v) (h:(K (.f v) T.σ).holds) (q:fx Γ T K Q):bg (bp prog w) A (loadName env (nm n)) Q E s:=
 bT (bb.g n v aW) λa l2 i=>Iz Ev.fn (Ev.is aA)
  (have r:=q.fr N (bq.mono N.base i.1) h
   have g:s.heap.Ns env.globals l2:=by rw[Ev.i8];exact i.2.1.keeps N.keeps
   i.2.2.elim (λj=>loadGlobal_global g j r) λj=>ak j.2 λn8 k=>H8 g j.1 (by rw[Ev.blt];exact k.1.keeps N.keeps) k.2 r)
theorem vB {n:String} {v:ah} (bb:Top Kf Γ.base S) (Ev:dk sc env Γ S) (ar:(cF n,v)∈uE) (aA:jI sc n=aa) (N:aX Γ T s) (h:Q v s) {pos:eu}:
  bg (bp prog w) A (dz (.Name (cF n) pos) env) Q E s:=
 bT (bb.dd _ ar) λl2 n8 i=>ub (Iz Ev.fn (Ev.is (b3 aA).1)
  (H8 (by rw[Ev.i8];exact i.1.keeps N.keeps) i.2.1 (by rw[Ev.blt];exact i.2.2.1.keeps N.keeps) i.2.2.2 h)) (jh (b3 aA).2)
theorem pX {n:Nat} {v:ae} {x:ah} {K:St->aB} {Q:Unit->az->Prop} (Ev:dk sc env Γ S) (aA:fH sc (nm n)=aa) (N:aX Γ T s) (aH:T.A v x) (h:(stK T.σ n v K).holds) (q:nE Γ T K (Q ())):
  bg (bp prog w) A (storeName env (nm n) x) Q E s:=by
 refine ak N.lo.ns λm hm=>BU (m:=m) (Ev.is aA) (by rw[Ev.loc];exact hm.1) (λh' yS hs=> ?_) (by rw[Ev.scope,Ev.kind];rfl)
 rw[Ev.loc] at yS hs
 exact q ⟨T.aP,T.ax,⟨ng n v T.σ.loc,T.σ.hp,T.σ.lh,T.σ.lu⟩⟩ _ ⟨dT.refl _,λ_ h=>h,λ_ _=>rfl⟩ (N.store aH hm.2 yS hs n9) (by rw[v8] at h;exact h)
end
end
section
variable [WP]
abbrev hZ (R:ae->ah->Prop) (kw:List (Nat×ae)) (kvs:List (aZ×ah)):Prop:=bC (λa b=> (b:aZ×ah).1=nm (a:Nat×ae).1/\R a.2 b.2) kw kvs
def lC (prog:cO) (w:ba) (S:cM) (base:cw) (k a:Nat):Prop:=
 ∀(p:List Nat×List (Nat×aj)) (pt:a4),aL a S.a8=ab p->aL a S.pt=ab pt->
 ∀(A:c2) (s:az) (aP Fr:bh) (ax:Nat->aR) (hp:b5) (pos:List ae) (vs:List ah) (kw:List (Nat×ae)) (kvs:List (aZ×ah)) (full:List ae) (K:ae->b5->Prop) (R:ny->az->Prop),
 fu A k->fe aP Fr ax (gl hp) [] s.heap->dT base.get? aP->bC (ec aP ax (dO (gl hp) [])) pos vs->hZ (ec aP ax (dO (gl hp) [])) kw kvs->ll (k7 p.1 pos) kw=aa->gx p.2 p.1 pos kw=ab full->lN pos=aa->o3 kw=aa->
 pt full hp K->(∀eH ρ' dn s' av v,Back aP ax hp Fr s eH ρ' dn s'->ec eH ρ' (dO (gl dn) []) av v->K av dn->R (.ok (.ret v)) s')->
 nA (bp prog w) A (.call (.ref a) ⟨vs,kvs⟩) R s
structure iz (prog:cO) (w:ba) (K:bZ) (S:cM) (base:cw) (k:Nat):Prop where
 ok: ∀a pt,aL a S.pt=ab pt->lC prog w S base k a
 keep: ∀a pt,aL a S.pt=ab pt->Bx K (.ref a)=aa
 fn: ∀a pt,aL a S.pt=ab pt->aL a S.ii=af->fnIn K a=aa
theorem ai1 {l:List ae} (g:lN l=aa): ∀v∈l,glob v=aa:=by
 induction l with
 |nil=>exact λv h=>absurd h eI
 |cons a l ai=>
  intro v h
  have g:=b3 g
  cases h with
  |head=>exact g.1
  |tail _ h=>exact ai g.2 v h
theorem bC.glob {F:bh} {ax:Nat->aR} {U U':Nat->Prop} (u: ∀x,x<100->U x->U' x) {l:List ae} {vs:List ah} (h:bC (ec F ax U) l vs):lN l=aa->bC (ec F ax U') l vs:=by
 induction h with
 |nil=>exact λ_=> .nil
 |cons h t ai=>exact λg=> .cons (h.glob (b3 g).1 u) (ai (b3 g).2)
theorem hZ.glob {F:bh} {ax:Nat->aR} {U U':Nat->Prop} (u: ∀x,x<100->U x->U' x) {l:List (Nat×ae)} {vs:List (aZ×ah)} (h:hZ (ec F ax U) l vs):o3 l=aa->hZ (ec F ax U') l vs:=by
 induction h with
 |nil=>exact λ_=> .nil
 |cons h t ai=>exact λg=> .cons ⟨h.1,h.2.glob (b3 g).1 u⟩ (ai (b3 g).2)
theorem CM {G:Prop} {S:cM} {a:Nat} {pos:List ae} {kw:List (Nat×ae)} {c:a4×List ae} (h:mL S a pos kw=ab c)
  (k: ∀p,aL a S.a8=ab p->aL a S.pt=ab c.1->lN pos=aa->o3 kw=aa->ll (k7 p.1 pos) kw=aa->gx p.2 p.1 pos kw=ab c.2->G):G:=by
 unfold mL at h
 revert h
 cases e:aL a S.a8 with
 |none=>exact a3
 |some p=>cases cN:aL a S.pt with
  |none=>exact a3
  |some pt=>
   show(match lN pos&&(o3 kw&&ll (k7 p.1 pos) kw) with
    |true=> (gx p.2 p.1 pos kw).map λl=> (pt,l)
    |false=>af)=ab c->G
   cases g:lN pos&&(o3 kw&&ll (k7 p.1 pos) kw) with
   |false=>exact a3
   |true=>
    have g:=b3 g
    exact λh=>ak (qc.mp h) λl h=>k p e (by rw[cN,<-h.2]) g.1 (b3 g.2).1 (b3 g.2).2 (by rw[h.1,<-h.2])
theorem CL {S:cM} {x a:Nat} {pos:List ae} {kw:List (Nat×ae)} {c:a4×List ae} (h:CK S (.dy x a) pos kw=ab c):aL a S.ii=af/\mL S a (.aq x::pos) kw=ab c:=by
 have h:(match aL a S.ii with
  |none=>mL S a (.aq x::pos) kw
  |some _=>af)=ab c:=h
 revert h
 cases aL a S.ii with
 |none=>exact λh=> ⟨rfl,h⟩
 |some _=>exact a3
theorem Ln {G:Prop} {S:cM} {f:ae} {pos:List ae} {kw:List (Nat×ae)} {c:a4×List ae} (h:CK S f pos kw=ab c)
  (k: ∀a,f= .f (.st a)->mL S a pos kw=ab c->G) (kb: ∀x a,f= .dy x a->aL a S.ii=af->mL S a (.aq x::pos) kw=ab c->G):G:=by
 cases f with
 |aq x=>exact a3 h
 |f v=>cases v with
  |st a=>exact k a rfl h
  |_=>exact a3 h
 |dy x a=>exact kb x a rfl (CL h).1 (CL h).2
section
variable {prog:cO} {w:ba} {A:c2} {E:ah->az->Prop} {s:az} {Γ:bM} {T:bG} {env:dm} {sc:cC} {S:cM} {Kf:bZ} {k:Nat}
theorem Lo {a:Nat} {pos:List ae} {vs:List ah} {kw:List (Nat×ae)} {kvs:List (aZ×ah)} {K:ae->St->aB} {c:a4×List ae} {R:ny->az->Prop} (aw:fu A k) (F:iz prog w Kf S Γ.base k) (N:aX Γ T s) (aW:bC T.A pos vs) (aS:hZ T.A kw kvs)
  (e:mL S a pos kw=ab c) (h:c.1 c.2 T.σ.hp λr dn=> (hh (glob r) (K r ⟨T.σ.loc,dn,T.σ.lh,T.σ.lu⟩)).holds) (q:fx Γ T K λv=>R (.ok (.ret v))):nA (bp prog w) A (.call (.ref a) ⟨vs,kvs⟩) R s:=
 CM e λp e1 e2 g1 g2 g3 ag=>ak N.enter λkv B=>
  have U:=rB N.lo.lu
  F.ok a c.1 e2 p c.1 e1 e2 A s T.aP kv T.ax T.σ.hp pos vs kw kvs c.2 _ _ aw B.1 N.base (aW.glob U g1) (hZ.glob U aS g2) g3 ag g1 g2 h
   λeH ρ' dn s' av v b yN ci=>ak (B.2 eH ρ' dn s' b) λiV b=>q _ v av s' b.2.1 b.1 (b.2.2 av v yN) (gr ci).2
theorem UN {f:ae} {bI:ah} {pos:List ae} {vs:List ah} {kw:List (Nat×ae)} {kvs:List (aZ×ah)} {K:ae->St->aB} {Q:ah->az->Prop} (aw:fu A k) (F:iz prog w Kf S Γ.base k) (N:aX Γ T s) (hf:T.A f bI) (aW:bC T.A pos vs) (aS:hZ T.A kw kvs)
  (h:(nM S f pos kw T.σ K).holds) (q:fx Γ T K Q):bg (bp prog w) A (iB bI vs kvs) Q E s:=
 IL (ak (dp h) λc h=>Ln h.1
  (λa e cN=>by
   rw[e] at hf
   rw[bq.i hf]
   exact Lo aw F N aW aS cN h.2 q)
  λx a e _ cN=>by
   rw[e] at hf
   exact ak hf.2 λy m=>by rw[m.1];exact method_call (N.aY.bE _ _ m.2) (Lo aw F N (.cons (show T.A (.aq x) _ from⟨hf.1,rfl⟩) aW) aS cN h.2 q))
def Kept (prog:cO) (w:ba) (bI:ah) (h:cw):Prop:= ∃k,(k=Keeper.frame\/k=Keeper.machine\/k=Keeper.boundFrame)/\Looks (bp prog w) h (r1 bI) k
theorem ZY {f:ae} {bI:ah} {pos:List ae} {kw:List (Nat×ae)} {K:ae->St->aB} {σ:St} {a5:bG} {s':az} (bb:Top Kf Γ.base S) (F:iz prog w Kf S Γ.base k) (hf:T.A f bI)
  (h:(nM S f pos kw σ K).holds) (x:T.dS a5) (cR:aX Γ a5 s'):Kept prog w bI s'.heap:=
 ak (dp h) λc h=>Ln h.1
  (λa e cN=>by
   rw[e] at hf
   rw[bq.i hf]
   exact CM cN λp _ e2 _ _ _ _=>keeps_K (F.keep _ _ e2) _ (cR.gZ bb.toKnown))
  λy a e eA cN=>by
   rw[e] at hf
   exact ak hf.2 λb m=>by rw[m.1];exact CM cN λp _ e2 _ _ _ _=>keeps_M (F.fn _ _ e2 eA) _ ⟨cR.aY.bE _ _ (x.bE _ _ m.2),cR.gZ bb.toKnown⟩
end
end
section
variable [WP]
def IT (Γ:bM) (T:bG) (K:List ae->St->aB) (Q:List ah->az->Prop):Prop:= ∀a5 vs as s',T.dS a5->aX Γ a5 s'->bC a5.A as vs->(K as a5.σ).holds->Q vs s'
def Tq (Γ:bM) (T:bG) (K:List (Nat×ae)->St->aB) (ns:List aZ) (Q:List ah->az->Prop):Prop:= ∀a5 vs kw s',T.dS a5->aX Γ a5 s'->hZ a5.A kw (ns.zip vs)->ns.length=vs.length->(K kw a5.σ).holds->Q vs s'
section
variable (prog:cO) (w:ba) (Γ:bM) (k:Nat)
def mn (m:St->(ae->St->aB)->aB) (t:hK ah):Prop:= ∀{A:c2} {E:ah->az->Prop} {s:az} {T:bG} {K:ae->St->aB} {Q:ah->az->Prop},fu A k->aX Γ T s->(m T.σ K).holds->fx Γ T K Q->bg (bp prog w) A t Q E s
def xx (m:St->(Bool->St->aB)->aB) (t:hK Bool):Prop:= ∀{A:c2} {E:ah->az->Prop} {s:az} {T:bG} {K:Bool->St->aB} {Q:Bool->az->Prop},fu A k->aX Γ T s->(m T.σ K).holds->ue Γ T K Q->bg (bp prog w) A t Q E s
def R5 (m:St->(List ae->St->aB)->aB) (t:hK (List ah)):Prop:= ∀{A:c2} {E:ah->az->Prop} {s:az} {T:bG} {K:List ae->St->aB} {Q:List ah->az->Prop},fu A k->aX Γ T s->(m T.σ K).holds->IT Γ T K Q->bg (bp prog w) A t Q E s
def RE (m:St->(List (Nat×ae)->St->aB)->aB) (ns:List aZ) (t:hK (List ah)):Prop:= ∀{A:c2} {E:ah->az->Prop} {s:az} {T:bG} {K:List (Nat×ae)->St->aB} {Q:List ah->az->Prop},fu A k->aX Γ T s->(m T.σ K).holds->Tq Γ T K ns Q->bg (bp prog w) A t Q E s
variable (S:cM) (sc:cC) (env:dm)
structure bc (e:X):Prop where
 cX: ∀p,(au sc e).x p=aa->mn prog w Γ k (ev S e).x (dz ((au sc e).e p) env)
 kR: ∀p,(au sc e).x p=aa->xx prog w Γ k (ev S e).t (isTrue ((au sc e).e p) env (dz ((au sc e).e p) env))
 ow: ∀a8 pos,(au sc e).l a8=aa->R5 prog w Γ k (ev S e).l (spliced (i0 pos (h3 ((au sc e).dw a8) env)))
 st: ∀a8 pos,(au sc e).l a8=aa->(i0 pos (h3 ((au sc e).dw a8) env)).any (·.1)=ac
 ww: ∀ks pos,(au sc e).k ks=aa->RE prog w Γ k (ev S e).k ((mA pos (mB ((au sc e).k8 ks) env)).filterMap (·.1)) (evalAll ((mA pos (mB ((au sc e).k8 ks) env)).map (·.2)))
 hl: ∀ks pos,(au sc e).k ks=aa->(mA pos (mB ((au sc e).k8 ks) env)).all (·.1.isSome)=aa
 hW: ∀a8,(au sc e).l a8=aa->xx prog w Γ k (ev S e).a (allTrue .And ((au sc e).dw a8) env)
 wx: ∀a8,(au sc e).l a8=aa->xx prog w Γ k (ev S e).o (allTrue .Or ((au sc e).dw a8) env)
 av: ∀a8 pos,(au sc e).l a8=aa->mn prog w Γ k (ev S e).av (BE pos .And (xj ((au sc e).dw a8) env))
 e4: ∀a8 pos,(au sc e).l a8=aa->mn prog w Γ k (ev S e).e4 (BE pos .Or (xj ((au sc e).dw a8) env))
end
theorem nW {α:Type} {f:α->Bool} {a:α} {G:Prop} (h:f=λ_=>ac) (g:f a=aa):G:=cm (by rw[h] at g;exact g)
section
variable {prog:cO} {w:ba} {A:c2} {E:ah->az->Prop} {s:az} {Γ:bM} {T:bG} {env:dm} {sc:cC} {S:cM} {Kf:bZ} {k:Nat}
theorem bc.of {x:X} (aH: ∀p,(au sc x).x p=aa->mn prog w Γ k (ev S x).x (dz ((au sc x).e p) env)) (cj: ∀p,(au sc x).x p=aa->xx prog w Γ k (ev S x).t (isTrue ((au sc x).e p) env (dz ((au sc x).e p) env)))
  (aA:(au sc x).l=λ_=>ac) (aS:(au sc x).k=λ_=>ac):bc prog w Γ k S sc env x:=
 ⟨aH,cj,λ_ _=>nW aA,λ_ _=>nW aA,λ_ _=>nW aS,λ_ _=>nW aS,λ_=>nW aA,λ_=>nW aA,λ_ _=>nW aA,λ_ _=>nW aA⟩
theorem bc.val {x:X} {m:St->(ae->St->aB)->aB} (ay:WP.P=w.params) (e:ev S x= .val m) (aH: ∀p,(au sc x).x p=aa->mn prog w Γ k m (dz ((au sc x).e p) env)) (aW: ∀p,(au sc x).x p=aa->D2 ((au sc x).e p)=aa)
  (aA:(au sc x).l=λ_=>ac) (aS:(au sc x).k=λ_=>ac):bc prog w Γ k S sc env x:=by
 refine .of (λp hp=>by rw[e];exact aH p hp) (λp hp A E s T K Q aw N h q=> ?_) aA aS
 rw[e] at h
 rw[M3 (aW p hp)]
 exact bz (aH p hp aw N h λa5 v av s' x cR a h=>bz (gI (gk (Aj ay cR a h (q.ex x)))))
variable (ay:WP.P=w.params) (Ev:dk sc env Γ S) (bb:Top Kf Γ.base S) (F:iz prog w Kf S Γ.base k)
include ay
theorem agz:bc prog w Γ k S sc env .cu:=
 .val ay rfl (λ_ _ {_ _ _ _ _ _} _ N h q=>dc (q.fr N .none h)) (λ_ _=>rfl) rfl rfl
theorem agw (b:Bool):bc prog w Γ k S sc env (.bF b):=
 .val ay rfl (λ_ _ {_ _ _ _ _ _} _ N h q=>dc (q.fr N (.bool b) h)) (λ_ _=>rfl) rfl rfl
theorem agy (i:Int):bc prog w Γ k S sc env (.a6 i):=
 .val ay rfl (λ_ _ {_ _ _ _ _ _} _ N h q=>Td (q.fr (N.toks _) (.int i _) h)) (λ_ _=>rfl) rfl rfl
theorem agA (x:List Nat):bc prog w Γ k S sc env (.ks x):=
 .val ay rfl (λ_ _ {_ _ _ _ _ _} _ N h q=>xr (q.fr (N.toks _) (.str x _ (bf (cS (gr h).1) (by rw[gj];decide))) (gr h).2)) (λ_ _=>rfl) rfl rfl
include Ev
theorem agE (n:Nat):bc prog w Γ k S sc env (.lo n):=
 .val ay rfl (λ_ hp {_ _ _ _ _ _} _ N h q=>ub (ak (dp h) λv h=>Ew Ev (b3 hp).2 N h.1 h.2 q) (jh (b3 hp).1)) (λ_ _=>rfl) rfl rfl
include bb
theorem agp (n:Nat):bc prog w Γ k S sc env (.gl n):=
 .val ay rfl (λ_ hp {_ _ _ _ _ _} _ N h q=>ub (ak (dp h) λv h=>aby bb Ev (b3 hp).2 N h.1 h.2 q) (jh (b3 hp).1)) (λ_ _=>rfl) rfl rfl
end
end
section
variable [WP]
section
variable {prog:cO} {w:ba} {A:c2} {E:ah->az->Prop} {s:az} {Γ:bM} {T:bG} {env:dm} {sc:cC} {S:cM} {Kf:bZ} {k:Nat}
variable (ay:WP.P=w.params) (Ev:dk sc env Γ S) (bb:Top Kf Γ.base S) (F:iz prog w Kf S Γ.base k)
include ay
theorem agb {op:my} {a b:X} (br:bc prog w Γ k S sc env a) (cV:bc prog w Γ k S sc env b):bc prog w Γ k S sc env (.bin op a b):=
 .val ay rfl (λp hp {_ _ _ _ _ _} aw N h q=>wpAny_BinOp (br.cX _ (b3 hp).1 aw N h λbS v av bk bi aT bl h=>cV.cX _ (b3 hp).2 aw aT h λfk v2 o5 dh cD bR dF h=>
  Ut bR (bl.ex cD) dF h (q.ex (bi.trans cD)))) (λ_ _=>rfl) rfl rfl
theorem agg {op:ht} {a b:X} (br:bc prog w Γ k S sc env a) (cV:bc prog w Γ k S sc env b):bc prog w Γ k S sc env (.cmp op a b):=
 .of (λp hp {_ _ _ _ _ _} aw N h q=>Tc (br.cX _ (cU hp).2.1 aw N h λbS v av bk bi aT bl h=>cV.cX _ (cU hp).2.2 aw aT h λfk v2 o5 dh cD bR dF h=>
   sk ay bR (bl.ex cD) dF h λr s' cR h=> (q.ex (bi.trans cD)).fr cR (.bool r) h) (jh (cU hp).1))
  (λp hp {_ _ _ _ _ _} aw N h q=>wpAny_isTrue_Compare1 (br.cX _ (cU hp).2.1 aw N h λbS v av bk bi aT bl h=>cV.cX _ (cU hp).2.2 aw aT h λfk v2 o5 dh cD bR dF h=>
   sk ay bR (bl.ex cD) dF h λr s' cR h=>ud (q fk r s' (bi.trans cD) cR (nK h))) (jh (cU hp).1)) rfl rfl
theorem agL {a:X} (br:bc prog w Γ k S sc env a):bc prog w Γ k S sc env (.not a):=
 .of (λp hp {_ _ _ _ _ _} aw N h q=>wpAny_UnaryOp (br.cX _ hp aw N h λbS v av bk bi aT bl h=>by
   unfold unaryOp
   refine gk ?_
   show bg _ _ (truthy v>>=λb=>pure (SP (!b))) _ _ _
   exact bz (Aj ay aT bl h λfk b dh cD bR h=>dc ((q.ex (bi.trans cD)).fr bR (.bool _) h))))
  (λp hp {_ _ _ _ _ _} aw N h q=>wpAny_isTrue_Not (br.kR _ hp aw N h λbS b bk bi aT h=>q bS _ bk bi aT h)) rfl rfl
theorem agq {c a b:X} (iI:bc prog w Γ k S sc env c) (br:bc prog w Γ k S sc env a) (cV:bc prog w Γ k S sc env b):bc prog w Γ k S sc env (.j8 c a b):=by
 refine .of (λp hp A E s T K Q aw N h q=>wpAny_IfExp (iI.kR _ (cU hp).1 aw N h λbS b bk bi aT h=> ?_)) (λp hp A E s T K Q aw N h q=> ?_) rfl rfl
 ·cases b with
  |true=>exact br.cX _ (cU hp).2.1 aw aT h (q.ex bi)
  |false=>exact cV.cX _ (cU hp).2.2 aw aT h (q.ex bi)
 ·show bg _ _ (isTrue (.IfExp _ _ _ _) env _) _ _ _
  rw[arm_isTrue_IfExp]
  refine bz (iI.kR _ (cU hp).1 aw N h λbS b bk bi aT h=> ?_)
  cases b with
  |true=>exact br.kR _ (cU hp).2.1 aw aT h (q.ex bi)
  |false=>exact cV.kR _ (cU hp).2.2 aw aT h (q.ex bi)
theorem snd_and {l:X} (gY:bc prog w Γ k S sc env l):bc prog w Γ k S sc env (.and l):=
 .of (λp hp {_ _ _ _ _ _} aw N h q=>by
   show bg _ _ (dz (.BoolOp _ _ _) env) _ _ _
   rw[SV];exact gY.av _ _ hp aw N h q)
  (λp hp {_ _ _ _ _ _} aw N h q=>Tg (gY.hW _ hp aw N h q)) rfl rfl
theorem agM {l:X} (gY:bc prog w Γ k S sc env l):bc prog w Γ k S sc env (.or l):=
 .of (λp hp {_ _ _ _ _ _} aw N h q=>by
   show bg _ _ (dz (.BoolOp _ _ _) env) _ _ _
   rw[SV];exact gY.e4 _ _ hp aw N h q)
  (λp hp {_ _ _ _ _ _} aw N h q=>Tg (gY.wx _ hp aw N h q)) rfl rfl
theorem Aa:bc prog w Γ k S sc env .nil where
 cX:=λ_=>cm
 kR:=λ_=>cm
 ow:=λ_ _ _ {_ _ _ _ _ _} aw N h q=>H9 (q _ _ [] _ (.refl _) N .nil h)
 st:=λ_ _ _=>rfl
 ww:=λ_ _ _ {_ _ _ _ _ _} aw N h q=>dc (q _ _ [] _ (.refl _) N .nil rfl h)
 hl:=λ_ _ _=>rfl
 hW:=λ_ _ {_ _ _ _ _ _} aw N h q=>dc (q _ _ _ (.refl _) N h)
 wx:=λ_ _ {_ _ _ _ _ _} aw N h q=>dc (q _ _ _ (.refl _) N h)
 av:=λ_ _ _ {_ _ _ _ _ _} aw N h q=>h.elim
 e4:=λ_ _ _ {_ _ _ _ _ _} aw N h q=>h.elim
theorem z9 {a r:X} (br:bc prog w Γ k S sc env a) (hA:bc prog w Γ k S sc env r):bc prog w Γ k S sc env (.cons a r) where
 cX:=λ_=>cm
 kR:=λ_=>cm
 ow:=λa8 pos h {A E s T K Q} aw N ci q=>by
  show bg _ _ (spliced (i0 pos (h3 ((au sc a).e (h0 a8)::(au sc r).dw a8.tail) env))) _ _ _
  rw[v9 (cU h).1]
  exact Bn (br.cX _ (cU h).2.1 aw N ci λbS v av bk bi aT bl ci=>hA.ow _ pos (cU h).2.2 aw aT ci λfk vs as dh cD bR dF ci=>q fk _ _ _ (bi.trans cD) bR (.cons (bl.ex cD) dF) ci)
 st:=λa8 pos h=>by
  show(i0 pos (h3 ((au sc a).e (h0 a8)::(au sc r).dw a8.tail) env)).any (·.1)=ac
  rw[v9 (cU h).1]
  exact hA.st _ pos (cU h).2.2
 ww:=λ_ _=>cm
 hl:=λ_ _=>cm
 hW:=λa8 h {A E s T K Q} aw N ci q=>bz (br.kR _ (cU h).2.1 aw N ci λbS b bk bi aT ci=>by
  cases b with
  |true=>exact hA.hW _ (cU h).2.2 aw aT ci (q.ex bi)
  |false=>exact dc (q _ _ _ bi aT ci))
 wx:=λa8 h {A E s T K Q} aw N ci q=>bz (br.kR _ (cU h).2.1 aw N ci λbS b bk bi aT ci=>by
  cases b with
  |true=>exact dc (q _ _ _ bi aT ci)
  |false=>exact hA.wx _ (cU h).2.2 aw aT ci (q.ex bi))
 av:=λa8 pos h {A E s T K Q} aw N ci q=>by
  have ch:=(cU h).2.2
  refine Lr (P:=λr=>bc prog w Γ k S sc env r->(au sc r).l a8.tail=aa->mn prog w Γ k (ev S (.cons a r)).av (BE pos .And (dz ((au sc a).e (h0 a8)) env::xj ((au sc r).dw a8.tail) env))) ch
   (λ_ _ {_ _ _ _ _ _} aw N ci q=>br.cX _ (cU h).2.1 aw N ci q) (λb r hA ch A E s T K Q aw N ci q=> ?_) hA ch aw N ci q
  refine bz (br.cX _ (cU h).2.1 aw N ci λbS v av bk bi aT bl ci=>bz (gI (bz (gk (Aj ay aT bl ci λfk fO dh cD bR ci=> ?_)))))
  cases fO with
  |true=>exact hA.av _ pos ch aw bR ci (q.ex (bi.trans cD))
  |false=>exact dc (q _ _ _ _ (bi.trans cD) bR (bl.ex cD) ci)
 e4:=λa8 pos h {A E s T K Q} aw N ci q=>by
  have ch:=(cU h).2.2
  refine Lr (P:=λr=>bc prog w Γ k S sc env r->(au sc r).l a8.tail=aa->mn prog w Γ k (ev S (.cons a r)).e4 (BE pos .Or (dz ((au sc a).e (h0 a8)) env::xj ((au sc r).dw a8.tail) env))) ch
   (λ_ _ {_ _ _ _ _ _} aw N ci q=>br.cX _ (cU h).2.1 aw N ci q) (λb r hA ch A E s T K Q aw N ci q=> ?_) hA ch aw N ci q
  refine bz (br.cX _ (cU h).2.1 aw N ci λbS v av bk bi aT bl ci=>bz (gI (bz (gk (Aj ay aT bl ci λfk fO dh cD bR ci=> ?_)))))
  cases fO with
  |true=>exact dc (q _ _ _ _ (bi.trans cD) bR (bl.ex cD) ci)
  |false=>exact hA.e4 _ pos ch aw bR ci (q.ex (bi.trans cD))
theorem agx {n:Nat} {a r:X} (br:bc prog w Γ k S sc env a) (hA:bc prog w Γ k S sc env r):bc prog w Γ k S sc env (.e0 n a r) where
 cX:=λ_=>cm
 kR:=λ_=>cm
 ow:=λ_ _=>cm
 st:=λ_ _=>cm
 ww:=λa8 pos h {A E s T K Q} aw N ci q=>wpAny_evalAll_cons (bz (br.cX _ (b3 h).1 aw N ci λbS v av bk bi aT bl ci=>bz (gI (dc (hA.ww _ pos (b3 h).2 aw aT ci λfk vs as dh cD bR dF l ci=>
  q fk _ _ _ (bi.trans cD) bR (.cons ⟨rfl,bl.ex cD⟩ dF) (congrArg tY l) ci)))))
 hl:=λa8 pos h=>hA.hl _ pos (b3 h).2
 hW:=λ_=>cm
 wx:=λ_=>cm
 av:=λ_ _=>cm
 e4:=λ_ _=>cm
end
end
section
theorem bC.cG {α β:Type} {R:α->β->Prop} {l:List α} {m:List β} {cA:List α} {aU:List β} (h:bC R l m) (h':bC R cA aU):bC R (l++cA) (m++aU):=by
 induction h with
 |nil=>exact h'
 |cons a b ai=>exact .cons a ai
theorem Zs {kws:List (Option aZ×hK ah)} (yM:kws.all (·.1.isSome)=aa):kws.any (·.1.isNone)=ac:=
 List.any_eq_false.mpr λx aH=>by rw[Bj,<-Option.not_isSome_iff_eq_none];exact λe=>e (fM.mp yM x aH)
variable [WP]
section
variable {prog:cO} {w:ba} {A:c2} {E:ah->az->Prop} {s:az} {Γ:bM} {T:bG} {env:dm} {sc:cC} {S:cM} {Kf:bZ} {k:Nat}
theorem Dj {f:ah} {args:List (Bool×hK ah)} {kws:List (Option aZ×hK ah)} {Q:Args->az->Prop} (st:args.any (·.1)=ac) (yM:kws.all (·.1.isSome)=aa)
  (h:bg (bp prog w) A (spliced args) (λvs bk=>bg (bp prog w) A (evalAll (kws.map (·.2))) (λks dh=>Q ⟨vs,(kws.filterMap (·.1)).zip ks⟩ dh) E bk) E s):
  bg (bp prog w) A (evalArgs f aa args kws) Q E s:=by
 cases args with
 |nil=>exact λΓ p DS=>evalArgs_kw_nil yM (h Γ p DS) Γ p DS
 |cons a r=>cases a with|mk b x=>cases b with
  |true=>exact Bool.noConfusion st
  |false=>exact evalArgs_kw yM h
theorem x3 {args kws:X} (br:bc prog w Γ k S sc env args) (iK:bc prog w Γ k S sc env kws) (bb:Top Kf Γ.base S) (F:iz prog w Kf S Γ.base k) {as:List Expr} {ks:List mw} (aE:(au sc args).l as=aa) (aS:(au sc kws).k ks=aa)
  {pos:eu} {f:ae} {bI:ah} {K:ae->St->aB} {Q:ah->az->Prop} {C:List ae->List (Nat×ae)->St->aB} {pre:List ae} {prev:List ah} (aw:fu A k) (N:aX Γ T s) (hf:T.A f bI) (DO:bC T.A pre prev)
  (aD: ∀vs kw σ,(C vs kw σ).holds->(nM S f (pre++vs) kw σ K).holds) (h:((ev S args).l T.σ λvs σ=> (ev S kws).k σ λkw σ=>C vs kw σ).holds) (q:fx Γ T K Q):
  bg (bp prog w) A (t9 pos bI prev (i0 pos (h3 ((au sc args).dw as) env)) (mA pos (mB ((au sc kws).k8 ks) env))) Q E s:=by
 have st:=br.st as pos aE
 have hl:=iK.hl ks pos aS
 exact Bv (P:=Kept prog w bI) (by rw[st,Zs hl];rfl) (λh x=>x) (Dj st hl (br.ow as pos aE aw N h λbS vs av bk bi aT bl h=>iK.ww ks pos aS aw aT h λfk kvs kw dh cD bR dF l h=>
  have x:=bi.trans cD
  ⟨ZY bb F hf (aD _ _ _ h) x bR,UN aw F bR (hf.ex x) ((DO.ex x).cG (bl.ex cD)) dF (aD _ _ _ h) (q.ex x)⟩))
variable (ay:WP.P=w.params) (Ev:dk sc env Γ S) (bb:Top Kf Γ.base S) (F:iz prog w Kf S Γ.base k)
include ay bb
theorem aga {o:X} {n:Nat} (dM:bc prog w Γ k S sc env o):bc prog w Γ k S sc env (.at o n):=by
 refine .val ay rfl (λp hp A E s T K Q aw N h q=> ?_) (λ_ _=>rfl) rfl rfl
 show bg _ _ (dz (.Attribute _ _ _) env) _ _ _
 rw[arm_eval_Attribute,uC (b3 hp).1]
 exact bz (dM.cX _ (b3 hp).2 aw N h λbS v av bk bi aT bl h=>bz (gI (bz (gk (Md bb.toKnown aT bl h λfk aik ai2 dh cD bR dF h=>
  bz (IP (dc (q _ _ _ _ (bi.trans cD) bR dF h))))))))
include F
theorem agc {f args kws:X} (hf:bc prog w Γ k S sc env f) (br:bc prog w Γ k S sc env args) (iK:bc prog w Γ k S sc env kws):bc prog w Γ k S sc env (.call f args kws):=
 .val ay rfl (λp hp {A E s T K Q} aw N h q=>
  Zp (P:=λe=>mn prog w Γ k (ev S f).x (dz e env)->bg (bp prog w) A (dz (.Call e ((au sc args).dw (xs p)) ((au sc kws).k8 (p0 p)) p.pos) env) Q E s) (fl hp).1
   (λid ajg Yz=>xq (Yz aw N h λbS v av bk bi aT bl h=>x3 (pre:= []) br iK bb F (fl hp).2.2.1 (fl hp).2.2.2.1 aw aT bl .nil (λ_ _ _ h=>h) h (q.ex bi))) (hf.cX _ (fl hp).2.1)) (λ_ _=>rfl) rfl rfl
omit ay bb F in
theorem LZ {args kws:X} {as:List Expr} {ks:List mw} {pos:eu} (st:(i0 pos (h3 as env)).any (·.1)=ac) (hl:(mA pos (mB ks env)).all (·.1.isSome)=aa) (l:qK as ks=aa):
  II (as.length+ks.length) (i0 pos (h3 as env)) (mA pos (mB ks env))=aa:=by
 unfold II
 have l:as.length+ks.length<20:=cS l
 have e1:(i0 pos (h3 as env)).all (!·.1)=aa:=by
  rw[List.all_eq_not_any_not]
  simp only[Bool.not_not]
  rw[st];rfl
 rw[hl,e1]
 simp only[Ho,decide_eq_true_eq]
 split<;>omega
theorem abO {args kws:X} {x n:Nat} (br:bc prog w Γ k S sc env args) (iK:bc prog w Γ k S sc env kws) {as:List Expr} {ks:List mw} (aE:(au sc args).l as=aa) (aS:(au sc kws).k ks=aa)
  {pos:eu} {jj:hK Bool} {e4:ah} {K:ae->St->aB} {Q:ah->az->Prop} (aw:fu A k) (N:aX Γ T s) (bW:T.A (.aq x) e4)
  (h:(cv (uB S n (.aq x) T.σ) λbI=>hh (y6 bI) ((ev S args).l T.σ λvs σ=> (ev S kws).k σ λkw σ=>nM S bI vs kw σ K)).holds) (q:fx Γ T K Q):
  bg (bp prog w) A (getMethod e4 (nm n) jj) (λr=>bg (bp prog w) A (t9 pos r.1 r.2 (i0 pos (h3 ((au sc args).dw as) env)) (mA pos (mB ((au sc kws).k8 ks) env))) Q E) E s:=by
 have bW:=bW
 rw[bW.2]
 have h:(cv (match T.σ.g x with
  |some (.inst c ns l)=>match S.at c n with
   |some .no=>fld n ns l
   |some (.fn f)=>ke n ns l (.dy x f)
   |some (.val w)=>ke n ns l (.f w)
   |none=>af
  |_=>af) λbI=>hh (y6 bI) ((ev S args).l T.σ λvs σ=> (ev S kws).k σ λkw σ=>nM S bI vs kw σ K)).holds:=h
 revert h
 cases aH:T.σ.g x with
 |none=>exact fL
 |some ao=>cases ao with
  |inst c ns l=>
   refine bT (y1 N aH) λes h8 i=> ?_
   have f:=yy (n:=n) i.k i.l
   show(cv (match S.at c n with
    |some .no=>fld n ns l
    |some (.fn f)=>ke n ns l (.dy x f)
    |some (.val w)=>ke n ns l (.f w)
    |none=>af) λbI=>hh (y6 bI) ((ev S args).l T.σ λvs σ=> (ev S kws).k σ λkw σ=>nM S bI vs kw σ K)).holds->_
   cases bj:S.at c n with
   |none=>exact fL
   |some at'=>
    have g:=xe (uM bb.toKnown bj (nm n)).1
    cases at' with
    |no=>exact λh=>ak (dp h) λav h=>ak (f.1 av h.1) λe m=>
      method_usual (N.gZ bb.toKnown) i.I g.1 g.2 (bb.ii c n .no bj).1 rfl (Dr N bb.toKnown bj i.I m.2 (Mo m.1.1) (x3 (pre:= []) br iK bb F aE aS aw (N.toks _) m.1.1 .nil (λ_ _ _ h=>h) (gr h.2).2 q))
    |fn h6=>
     exact λh=>method_fn (N.gZ bb.toKnown) i.I g.1 g.2 (bb.ii c n _ bj).1 (beq_iff_eq.mp (bb.ii c n _ bj).2.1) (by show(By (nm n) (eD es h8)).map _=_;rw[Bz,f.2 (oa h).1];rfl)
      (x3 (f:= .f (.st h6)) (pre:= [.aq x]) br iK bb F aE aS aw N (.st h6) (.cons (show T.A (.aq x) _ from⟨bW.1,rfl⟩) .nil)
       (λvs kw σ h=>ak (dp h) λc h=> (show(cv (mL S h6 (.aq x::vs) kw) _).holds by rw[(CL h.1).2];exact h.2)) (gr (oa h).2).2 q)
    |val v=>exact λh=>cm (gr (oa h).2).1
  |_=>exact fL
theorem agG {o args kws:X} {n:Nat} (dM:bc prog w Γ k S sc env o) (br:bc prog w Γ k S sc env args) (iK:bc prog w Γ k S sc env kws):bc prog w Γ k S sc env (.aG o n args kws):=by
 refine .val ay rfl (λp hp A E s T K Q aw N h q=> ?_) (λ_ _=>rfl) rfl rfl
 have hp:=k2 hp
 show bg _ _ (dz (.Call (.Attribute _ _ _) _ _ _) env) _ _ _
 rw[arm_eval_Call,uC hp.1]
 refine bz (dM.cX _ hp.2.2.1 aw N h λbS e4 av bk bi aT bl h=>bz (gI ?_))
 have mp:BK aa ((au sc o).e (ck (ck p))) env (ck p).pos p.pos=pure p.pos:=by unfold BK;rw[hp.2.1];rfl
 unfold methodCall
 rw[LZ (args:=args) (kws:=kws) (br.st (xs p) p.pos hp.2.2.2.1) (iK.hl (p0 p) p.pos hp.2.2.2.2.1) hp.2.2.2.2.2,mp]
 refine ak (dp h) λi h=> ?_
 cases av with
 |aq x=>exact bz (gk (h4 (abO ay bb F br iK hp.2.2.2.1 hp.2.2.2.2.1 aw aT bl h.2 (q.ex bi)) (λ_ _ z=>bz (dc z)) λ_ _ z=>z))
 |_=>exact a3 h.1
end
end
section
variable [WP]
noncomputable def q9:Expr->Bool
 | .ListComp .. =>ac
 | .SetComp .. =>ac
 | .DictComp .. =>ac
 |_=>aa
noncomputable def O3:Expr->Bool
 | .Tuple .. =>ac
 |_=>aa
noncomputable def vK (sc:cC):List Nat->List Expr->Bool
 | [],[]=>aa
 |n::ns,.Name id _::gg=>E6 n id&&fH sc id&&vK sc ns gg
 |_,_=>ac
noncomputable def ir:List Nat->List Expr->List Expr
 | [],_=> []
 |n::ns,l=> .Name (nm n) (h0 l).pos::ir ns l.tail
structure AQ where
 s:ct->Bool
 b:List ct->Bool
 e:ct->ct
 b0:List ct->List ct
noncomputable def AQ.of (f:ct->Bool) (e:ct->ct):AQ:=⟨f,λ_=>ac,e,id⟩
def ef:ct->Expr
 | .Assign gg _ _=>h0 gg
 | .AugAssign t _ _ _=>t
 | .For t _ _ _ _=>t
 |_=>default
noncomputable def b4:ct->Expr
 | .Expr e _=>e
 | .Assign _ e _=>e
 | .AugAssign _ _ e _=>e
 | .For _ i _ _ _=>i
 | .Assert t _ _=>t
 | .If t _ _ _=>t
 | .While t _ _ _=>t
 | .Return (ab e) _=>e
 |_=>default
noncomputable def wz:ct->List Expr
 | .Assign gg _ _=>gg
 |_=> []
noncomputable def jr:ct->List ct
 | .For _ _ b _ _=>b
 | .While _ b _ _=>b
 | .If _ b _ _=>b
 | .Try b _ _ _ _=>b
 |_=> []
noncomputable def Q2:ct->List ct
 | .If _ _ o _=>o
 |_=> []
noncomputable def aiM:ct->Option Expr
 | .Assert _ m _=>m
 |_=>af
noncomputable def aiL:ct->List ExceptHandler
 | .Try _ h _ _ _=>h
 |_=> []
noncomputable def v5 (l:List ct):ct:=l.headD default
def jg (n:Nat) (p:Expr):Expr:= .Name (nm n) p.pos
noncomputable def dH (sc:cC):S->AQ
 | .exp x=> .of (λp=>q9 ((au sc x).e (b4 p))&&(au sc x).x (b4 p)) λp=> .Expr ((au sc x).e (b4 p)) p.pos
 | .aN n x=> .of (λp=>fH sc (nm n)&&q9 ((au sc x).e (b4 p))&&(au sc x).x (b4 p)) λp=> .Assign [.Name (nm n) (ef p).pos] ((au sc x).e (b4 p)) p.pos
 | .a9 o n x=> .of (λp=>q9 ((au sc x).e (b4 p))&&(au sc o).x (ck (ef p))&&(au sc x).x (b4 p)) λp=> .Assign [.Attribute ((au sc o).e (ck (ef p))) (nm n) (ef p).pos] ((au sc x).e (b4 p)) p.pos
 | .gT n op x=> .of (λp=>fH sc (nm n)&&B9 op&&(au sc x).x (b4 p)) λp=> .AugAssign (.Name (nm n) (ef p).pos) op ((au sc x).e (b4 p)) p.pos
 | .kA o n op x=> .of (λp=>B9 op&&(au sc o).x (ck (ef p))&&(au sc x).x (b4 p)) λp=> .AugAssign (.Attribute ((au sc o).e (ck (ef p))) (nm n) (ef p).pos) op ((au sc x).e (b4 p)) p.pos
 | .jB ns x=> .of (λp=>d6 1 ns.length&&vK sc ns (ir ns (wz p))&&(au sc x).x (b4 p)) λp=> .Assign (ir ns (wz p)) ((au sc x).e (b4 p)) p.pos
 | .ast ns x=> .of (λp=>vK sc ns (ir ns (xs (ef p)))&&q9 ((au sc x).e (b4 p))&&O3 ((au sc x).e (b4 p))&&(au sc x).x (b4 p)) λp=> .Assign [.Tuple (ir ns (xs (ef p))) (jq (ef p)) (ef p).pos] ((au sc x).e (b4 p)) p.pos
 | .qs o i x=> .of (λp=>zD ((au sc i).e (gE (ef p)))&&q9 ((au sc x).e (b4 p))&&(au sc o).x (ck (ef p))&&(au sc i).x (gE (ef p))&&(au sc x).x (b4 p)) λp=> .Assign [.Subscript ((au sc o).e (ck (ef p))) ((au sc i).e (gE (ef p))) (ef p).pos] ((au sc x).e (b4 p)) p.pos
 | .si n x=> .of (λp=>fH sc (nm n)&&(au sc x).x (b4 p)) λp=> .AugAssign (.Name (nm n) (ef p).pos) .Add ((au sc x).e (b4 p)) p.pos
 | .fr n x b=> .of (λp=>fH sc (nm n)&&zC ((au sc x).e (b4 p))&&(au sc x).x (b4 p)&&(dH sc b).b (jr p)) λp=> .For (.Name (nm n) (ef p).pos) ((au sc x).e (b4 p)) ((dH sc b).b0 (jr p)) [] p.pos
 | .qM n x b=> .of (λp=>fH sc (nm n)&&jI sc "range" &&notStar ((au sc x).e (h0 (xs (b4 p))))&&(au sc x).x (h0 (xs (b4 p)))&&(dH sc b).b (jr p)) λp=> .For (.Name (nm n) (ef p).pos) (jZ "range" [(au sc x).e (h0 (xs (b4 p)))] (b4 p)) ((dH sc b).b0 (jr p)) [] p.pos
 | .sD n m x b=> .of (λp=>fH sc (nm n)&&fH sc (nm m)&&jI sc "enumerate" &&notStar ((au sc x).e (h0 (xs (b4 p))))&&(au sc x).x (h0 (xs (b4 p)))&&(dH sc b).b (jr p)) λp=> .For (.Tuple [jg n (h0 (xs (ef p))),jg m (ap (xs (ef p)))] (jq (ef p)) (ef p).pos) (jZ "enumerate" [(au sc x).e (h0 (xs (b4 p)))] (b4 p)) ((dH sc b).b0 (jr p)) [] p.pos
 | .u4 n x b=> .of (λp=>fH sc (nm n)&&jI sc "list" &&notStar ((au sc x).e (h0 (xs (b4 p))))&&(au sc x).x (h0 (xs (b4 p)))&&(dH sc b).b (jr p)) λp=> .For (.Name (nm n) (ef p).pos) (jZ "list" [(au sc x).e (h0 (xs (b4 p)))] (b4 p)) ((dH sc b).b0 (jr p)) [] p.pos
 | .try b=> .of (λp=> (dH sc b).b (jr p)) λp=> .Try ((dH sc b).b0 (jr p)) (aiL p) [] [] p.pos
 | .uy t n m i=> .of (λp=> (fH sc (nm t)&& !((jp sc (b4 p)).names.any λx=>x.1==nm t&&(x.2== .local||x.2== .cell)))&&((ef p).pos.line==(b4 p).pos.line)&&x6 (jp sc (b4 p)) sc n []&&fH (jp sc (b4 p)) (nm m)&&(ta (nm n)&& !bA n m)&&(zC ((au sc i).e (fK (b4 p)).iter)&&(au sc i).x (fK (b4 p)).iter))
   λp=> .Assign [.Name (nm t) (ef p).pos] (.ListComp (jg n (ck (b4 p))) [⟨.Tuple [jg n (h0 (xs (fK (b4 p)).target)),jg m (ap (xs (fK (b4 p)).target))] (jq (fK (b4 p)).target) (fK (b4 p)).target.pos,(au sc i).e (fK (b4 p)).iter,[jg n (h0 (fK (b4 p)).ifs)],0⟩] (jp sc (b4 p)) (b4 p).pos) p.pos
 | .sg x=> .of (λp=> (au sc x).x (b4 p)) λp=> .Assert ((au sc x).e (b4 p)) (aiM p) p.pos
 | .ite c b o=> .of (λp=> (au sc c).x (b4 p)&&(dH sc b).b (jr p)&&(dH sc o).b (Q2 p)) λp=> .If ((au sc c).e (b4 p)) ((dH sc b).b0 (jr p)) ((dH sc o).b0 (Q2 p)) p.pos
 | .eT c b=> .of (λp=> (au sc c).x (b4 p)&&(dH sc b).b (jr p)) λp=> .While ((au sc c).e (b4 p)) ((dH sc b).b0 (jr p)) [] p.pos
 | .ret x=> .of (λp=> (au sc x).x (b4 p)) λp=> .Return (ab ((au sc x).e (b4 p))) p.pos
 | .rl=> .of (λ_=>aa) λp=> .Return af p.pos
 | .te=> .of (λ_=>aa) λp=> .Pass p.pos
 | .brk=> .of (λ_=>aa) λp=> .Break p.pos
 | .bK=> ⟨λ_=>aa,λ_=>aa,id,id⟩
 | .nil=> ⟨λ_=>ac,λ_=>aa,id,λ_=> []⟩
 | .cons a r=> ⟨λ_=>ac,λl=> (dH sc a).s (v5 l)&&(dH sc r).b l.tail,id,λl=> (dH sc a).e (v5 l)::(dH sc r).b0 l.tail⟩
def AV (T:bG) (f:nx):cE->Prop
 | .aQ=>f= .next
 | .c0=>f= .brk
 | .df=>f= .cont
 | .hG av=> ∃v,f= .ret v/\T.A av v
def nD (Γ:bM) (T:bG) (K:cE->St->aB) (Q:nx->az->Prop):Prop:= ∀a5 g f s',T.dS a5->aX Γ a5 s'->AV a5 f g->(K g a5.σ).holds->Q f s'
theorem nD.ex {Γ:bM} {T a5:bG} {K:cE->St->aB} {Q:nx->az->Prop} (x:T.dS a5) (q:nD Γ T K Q):nD Γ a5 K Q:=λmC g f s' y=>q mC g f s' (x.trans y)
theorem nD.aQ {Γ:bM} {T:bG} {K:cE->St->aB} {Q:nx->az->Prop} (q:nD Γ T K Q):nE Γ T (K .aQ) (Q .next):=λa5 s' x N h=>q a5 .aQ .next s' x N rfl h
section
variable (prog:cO) (w:ba) (Γ:bM) (k:Nat)
def qj (m:St->(cE->St->aB)->aB) (t:hK nx):Prop:= ∀{A:c2} {E:ah->az->Prop} {s:az} {T:bG} {K:cE->St->aB} {Q:nx->az->Prop},fu A k->aX Γ T s->(m T.σ K).holds->nD Γ T K Q->bg (bp prog w) A t Q E s
variable (S:cM) (sc:cC) (env:dm)
structure ew (e:Q7.S):Prop where
 s: ∀p,(dH sc e).s p=aa->qj prog w Γ k (bN S e) (qh ((dH sc e).e p) env)
 b: ∀a8,(dH sc e).b a8=aa->qj prog w Γ k (bN S e) (nB ((dH sc e).b0 a8) env)
end
section
variable {prog:cO} {w:ba} {A:c2} {E:ah->az->Prop} {s:az} {Γ:bM} {T:bG} {env:dm} {sc:cC} {S:cM} {Kf:bZ} {k:Nat}
theorem ew.of {e:Q7.S} (h: ∀p,(dH sc e).s p=aa->qj prog w Γ k (bN S e) (qh ((dH sc e).e p) env)) (ag:(dH sc e).b=λ_=>ac):ew prog w Γ k S sc env e:=⟨h,λ_=>nW ag⟩
theorem ts {e:Expr} {t:Option Expr} {l:Nat}:q9 e=aa->xo e t l env=pure ac:=by
 cases e with
 |ListComp=>exact cm
 |SetComp=>exact cm
 |DictComp=>exact cm
 |_=>exact λ_=>rfl
variable (ay:WP.P=w.params) (Ev:dk sc env Γ S) (bb:Top Kf Γ.base S) (F:iz prog w Kf S Γ.base k)
include Ev
theorem O4:interactive env=ac:=by
 unfold interactive
 rw[Ev.scope,Ev.kind];rfl
theorem aeQ {x:X} (co:bc prog w Γ k S sc env x):ew prog w Γ k S sc env (.exp x):=
 .of (λp hp {_ _ _ _ _ _} aw N h q=>wpAny_Expr_any (co.cX _ (b3 hp).2 aw N h λbS v av bk bi aT bl h=>q.aQ _ _ bi aT h) (O4 Ev) (ts (b3 hp).1)) rfl
theorem aeH {n:Nat} {x:X} (co:bc prog w Γ k S sc env x):ew prog w Γ k S sc env (.aN n x):=
 .of (λp hp {_ _ _ _ _ _} aw N h q=>IK (co.cX _ (cU hp).2.2 aw N h λbS v av bk bi aT bl h=>pX Ev (cU hp).1 aT bl h (q.aQ.ex bi)) (ts (cU hp).2.1)) rfl
include bb in
theorem aeE {o:X} {n:Nat} {x:X} (dM:bc prog w Γ k S sc env o) (co:bc prog w Γ k S sc env x):ew prog w Γ k S sc env (.a9 o n x):=
 .of (λp hp {_ _ _ _ _ _} aw N h q=>plainObj_wpAny_Assign_Attribute (co.cX _ (cU hp).2.2 aw N h λbS v av bk bi aT bl h=>dM.cX _ (cU hp).2.1 aw aT h λfk e4 hk dh cD bR dF h=>
  P9 bb.toKnown bR dF (bl.ex cD) h (q.aQ.ex (bi.trans cD))) (ts (cU hp).1)) rfl
theorem aeN {n:Nat} {op:my} {x:X} (co:bc prog w Γ k S sc env x):ew prog w Γ k S sc env (.gT n op x):=
 .of (λp hp {_ _ _ _ K _} aw N h q=>ak (dp h) λold h=>Ta (Ew (K:=λold σ=> (ev S x).x σ λv σ=>o6 op old v λr=>stK σ n r (K .aQ)) Ev (cU hp).1 N h.1 h.2 λbS v av bk bi aT bl h=>
  co.cX _ (cU hp).2.2 aw aT h λfk v2 o5 dh cD bR dF h=>MT (K:=λr σ=>stK σ n r (K .aQ)) (cU hp).2.1 bR (bl.ex cD) dF h λi2 r JB fV eX dU mH h=>pX Ev (cU hp).1 dU mH h (q.aQ.ex ((bi.trans cD).trans eX)))) rfl
include bb in
theorem aeL {o:X} {n:Nat} {op:my} {x:X} (dM:bc prog w Γ k S sc env o) (co:bc prog w Γ k S sc env x):ew prog w Γ k S sc env (.kA o n op x):=
 .of (λp hp {_ _ _ _ K _} aw N h q=>wpAny_AugAssign_AttributeAny (dM.cX _ (cU hp).2.1 aw N h λbS e4 hk bk bi aT bl h=>
  Md (K:=λold σ=> (ev S x).x σ λv σ=>o6 op old v λr=>v3 S n hk r σ λσ=>K .aQ σ) bb.toKnown aT bl h λfk old av dh cD bR dF h=>
  co.cX _ (cU hp).2.2 aw bR h λi2 QQ JB fV eX dU mH h=>MT (K:=λr σ=>v3 S n hk r σ λσ=>K .aQ σ) (cU hp).1 dU (dF.ex eX) mH h λkZ r JC iS g7 fN k3 h=>
  P9 bb.toKnown fN (bl.ex ((cD.trans eX).trans g7)) k3 h (q.aQ.ex (bi.trans ((cD.trans eX).trans g7))))) rfl
omit Ev
theorem aeV {c:X} {b o:Q7.S} (iI:bc prog w Γ k S sc env c) (cV:ew prog w Γ k S sc env b) (dM:ew prog w Γ k S sc env o):ew prog w Γ k S sc env (.ite c b o):=by
 refine .of (λp hp A E s T K Q aw N h q=>wpAny_If (iI.kR _ (cU hp).1 aw N h λbS r bk bi aT h=> ?_)) rfl
 cases r with
 |true=>exact cV.b _ (cU hp).2.1 aw aT h (q.ex bi)
 |false=>exact dM.b _ (cU hp).2.2 aw aT h (q.ex bi)
theorem ae2 {c:X} {b:Q7.S} (iI:bc prog w Γ k S sc env c) (cV:ew prog w Γ k S sc env b):ew prog w Γ k S sc env (.eT c b):=by
 refine .of (λp hp A E s T K Q aw N h q=>ak h λn h=>wpAny_While (codeAny_whileLoop (λn s=> ∃a5,T.dS a5/\aX Γ a5 s/\G7 (ev S c).t (bN S b) n a5.σ λf σ=> (K f σ).holds) (λn bk I=>ak I λbS I=> ?_) n ⟨T,.refl T,N,h⟩)) rfl
 cases n with
 |zero=>exact I.2.2.elim
 |succ n=>
  refine iI.kR _ (b3 hp).1 aw I.2.1 I.2.2 λfk r dh cD bR h=> ?_
  cases r with
  |false=>exact uc (q.aQ _ _ (I.1.trans cD) bR h)
  |true=>
   refine cV.b _ (b3 hp).2 aw bR h λi2 g f fV eX dU hf h=> ?_
   have be:=(I.1.trans cD).trans eX
   cases g with
   |aQ=>rw[hf];exact⟨n,nu n,i2,be,dU,h⟩
   |df=>rw[hf];exact⟨n,nu n,i2,be,dU,h⟩
   |c0=>rw[hf];exact q.aQ _ _ be dU h
   |hG v=>exact ak hf λy e=>by rw[e.1];exact q _ (.hG v) _ _ be dU ⟨y,rfl,e.2⟩ h
theorem aeY {x:X} (co:bc prog w Γ k S sc env x):ew prog w Γ k S sc env (.ret x):=
 .of (λp hp {_ _ _ _ _ _} aw N h q=>wpAny_Return_some (co.cX _ hp aw N h λbS v av bk bi aT bl h=>q _ (.hG av) _ _ bi aT ⟨v,rfl,bl⟩ h)) rfl
theorem aeZ:ew prog w Γ k S sc env .rl:=
 .of (λp hp {_ _ _ T _ _} aw N h q=>wpAny_Return_none (q _ (.hG (.f .none)) _ _ (.refl T) N ⟨.none,rfl,(.none:bq T.aP .none .none)⟩ h)) rfl
theorem aeX:ew prog w Γ k S sc env .te:=
 .of (λp hp {_ _ _ T _ _} aw N h q=>wpAny_Pass (q.aQ _ _ (.refl T) N h)) rfl
theorem aeO:ew prog w Γ k S sc env .brk:=
 .of (λp hp {_ _ _ T _ _} aw N h q=>by
  show bg _ _ (qh (.Break _) env) _ _ _
  rw[arm_exec_Break]
  exact bz (gI (dc (q _ .c0 _ _ (.refl T) N rfl h)))) rfl
theorem ae0:ew prog w Γ k S sc env .bK:=⟨λp hp {_ _ _ _ _ _} aw N h q=>h.elim,λp hp {_ _ _ _ _ _} aw N h q=>h.elim⟩
theorem aeW:ew prog w Γ k S sc env .nil:=⟨λ_=>cm,λa8 hp {_ _ _ T _ _} aw N h q=>uc (q.aQ _ _ (.refl T) N h)⟩
theorem aeP {a r:Q7.S} (br:ew prog w Γ k S sc env a) (hA:ew prog w Γ k S sc env r):ew prog w Γ k S sc env (.cons a r):=by
 refine⟨λ_=>cm,λa8 hp A E s T K Q aw N h q=>BP (br.s _ (b3 hp).1 aw N h λbS g f bk bi aT hf h=> ?_)⟩
 cases g with
 |aQ=>rw[hf];exact hA.b _ (b3 hp).2 aw aT h (q.ex bi)
 |df=>rw[hf];exact q _ .df _ _ bi aT rfl h
 |c0=>rw[hf];exact q _ .c0 _ _ bi aT rfl h
 |hG v=>exact ak hf λy e=>by rw[e.1];exact q _ (.hG v) _ _ bi aT ⟨y,rfl,e.2⟩ h
end
end
noncomputable def rC (eE:List (aZ×ah)) (a8:List aZ) (vs:List ah) (kw:List (aZ×ah)) (n:aZ):Option ah:=((a8.zip vs).lookup n).or ((kw.lookup n).or (eE.lookup n))
theorem Ex {n:aZ} {l m:List (aZ×ah)}:(l++m).lookup n=(l.lookup n).or (m.lookup n):=List.lookup_append
theorem AK (names:List aZ): ∀vs:List ah,(names.zip vs).map (·.1)=names.take vs.length:=by
 induction names with
 |nil=>exact λvs=>tT.symm
 |cons n ns ai=>exact λvs=>by cases vs with
  |nil=>rfl
  |cons v vs=>exact congrArg (n:: ·) (ai vs)
theorem lookup_none {n:aZ} {l:List (aZ×ah)} (h: ∀x∈l,x.1≠n):l.lookup n=af:=RV.mpr λx aH=>bne_iff_ne.mpr λq=>h x aH q.symm
theorem apart {names:List aZ} {m:Nat} {items:List ah} (bY:names.Nodup): ∀n∈names.take m,((names.drop m).zip items).lookup n=af:=λn ar=>lookup_none λy cP q=>by
 rw[<-p7 m names] at bY
 have cP:=tS (f:=(·.1)) cP
 rw[AK] at cP
 exact(Ba.mp bY).2.2 _ ar _ (HU cP) q.symm
theorem abD {M:t6} {A:c2} {E:ah->az->Prop} {s:az} {names:List aZ} {vs:List ah} {kw:List (aZ×ah)} {body:aZ×ah->List (aZ×ah)×List (aZ×ah)->hK (ForInStep (List (aZ×ah)×List (aZ×ah)))}
  {α:Type} {f:List (aZ×ah)×List (aZ×ah)->hK α} {Q:α->az->Prop} (aS: ∀x∈kw,x.1∈names.drop vs.length) (bY:names.Nodup) (cu:(kw.map (·.1)).Nodup)
  (ag: ∀x r,names.contains x.1=aa->(r.1.lookup x.1).isSome=ac->body x r=pure (.yield (r.1++ [x],r.2))) (h:bg M A (f (names.zip vs++kw,[])) Q E s):bg M A (wR kw (names.zip vs,[]) body>>=f) Q E s:=by
 refine bz (IM body (λrest b s'=> (∃done,kw=done++rest/\b=(names.zip vs++done,[]))/\bg M A (f (names.zip vs++kw,[])) Q E s') _ (λx rest b s' I=> ?_) (λb s' I=> ?_) kw _ ⟨⟨[],rfl,by rw[dj]⟩,h⟩)
 ·refine ak I.1 λdone e=> ?_
  have aH:=aS x (by rw[e.1];exact List.mem_append_right _ et)
  rw[ag x b (rT.mpr (List.mem_of_mem_drop aH)) (by
   rw[e.2,lookup_none λy cP=> ?_];rfl
   rcases A9.mp cP with cP|cP
   ·rw[<-p7 vs.length names] at bY
    exact(Ba.mp bY).2.2 _ (AK names vs▸tS cP) _ aH
   ·rw[e.1,lE,p5] at cu
    exact(Ba.mp cu).2.2 _ (tS cP) _ et),e.2]
  exact dc ⟨⟨done++ [x],by rw[e.1,bt];rfl,by rw[bt]⟩,I.2⟩
 ·refine ak I.1 λdone e=> ?_
  rw[e.2,<-(dj done).symm.trans e.1.symm|>.symm]
  exact I.2
theorem abE {M:t6} {A:c2} {E:ah->az->Prop} {s:az} {eE qt:List (aZ×ah)} {body:aZ×ah->List (aZ×ah)->hK (ForInStep (List (aZ×ah)))}
  {α:Type} {f:List (aZ×ah)->hK α} {Q:α->az->Prop} (ag: ∀x r,body x r=cond (r.lookup x.1).isNone (pure (.yield (r++ [x]))) (pure (.yield r)))
  (h: ∀b,(∀n,b.lookup n=(qt.lookup n).or (eE.lookup n))->bg M A (f b) Q E s):bg M A (wR eE qt body>>=f) Q E s:=by
 refine bz (IM body (λrest b s'=> (∀n,(b.lookup n).or (rest.lookup n)=(qt.lookup n).or (eE.lookup n))/\s'=s) _ (λx rest b s' I=> ?_) (λb s' I=> ?_) eE _ ⟨λ_=>rfl,rfl⟩)
 ·rw[ag]
  cases z:b.lookup x.1 with
  |none=>
   refine dc ⟨λn=> (AU ?_ (I.1 n)),I.2⟩
   rw[Ex,Sk]
   cases x with|mk k v=>
   rw[mq,mq,HS]
   cases n==k<;>rfl
  |some u=>
   refine dc ⟨λn=> (AU ?_ (I.1 n)),I.2⟩
   cases x with|mk k v=>
   rw[mq]
   cases q:n==k with
   |true=>rw[beq_iff_eq.mp q,show b.lookup k=ab u from z];rfl
   |false=>rfl
 ·rw[I.2]
  exact h b λn=>by rw[<-I.1 n,HS,Sl]
theorem aiD {M:t6} {A:c2} {E:ah->az->Prop} {s:az} {d:ah} {items:List ah} {Q:Option (Array ah)->az->Prop} (h:(d= .none/\items= [])\/ ∃a n,d= .ref a/\s.heap.get? a=ab (md items n))
  (q: ∀x,(x.getD #[]).toList=items->Q x s):bg M A (seqItems? d) Q E s:=
 h.elim (λh=>by rw[h.1];exact dc (q af (by rw[h.2];rfl))) λh=>bT h λa n h=>by rw[h.1];exact wpAny_seqItems h.2 rfl (q _ rfl)
theorem tI {M:t6} {A:c2} {E:ah->az->Prop} {s:az} {α:Type} {c:Prop} [Decidable c] {a b:hK α} {Q:α->az->Prop} (h: ¬c) (k:bg M A b Q E s):bg M A (if c then a else b) Q E s:=by rw[if_neg h];exact k
theorem T6 {g:aZ->Option ah} {a8:List aZ} {full:List ah} (h:bC (λn v=>g n=ab v) a8 full):a8.filterMap (λn=> (g n).map (n, ·))=a8.zip full:=by
 induction h with
 |nil=>rfl
 | @cons n v a8 full h t ai=>rw[HL,h];exact congrArg ((n,v):: ·) ai
theorem bC.abP {α β:Type} {R:α->β->Prop} {l:List α} {m:List β} (h:bC R l m): ∀a∈l,∃b,R a b:=by
 induction h with
 |nil=>exact λa h=>absurd h eI
 |cons h t ai=>exact λa aE=>by cases aE with
  |head=>exact⟨_,h⟩
  |tail _ aE=>exact ai a aE
theorem bC.EX {α β:Type} {R R':α->β->Prop} {l:List α} {m:List β} (h:bC R l m):(∀a∈l,∀b,R a b->R' a b)->bC R' l m:=by
 induction h with
 |nil=>exact λ_=> .nil
 |cons h t ai=>exact λf=> .cons (f _ et _ h) (ai λa aE=>f a (eZ _ aE))
theorem acy {b eE:List (aZ×ah)} {l names:List aZ} {full:List ah} (g:bC (λn v=> (b.lookup n).or (eE.lookup n)=ab v) names full) (sub: ∀n∈l,n∈names) (b2: ∀n∈l,eE.lookup n=af):
  ¬(!(l.filter λn=> (b.lookup n).isNone).isEmpty)=aa:=by
 rw[List.filter_eq_nil_iff.mpr λn ar e=>ak (g.abP n (sub n ar)) λv q=>by
  rw[Bj.mp e,b2 n ar] at q
  exact a3 q]
 exact oC
theorem Ux {M:t6} {A:c2} {E:ah->az->Prop} {s:az} {fd:jV} {args:List iA} {dflt:List Expr} {fz:List (Option Expr)} {names:List aZ} {items:List ah} (hp:fd.params=⟨[],args,af,[],fz,af,dflt⟩) (ar:args.map (·.arg)=names)
  (hd:(fd.defaults= .none/\items= [])\/ ∃a n,fd.defaults= .ref a/\s.heap.get? a=ab (md items n)) (bj:items.length<=names.length) (bY:names.Nodup)
  {vs:List ah} {kw:List (aZ×ah)} {full:List ah} (aS: ∀x∈kw,x.1∈names.drop vs.length) (cu:(kw.map (·.1)).Nodup) (aA:vs.length<=names.length) (ag:bC (λn v=>rC ((names.drop (names.length-items.length)).zip items) names vs kw n=ab v) names full) {Q:List (aZ×ah)->az->Prop} (q:Q (names.zip full) s):
  bg M A (ID fd ⟨vs,kw⟩) Q E s:=by
 subst ar
 cases fd with|mk a1 a2 nG um qp uo I9 Ja Jb ai0=>
 cases hp
 refine abD (f:= ?_) (body:= ?_) aS bY cu (λx r ap aC=> ?_) ?_
 rotate_left 2
 ·cases x with|mk k v=>
  exact(if_pos (by rw[show _=aa from ap];rfl)).trans (if_neg (by rw[show _=ac from aC];exact oC))
 refine bz (aiD hd λit hit=> ?_)
 subst hit
 have Xb:HI ((it.getD #[]).toList.length- (args.map (·.arg)).length) (it.getD #[]).toList=(it.getD #[]).toList:=by rw[H5 bj];rfl
 rw[<-Xb] at ag
 have ag:=bC.mono (R':=λn v=> (((args.map (·.arg)).zip vs++kw).lookup n).or ((((args.map (·.arg)).drop ((args.map (·.arg)).length- (HI ((it.getD #[]).toList.length- (args.map (·.arg)).length) (it.getD #[]).toList).length)).zip (HI ((it.getD #[]).toList.length- (args.map (·.arg)).length) (it.getD #[]).toList)).lookup n)=ab v) (λn v h=>by rw[Ex,Sk];exact h) ag
 refine tI (λh=>mv.mpr aA (of_decide_eq_true (fW.mp h).1)) ?_
 refine tI (acy ag (λn=>HU) (apart bY)) ?_
 refine abE (λx r=>by cases x with|mk k v=>show(if _ then _ else _)=_;cases (List.lookup k r).isNone<;>rfl) λb DB=> ?_
 refine bz (dc (tI oC (dc (a:=((args.map λx=>Arg.arg x)++ []).filterMap λn=> (b.lookup n).map (n, ·)) ?_)))
 rw[dj,T6 (full:=full) (ag.mono λn v h=>by rw[DB];exact h)]
 exact q
section
theorem OW (n k:Nat):(nm n==nm k)=bA k n:=by
 rw[beq_eq]
 by_cases q:k=n
 ·rw[q,decide_eq_true rfl];exact beq_self_eq_true _
 ·rw[decide_eq_false q];exact beq_eq_false_iff_ne.mpr λe=>q (n9 _ _ e).symm
theorem abp {R:ae->ah->Prop} {n:Nat} {av:ae} {a8:List Nat}: ∀{full:List ae} {vs:List ah},bC R full vs->aL n (a8.zip full)=ab av-> ∃v,((a8.map nm).zip vs).lookup (nm n)=ab v/\R av v:=by
 induction a8 with
 |nil=>exact λ_ h=>a3 h
 |cons p a8 ai=>
  intro full vs h
  cases h with
  |nil=>exact a3
  | @cons a v full vs ap aC=>
   show(match bA p n with
    |true=>ab a
    |false=>aL n (a8.zip full))=ab av-> ∃u,(match nm n==nm p with
    |true=>ab v
    |false=> ((a8.map nm).zip vs).lookup (nm n))=ab u/\R av u
   rw[OW]
   cases bA p n with
   |true=>exact λh=> ⟨v,rfl,bQ h▸ap⟩
   |false=>exact ai aC
theorem zj {R:ae->ah->Prop} {kw:List (Nat×ae)} {kvs:List (aZ×ah)} (n:Nat) (h:hZ R kw kvs):(∀av,aL n kw=ab av-> ∃v,kvs.lookup (nm n)=ab v/\R av v)/\(aL n kw=af->kvs.lookup (nm n)=af):=by
 induction h with
 |nil=>exact⟨λav h=>a3 h,λ_=>rfl⟩
 | @cons a b kw kvs h t ai=>
  cases b with|mk x v=>
  show(∀av,(match bA a.1 n with
   |true=>ab a.2
   |false=>aL n kw)=ab av-> ∃u,(match nm n==x with
   |true=>ab v
   |false=>kvs.lookup (nm n))=ab u/\R av u)/\((match bA a.1 n with
   |true=>ab a.2
   |false=>aL n kw)=af->(match nm n==x with
   |true=>ab v
   |false=>kvs.lookup (nm n))=af)
  rw[show x=nm a.1 from h.1,OW]
  cases bA a.1 n with
  |true=>exact⟨λav e=> ⟨v,rfl,bQ e▸h.2⟩,λe=>a3 e.symm⟩
  |false=>exact ai
theorem CD {G:Prop} {ds:List (Nat×aj)} {p:Nat} {a8:List Nat} {v:ae} {vs:List ae} {kw:List (Nat×ae)} {full:List ae} (h:gx ds (p::a8) (v::vs) kw=ab full) (k: ∀r,aL p kw=af->gx ds a8 vs kw=ab r->full=v::r->G):G:=by
 have h:(match aL p kw with
  |none=>match gx ds a8 vs kw with
   |some r=>ab (v::r)
   |none=>af
  |some _=>af)=ab full:=h
 revert h
 cases eA:aL p kw with
 |some _=>exact a3
 |none=>cases e:gx ds a8 vs kw with
  |none=>exact a3
  |some r=>exact λh=>k r eA e (bQ h).symm
theorem K5 {G:Prop} {ds:List (Nat×aj)} {p:Nat} {a8:List Nat} {kw:List (Nat×ae)} {full:List ae} (h:gx ds (p::a8) [] kw=ab full) (k: ∀v r,(aL p kw=ab v\/aL p kw=af/\ ∃d,aL p ds=ab d/\v= .f d)->gx ds a8 [] kw=ab r->full=v::r->G):G:=by
 have h:(match aL p kw with
  |some v=>match gx ds a8 [] kw with
   |some r=>ab (v::r)
   |none=>af
  |none=>match aL p ds with
   |some d=>match gx ds a8 [] kw with
    |some r=>ab (.f d::r)
    |none=>af
   |none=>af)=ab full:=h
 revert h
 cases eA:aL p kw with
 |some v=>cases e:gx ds a8 [] kw with
  |none=>exact a3
  |some r=>exact λh=>k v r (.inl eA) e (bQ h).symm
 |none=>cases e1:aL p ds with
  |none=>exact a3
  |some d=>cases e:gx ds a8 [] kw with
   |none=>exact a3
   |some r=>exact λh=>k _ r (.inr ⟨eA,d,e1,rfl⟩) e (bQ h).symm
theorem abo {p:Nat} {d:aj} {ds:List (Nat×aj)}:aL p ds=ab d->aL p (ds.map λd=> ((d.1,.f d.2):Nat×ae))=ab (.f d):=by
 induction ds with
 |nil=>exact a3
 |cons q ds ai=>
  show(match bA q.1 p with
   |true=>ab q.2
   |false=>aL p ds)=ab d->(match bA q.1 p with
   |true=>ab (ae.f q.2)
   |false=>aL p (ds.map λd=> ((d.1,.f d.2):Nat×ae)))=ab (.f d)
  cases bA q.1 p with
  |true=>exact λh=>congrArg ab (congrArg ae.f (bQ h))
  |false=>exact ai
theorem OY {a8:List Nat} (h:a8.Nodup):(a8.map nm).Nodup:=A0 nm (λ_ _ sI e=>sI (n9 _ _ e)) h
theorem aic {eE:List (aZ×ah)} {p:aZ} {a8:List aZ} {v:ah} {vs:List ah} {kw:List (aZ×ah)} {bI:List ah} (bY:p∉a8) (h:bC (λn v=>rC eE a8 vs kw n=ab v) a8 bI):bC (λn lr=>rC eE (p::a8) (v::vs) kw n=ab lr) a8 bI:=
 h.EX λn ar b e=>by
  unfold rC at e⊢
  rw[show((p::a8).zip (v::vs)).lookup n=(a8.zip vs).lookup n by rw[R3,mq,show(n==p)=ac from beq_eq_false_iff_ne.mpr λq=>bY (by rw[<-q];exact ar)]]
  exact e
theorem Uv {R:ae->ah->Prop} {ds:List (Nat×aj)} {eE:List (aZ×ah)} (hd:hZ R (ds.map λd=> (d.1,.f d.2)) eE) {kw:List (Nat×ae)} {kvs:List (aZ×ah)} (aS:hZ R kw kvs) {a8:List Nat}: ∀{pos:List ae} {vs:List ah} {full:List ae},
  a8.Nodup->bC R pos vs->gx ds a8 pos kw=ab full-> ∃bI,bC R full bI/\vs.length<=a8.length/\bC (λn v=>rC eE (a8.map nm) vs kvs n=ab v) (a8.map nm) bI:=by
 induction a8 with
 |nil=>exact λ_ h e=>by cases h with
  |nil=>exact⟨[],bQ e▸ .nil,fj _,.nil⟩
  |cons _ _=>exact a3 e
 |cons p a8 ai=>
  intro pos vs full bY h e
  have bY:=p6.mp bY
  have aci:nm p∉a8.map nm:=λm=>ak (w1.mp m) λy q=>bY.1 (n9 _ _ q.2▸q.1)
  cases h with
  | @cons v x pos vs ap aC=>
   refine CD e λr e1 e2 kD=>ak (ai bY.2 aC e2) λbI i=> ?_
   rw[kD]
   exact⟨x::bI,.cons ap i.1,iY i.2.1,.cons (by unfold rC;rw[p5,R3,mq,beq_self_eq_true];rfl) (aic aci i.2.2)⟩
  |nil=>
   refine K5 e λv r e1 e2 kD=>ak (ai bY.2 .nil e2) λbI i=> ?_
   rw[kD]
   have K: ∃y,((kvs.lookup (nm p)).or (eE.lookup (nm p))=ab y)/\R v y:=e1.elim
    (λe=>ak ((zj p aS).1 v e) λy q=> ⟨y,by rw[q.1];rfl,q.2⟩)
    λe=>ak e.2 λd q=>ak ((zj p hd).1 _ (abo q.1)) λy z=> ⟨y,by rw[(zj p aS).2 e.1,z.1];rfl,q.2▸z.2⟩
   exact ak K λy q=> ⟨y::bI,.cons q.2 i.1,fw _,.cons q.1 (i.2.2.mono λn v h=>by unfold rC at h⊢;rw[List.zip_nil_right] at h⊢;exact h)⟩
theorem OI {n:Nat} {l:List Nat}:iM n l=aa->n∈l:=by
 induction l with
 |nil=>exact cm
 |cons m l ai=>exact λh=> ((nk ..).mp h).elim (λh=>fh h▸et) λh=>eZ _ (ai h)
theorem VK {α β:Type} {R:α->β->Prop} {l:List α} {m:List β} (h:bC R l m): ∀{a8:List Nat},k7 a8 l=a8.drop m.length:=by
 induction h with
 |nil=>exact λ{a8}=>by cases a8<;>rfl
 |cons _ _ ai=>exact λ{a8}=>by cases a8 with
  |nil=>rfl
  |cons p a8=>exact ai
theorem Z5 {rest:List Nat} {R:ae->ah->Prop} {kw:List (Nat×ae)} {kvs:List (aZ×ah)} (h:hZ R kw kvs):ll rest kw=aa->(∀x∈kvs,x.1∈rest.map nm)/\(kvs.map (·.1)).Nodup:=by
 induction h with
 |nil=>exact λ_=> ⟨λx h=>absurd h eI,.nil⟩
 | @cons a b kw kvs h t ai=>
  intro g
  have g:=cU g
  have i:=ai g.2.2
  refine⟨λy cP=> ?_,p6.mpr ⟨λhm=> ?_,i.2⟩⟩
  ·cases cP with
   |head=>rw[h.1];exact tS (OI g.1)
   |tail _ cP=>exact i.1 y cP
  ·have g2:=g.2.1
   revert g2
   cases e:aL a.1 kw with
   |some _=>exact cm
   |none=>
    have ar:=(zj a.1 t).2 e
    rw[<-h.1] at ar
    exact λ_=>ak (w1.mp hm) λy q=>bne_iff_ne.mp (RV.mp ar y q.1) q.2.symm
theorem Er {α:Type} {n:Nat} {p:Nat×Option α} {r:List (Nat×Option α)}:gu n (p::r)=cond (bA p.1 n) p.2 (gu n r):=by
 show(match(match bA p.1 n with
  |true=>ab p.2
  |false=>aL n r) with
  |some o=>o
  |none=>af)=_
 cases bA p.1 n<;>rfl
theorem NM {n:Nat} {ex:List Nat}:gu n (E8 ex)=(af:Option ae):=by
 induction ex with
 |nil=>rfl
 |cons m ex ai=>exact Er.trans (by rw[ai];cases bA _ n<;>rfl)
theorem NL {n:Nat} {ex:List Nat} {a8:List Nat}: ∀{l:List ae},gu n (locs a8 l ex)=aL n (a8.zip l):=by
 induction a8 with
 |nil=>exact λ{l}=>by cases l<;>exact NM
 |cons p a8 ai=>
  intro l
  cases l with
  |nil=>exact NM
  |cons v l=>exact Er.trans (by
   rw[ai]
   show cond (bA p n) (ab v) _=(match bA p n with
    |true=>ab v
    |false=>aL n (a8.zip l))
   cases bA p n<;>rfl)
variable [WP]
structure oG (base:cw) (a:Nat) (p:List Nat×List (Nat×aj)) (o:bX) (fd:jV) (args:List iA) (dflt:List Expr) (fz:List (Option Expr)) (body:List ct) (items:List ah):Prop where
 at_:base.get? a=ab o
 data:o.data= .func fd
 rf:fd.params=⟨[],args,af,[],fz,af,dflt⟩
 jC:fd.body= .stmts body
 kind:fd.scope.kind= .function
 cB:fd.scope.isCoroutine=ac
 gen:fd.scope.isGenerator=ac
 i8:fd.globals=jx
 blt:fd.builtins=oV
 code:base.CodeRec fd.code fd.qualname
 E7:args.map (·.arg)=p.1.map nm
 loc: ∀n∈p.1,fH fd.scope (nm n)=aa
 zB: ∀x∈fd.scope.names,x.2≠ .cell
 Dd:(fd.defaults= .none/\items= [])\/ ∃t n,fd.defaults= .ref t/\base.get? t=ab (md items n)
 dl:items.length<=p.1.length
 VD:hZ (λa v=> ∃x,a= .f x/\bq base.get? x v) (p.2.map λd=> (d.1,.f d.2)) (((p.1.map nm).drop (p.1.length-items.length)).zip items)
structure rO (base:cw) (a:Nat) (p:List Nat×List (Nat×aj)) (b:Q7.S):Prop where
 bY:p.1.Nodup
 fd: ∃o fd args dflt fz body items,oG base a p o fd args dflt fz ((dH fd.scope b).b0 body) items/\(dH fd.scope b).b body=aa
end
section
theorem abC {n:aZ} {l:List (aZ×ah)}:(l.map (·.1)).Nodup->l.reverse.lookup n=l.lookup n:=by
 induction l with
 |nil=>exact λ_=>rfl
 |cons p l ai=>
  intro bY
  have bY:=p6.mp bY
  cases p with|mk k v=>
  rw[List.reverse_cons,Ex,ai bY.2,mq,mq,HS]
  cases z:n==k with
  |false=>exact Sl
  |true=>
   rw[lookup_none (n:=n) (l:=l) λx aH q=>bY.1 (w1.mpr ⟨x,aH,q.trans (beq_iff_eq.mp z)⟩)]
   rfl
theorem Du {σ:St} (h:σ.lh= []):σ.g=gl σ.hp:=by
 funext x
 unfold St.g gl
 rw[h]
 cases d6 x 100<;>rfl
variable [WP]
theorem fe.back {aP Fr:bh} {ax:Nat->aR} {σ:St} {h:cw} (lu: ∀x∈σ.lu,100<=x) (C:fe aP Fr ax σ.g σ.lu h):fe aP Fr ax (gl σ.hp) [] h:=
 have G: ∀x ao,gl σ.hp x=ab ao->σ.g x=ab ao:=λx ao e=>pk (qP e)▸e
 ⟨C.bE,C.fr,λx ao e=>Hq (rB lu) (C.cell x ao (G x ao e)),λx ao e=>C.ca x ao (G x ao e),λx y ao bo e1 e2=>C.gn x y ao bo (G x ao e1) (G y bo e2)⟩
theorem zA {h:cw} {b:aR} (n:h.objs.size<=b) (o:bX):h.get? b≠ab o:=λe=>mv.mpr n (oP e)
theorem fe.fresh {aP Fr:bh} {ax:Nat->aR} {g:Nat->Option cc} {lu:List Nat} {h:cw} (C:fe aP Fr ax g lu h) {b:aR} (N: ∀o,h.get? b≠ab o):aP b=af/\Fr b=af/\ ∀x ao,g x=ab ao->b∉adr ax x ao:=by
 refine⟨?_, ?_,λx ao e m=>ak (lM (C.cell x ao e) b m) N⟩
 ·cases q:aP b with
  |none=>rfl
  |some o=>exact absurd (C.bE _ _ q) (N o)
 ·cases q:Fr b with
  |none=>rfl
  |some o=>exact absurd (C.fr _ _ q).1 (N o)
theorem fe.grow {aP Fr:bh} {ax:Nat->aR} {g:Nat->Option cc} {lu:List Nat} {h h':cw} (C:fe aP Fr ax g lu h) (k: ∀b o,h.get? b=ab o->h'.get? b=ab o):fe aP Fr ax g lu h':=
 ⟨λb o e=>k b o (C.bE b o e),λb o e=> ⟨k b o (C.fr b o e).1,(C.fr b o e).2⟩,
  λx ao e=>ix (dT.refl _) (λ_ h=>h) (λ_ _=>rfl) (λa aE=>ak (lM (C.cell x ao e) a aE) λo ap=>by rw[ap,k _ _ ap]) rfl rfl (C.cell x ao e),C.ca,C.gn⟩
theorem aX.begin {aP Fr:bh} {ax:Nat->aR} {hp:b5} {base:cw} {s:az} {full:List ae} {bI:List ah} {a8 ex:List Nat} {h₀:cw} {t:Nat} (C:fe aP Fr ax (gl hp) [] s.heap) (ag:dT base.get? aP) (ij:bC (ec aP ax (dO (gl hp) [])) full bI) (bY:a8.Nodup)
  (vf:h₀.Ns s.heap.objs.size λx=> ((a8.map nm).zip bI).reverse.lookup x) (k: ∀b o,s.heap.get? b=ab o->h₀.get? b=ab o):
  aX ⟨Fr,s.heap.objs.size,base,s.gens,s.os,λ_=>af⟩ ⟨aP,ax,⟨locs a8 full ex,hp,[],[]⟩⟩ {s with heap:=h₀,toks:=t}:=by
 have Dg:St.g ⟨locs a8 full ex,hp,[],[]⟩=gl hp:=Du rfl
 have f:=C.fresh (zA (fj _))
 refine⟨?_,⟨⟨_,vf,λn av e=> ?_⟩,⟨f.1,f.2.1⟩,λx ao e=>f.2.2 x ao (by rw[<-Dg];exact e),λx aH=>absurd aH eI⟩,ag,rfl,rfl,λ_ _ e=>a3 e⟩
 ·show fe aP Fr ax (St.g ⟨locs a8 full ex,hp,[],[]⟩) [] h₀
  rw[Dg]
  exact C.grow k
 ·refine ak (abp ij (by rw[<-NL (ex:=ex)];exact e)) λv q=> ⟨v, ?_, ?_⟩
  ·rw[abC]
   ·exact q.1
   ·rw[AK]
    exact List.Nodup.sublist (List.take_sublist _ _) (OY bY)
  ·show ec aP ax (dO (St.g ⟨locs a8 full ex,hp,[],[]⟩) []) av v
   rw[Dg]
   exact q.2
theorem aX.aaQ {aP Fr:bh} {ax:Nat->aR} {hp:b5} {base:cw} {s s':az} {loc:List (Nat×Option ae)} {L:aR} {pin:Nat->Option aR} {T:bG} (N:aX ⟨Fr,L,base,s.gens,s.os,pin⟩ T s') (x:bG.dS ⟨aP,ax,⟨loc,hp,[],[]⟩⟩ T):Back aP ax hp Fr s T.aP T.ax T.σ.hp s':=
 have dN: ∀y,dO (gl hp) [] y->bG.U ⟨aP,ax,⟨loc,hp,[],[]⟩⟩ y:=λy h=>by
  show dO (St.g ⟨loc,hp,[],[]⟩) [] y
  rw[show St.g ⟨loc,hp,[],[]⟩=gl hp from Du rfl]
  exact h
 ⟨x.bE,λy h=>rB N.lo.lu y (h.elim (λq=>q.2) λq=>absurd q eI) (x.dN y (dN y h)),λy h=>x.ax y (dN y h),N.aY.back N.lo.lu,N.gens,N.os⟩
section
variable {prog:cO} {w:ba} {S fF:cM} {Kf:bZ} {k:Nat} {base:cw}
theorem oG.binds {a:Nat} {p:List Nat×List (Nat×aj)} {o:bX} {fd:jV} {args:List iA} {dflt:List Expr} {fz:List (Option Expr)} {body:List ct} {items:List ah} (D:oG base a p o fd args dflt fz body items) (bY:p.1.Nodup)
  {s:az} (keep: ∀b o,base.get? b=ab o->s.heap.get? b=ab o) {pos:List ae} {vs:List ah} {kw:List (Nat×ae)} {kvs:List (aZ×ah)} {R:ae->ah->Prop} (eK: ∀x v,bq base.get? x v->R (.f x) v) (aW:bC R pos vs) (aS:hZ R kw kvs)
  (hz:ll (k7 p.1 pos) kw=aa) {full:List ae} (ag:gx p.2 p.1 pos kw=ab full): ∃bI,bC R full bI/\BindsTo s fd ⟨vs,kvs⟩ ((p.1.map nm).zip bI):=by
 have eE:hZ R (p.2.map λd=> (d.1,.f d.2)) (((p.1.map nm).drop (p.1.length-items.length)).zip items):=D.VD.mono λx y q=> ⟨q.1,ak q.2 λz q=>q.1▸eK z _ q.2⟩
 refine ak (Uv eE aS bY aW ag) λbI i=> ⟨bI,i.1,λM A E Q q=> ?_⟩
 have Ni:=Z5 aS hz
 refine Ux D.rf D.E7 (items:=items) (D.Dd.elim .inl λz=> .inr (bT z λt n z=> ⟨t,n,z.1,keep _ _ z.2⟩)) (by rw[eg];exact D.dl) (OY bY) (λx aH=> ?_) Ni.2 (by rw[eg];exact i.2.1) (by rw[eg];exact i.2.2) q
 have m:=Ni.1 x aH
 rw[VK aW,List.map_drop] at m
 exact m
theorem oG.locs {a:Nat} {p:List Nat×List (Nat×aj)} {o:bX} {fd:jV} {args:List iA} {dflt:List Expr} {fz:List (Option Expr)} {body:List ct} {items:List ah} (D:oG base a p o fd args dflt fz body items) {bI:List ah}:
  ∀x∈(p.1.map nm).zip bI,fd.scope.names.lookup x.1=ab .local:=λx aH=>by
 have hm:=tS (f:=(·.1)) aH
 rw[AK] at hm
 exact ak (w1.mp (HU hm)) λn q=>by rw[<-q.2];exact beq_iff_eq.mp (D.loc n q.1)
theorem fu.room {A:c2} (aw:fu A (k+1)):A.depth<recursionLimit:=qa (tW (bf (gH _ _) aw.1)) (cS rfl)
theorem fu.body {A:c2} {fd:jV} {L:aR} {a:aR} (aw:fu A (k+1)):fu (A.deeper (jW fd L a)) k:=by
 refine⟨?_, ?_,aw.2.2⟩
 ·have:=aw.1
  show A.depth+1+3*k<=990
  omega
 ·have:=aw.2.1
  show A.units+3+20*k<=9000
  omega
theorem NE {aP Fr:bh} {ax:Nat->aR} {hp:b5} {s s':az} {loc:List (Nat×Option ae)} {L:aR} {pin:Nat->Option aR} {T:bG} {K:ae->b5->Prop} {R:ny->az->Prop} {g:cE} {f:nx} (N:aX ⟨Fr,L,base,s.gens,s.os,pin⟩ T s') (x:bG.dS ⟨aP,ax,⟨loc,hp,[],[]⟩⟩ T) (ci:(ki K g T.σ).holds)
  (back: ∀eH ρ' dn s' av v,Back aP ax hp Fr s eH ρ' dn s'->ec eH ρ' (dO (gl dn) []) av v->K av dn->R (.ok (.ret v)) s'):AV T f g->R (.ok (.ret (match f with| .ret v=>v|_=> .none))) s':=by
 intro hf
 have B:=N.aaQ x
 cases g with
 |aQ=>rw[hf];exact back _ _ _ _ (.f .none) .none B (show bq _ _ _ from .none) ci
 |c0=>exact ci.elim
 |df=>exact ci.elim
 |hG av=>exact ak hf λv e=>by rw[e.1];exact back _ _ _ _ _ _ B (e.2.glob (gr ci).1 (rB N.lo.lu)) (gr ci).2
theorem Xw {a:Nat} {ex:List Nat} {p:List Nat×List (Nat×aj)} {b:Q7.S} {pt:a4} (D:rO base a p b) (lim:base.NoLimit)
  (snd: ∀(Γ:bM) (env:dm) (sc:cC),Γ.base=base->dk sc env Γ S->ew prog w Γ k S sc env b) (aD:S.clo= []) (nZ:aL a fF.a8=ab p) (n1:aL a fF.pt=ab pt) (mS: ∀full hp K,pt full hp K->bH S p.1 ex b full hp K):
  lC prog w fF base (k+1) a:=by
 intro rc zS e1 e2
 cases bQ (nZ.symm.trans e1)
 cases bQ (n1.symm.trans e2)
 intro A s aP Fr ax hp pos vs kw kvs full K R aw C ag aW aS hz i9 g1 g2 h back
 have keep: ∀b o,base.get? b=ab o->s.heap.get? b=ab o:=λb o e=>C.bE b o (ag b o e)
 refine QZ D.fd λo fd args dflt fz body F=>ak F λitems g9=> ?_
 have F:=g9.1
 exact ak (F.binds D.bY (s:=s) keep (λx v q=>bq.mono ag q) aW aS hz i9) λbI uH=>codeAny_call_def aw.room (keep _ _ F.at_) F.data (lim.keeps keep) (F.code.keeps keep) F.jC uH.2 F.zB F.locs (λh₀ vf DH=>
  (snd _ (jW fd s.heap.objs.size a) fd.scope rfl ⟨rfl,F.kind,rfl,F.i8,F.blt,λn v e=>by rw[aD] at e;exact a3 e⟩).b body g9.2
   aw.body (aX.begin (ex:=ex) C ag uH.1 D.bY vf DH) (mS full hp K h) λa5 g f s' x cR hf ci=>by cases f<;>exact NE cR x ci back hf) F.cB F.gen F.kind
end
end
section
theorem Z4 {n:Nat} {rest:List Nat} (h:iM n rest=ac) {kw:List (Nat×ae)}:ll rest kw=aa->aL n kw=af:=by
 induction kw with
 |nil=>exact λ_=>rfl
 |cons a kw ai=>
  intro g
  show(match bA a.1 n with
   |true=>ab a.2
   |false=>aL n kw)=af
  cases q:bA a.1 n with
  |true=>rw[<-fh q,(cU g).1] at h;exact cm h.symm
  |false=>exact ai (cU g).2.2
theorem abQ {n:Nat} {α:Type} {a8:List Nat}: ∀{l:List α},iM n a8=ac->iM n (k7 a8 l)=ac:=by
 induction a8 with
 |nil=>exact λ{l} _=>by cases l<;>rfl
 |cons p a8 ai=>exact λ{l} h=>by cases l with
  |nil=>exact h
  |cons _ _=>exact ai (AO.mp h).2
theorem o2 {ax ρ':Nat->aR} {x:Nat} (h:ρ' (2*x)=ax (2*x)/\ρ' (2*x+1)=ax (2*x+1)) (cB:cc):adr ρ' x cB=adr ax x cB:=by
 cases cB with
 |inst _ _ _=>show [_,_]= [_,_];rw[h.1,h.2]
 |list _=>show [_]= [_];rw[h.1]
 |dict _ _=>show [_]= [_];rw[h.1]
variable [WP]
theorem fe.add {aP Fr:bh} {ax ρ':Nat->aR} {g g':Nat->Option cc} {lu sZ:List Nat} {h:cw} (C:fe aP Fr ax g lu h) {y:Nat} {ao:cc} (pQ: ∀x,x≠y->ρ' (2*x)=ax (2*x)/\ρ' (2*x+1)=ax (2*x+1))
  (old: ∀x cB,g' x=ab cB->(x=y/\cB=ao)\/(x≠y/\g x=ab cB)) (dN: ∀x,dO g lu x->x≠y/\dO g' sZ x) (c:lA aP ρ' (dO g' sZ) h y ao)
  (b2: ∀a∈adr ρ' y ao,aP a=af/\Fr a=af/\ ∀x cB,g x=ab cB->a∉adr ax x cB):fe aP Fr ρ' g' sZ h:=by
 refine⟨C.bE,C.fr,λx cB e=> (old x cB e).elim (λq=>by rw[q.1,q.2];exact c) λq=>ix (dT.refl _) (λx u=> (dN x u).2) (λx u=> (pQ x (dN x u).1).1) (λ_ _=>rfl) (pQ x q.1).1 (pQ x q.1).2 (C.cell x cB q.2),
  λx cB e a aE=> (old x cB e).elim (λq=> ?_) λq=>C.ca x cB q.2 a (o2 (pQ x q.1) cB▸aE),λx z cB bo e1 e2 ne a aE ag=> (old x cB e1).elim (λq=> (old z bo e2).elim (λfa=>ne (q.1.trans fa.1.symm)) λfa=> ?_) λq=> (old z bo e2).elim (λfa=> ?_) λfa=> ?_⟩
 ·rw[q.1,q.2] at aE
  exact⟨(b2 a aE).1,(b2 a aE).2.1⟩
 ·rw[q.1,q.2] at aE
  exact(b2 a aE).2.2 z bo fa.2 (o2 (pQ z fa.1) bo▸ag)
 ·rw[fa.1,fa.2] at ag
  exact(b2 a ag).2.2 x cB q.2 (o2 (pQ x q.1) cB▸aE)
 ·exact C.gn x z cB bo q.2 fa.2 ne a (o2 (pQ x q.1) cB▸aE) (o2 (pQ z fa.1) bo▸ag)
theorem Dt {id:Nat} {ao:cc} {hp:b5} (h:id<100) (y:Nat):gl ((id,ao)::hp) y=if y=id then ab ao else gl hp y:=by
 show(match d6 y 100 with
  |true=> (match bA id y with
   |true=>ab ao
   |false=>aL y hp)
  |false=>af)=if y=id then ab ao else(match d6 y 100 with
  |true=>aL y hp
  |false=>af)
 cases q:d6 y 100 with
 |true=>cases z:bA id y with
  |true=>exact(if_pos (fh z).symm).symm
  |false=>exact(if_neg (iZ (w5 z))).symm
 |false=>exact(if_neg λz=>by rw[z,show d6 id 100=aa from mr h] at q;exact cm q.symm).symm
noncomputable def oA (ax:Nat->aR) (id:Nat) (x d:aR):Nat->aR:=λn=>if n=2*id then x else if n=2*id+1 then d else ax n
theorem AM {ax:Nat->aR} {id:Nat} {x d:aR}:oA ax id x d (2*id)=x:=if_pos rfl
theorem Hg {ax:Nat->aR} {id:Nat} {x d:aR}:oA ax id x d (2*id+1)=d:=(if_neg (Si _)).trans (if_pos rfl)
theorem Hh {ax:Nat->aR} {id:Nat} {x d:aR} {y:Nat} (h:y≠id):oA ax id x d (2*y)=ax (2*y)/\oA ax id x d (2*y+1)=ax (2*y+1):=
 ⟨(if_neg (by omega)).trans (if_neg (by omega)),(if_neg (by omega)).trans (if_neg (by omega))⟩
section
variable {prog:cO} {w:ba} {S fF:cM} {Kf:bZ} {k:Nat} {base:cw}
theorem EP {C e7 id fU:Nat} {p:List Nat×List (Nat×aj)} {eM:a4} (X:Kf.In base) (hm:rZ Kf C=aa) (bj:hL Kf (.ref C) "__init__" =ab (ab (.ref e7))) (hf:oT Kf (.ref e7)=ab (.type "function"))
  (init:lC prog w S base k e7) (qU:aL e7 S.a8=ab (fU::p.1,p.2)) (qV:aL e7 S.pt=ab eM) (qW:iM fU p.1=ac) (hy:id<100)
  {A:c2} {s:az} {aP Fr:bh} {ax:Nat->aR} {hp:b5} {pos:List ae} {vs:List ah} {kw:List (Nat×ae)} {kvs:List (aZ×ah)} {full:List ae} {K:b5->Prop} {R:ny->az->Prop}
  (aw:fu A (k+1)) (Cl:fe aP Fr ax (gl hp) [] s.heap) (ag:dT base.get? aP) (aW:bC (ec aP ax (dO (gl hp) [])) pos vs) (aS:hZ (ec aP ax (dO (gl hp) [])) kw kvs) (hz:ll (k7 p.1 pos) kw=aa) (i9:gx p.2 p.1 pos kw=ab full) (g1:lN pos=aa) (g2:o3 kw=aa)
  (YL:aL id hp=af) (h:eM (.aq id::full) ((id,.inst C [] [])::hp) λr dn=>r= .f .none/\K dn)
  (back: ∀eH ρ' dn s' x,Back aP ax hp Fr s eH ρ' dn s'->ec eH ρ' (dO (gl dn) []) (.aq id) x->K dn->R (.ok (.ret x)) s'):nA (bp prog w) A (.call (.ref C) ⟨vs,kvs⟩) R s:=by
 have B4:Kf.In s.heap:=λa o e=>Cl.bE a o (ag a o (X a o e))
 cases s with|mk cy yH d t os=>
 have iw:=Cl.grow (h':=(cy.push xc).push (kY C cy.objs.size)) λb o e=>t5 _ (t5 _ e)
 have X9:gl hp id=af:=by unfold gl;rw[YL];cases d6 id 100<;>rfl
 have dN: ∀y,dO (gl hp) [] y->y≠id/\dO (gl ((id,cc.inst C [] [])::hp)) [] y:=λy u=>u.elim
  (λu=>have n:y≠id:=λq=>by rw[q,X9] at u;exact cm u.1
   ⟨n,.inl ⟨by rw[Dt hy,if_neg n];exact u.1,u.2⟩⟩) λu=>absurd u eI
 have B3:dO (gl ((id,cc.inst C [] [])::hp)) [] id:= .inl ⟨by rw[Dt hy,if_pos rfl];rfl,hy⟩
 have Jp: ∀av v,ec aP ax (dO (gl hp) []) av v->ec aP (oA ax id (cy.objs.size+1) cy.objs.size) (dO (gl ((id,cc.inst C [] [])::hp)) []) av v:=λav v h=>h.mono (dT.refl _) (λy u=> (dN y u).2) λy u=> (Hh (dN y u).1).1
 have iW:fe aP Fr (oA ax id (cy.objs.size+1) cy.objs.size) (gl ((id,cc.inst C [] [])::hp)) [] ((cy.push xc).push (kY C cy.objs.size)):=by
  refine iw.add (y:=id) (ao:= .inst C [] []) (λx n=>Hh n) (λx cB e=> ?_) dN ⟨?_,[],0, ?_,fw _,.nil,.nil⟩ λa aE=> ?_
  ·rw[Dt hy] at e
   by_cases n:x=id
   ·rw[if_pos n] at e;exact .inl ⟨n,(bQ e).symm⟩
   ·rw[if_neg n] at e;exact .inr ⟨n,e⟩
  ·rw[AM,Hg];heap_get
  ·rw[Hg]
   show((cy.push xc).push (kY C cy.objs.size)).get? cy.objs.size=ab xc
   heap_get
  ·refine Cl.fresh (zA ?_)
   have aE:a∈ [oA ax id (cy.objs.size+1) cy.objs.size (2*id),oA ax id (cy.objs.size+1) cy.objs.size (2*id+1)]:=aE
   rw[AM,Hg] at aE
   cases aE with
   |head=>exact ky _
   |tail _ aE=>exact fi (jU.mp aE).symm
 have DB:gx p.2 (fU::p.1) (.aq id::pos) kw=ab (.aq id::full):=by
  show(match aL fU kw with
   |none=>match gx p.2 p.1 pos kw with
    |some r=>ab (ae.aq id::r)
    |none=>af
   |some _=>af)=_
  rw[Z4 (abQ qW) hz,i9]
 refine make_core (makes_of B4 hm) (looks_findIn B4 bj) (λself=>bind_fn B4 self hf) (.inl rfl) ?_
 refine init (fU::p.1,p.2) eM qU qV _ _ aP Fr _ ((id,.inst C [] [])::hp) (.aq id::pos) _ kw kvs (.aq id::full) _ _ ⟨?_, ?_,aw.2.2⟩ iW ag (.cons (show ec aP (oA ax id (cy.objs.size+1) cy.objs.size) _ (.aq id) _ from⟨B3,by rw[AM]⟩) (aW.mono Jp))
  (aS.mono λ_ _ q=> ⟨q.1,Jp _ _ q.2⟩) hz DB (i4 (mr hy) g1) g2 h λeH iV dn s' av v B yN ci=> ?_
 ·have:=aw.1
  show A.depth+1+3*k<=990
  omega
 ·have:=aw.2.1
  show A.units+1+20*k<=9000
  omega
 ·rw[ci.1] at yN
  exact⟨k9 yN,back eH iV dn s' _ ⟨B.bE,λy u=>B.dN y (dN y u).2,λy u=> (B.ax y (dN y u).2).trans (Hh (dN y u).1).1,B.aY,B.gens,B.os⟩ ⟨B.dN id B3,by rw[B.ax id B3,AM]⟩ ci.2⟩
theorem Xz {C e7 id:Nat} {fU:Nat} {p:List Nat×List (Nat×aj)} {pt eM:a4} (X:Kf.In base) (hm:rZ Kf C=aa) (bj:hL Kf (.ref C) "__init__" =ab (ab (.ref e7))) (hf:oT Kf (.ref e7)=ab (.type "function"))
  (init:lC prog w S base k e7) (qU:aL e7 S.a8=ab (fU::p.1,p.2)) (qV:aL e7 S.pt=ab eM) (qW:iM fU p.1=ac) (nZ:aL C fF.a8=ab p) (n1:aL C fF.pt=ab pt) (hy:id<100)
  (mS: ∀full hp K,pt full hp K->aL id hp=af/\eM (.aq id::full) ((id,.inst C [] [])::hp) λr dn=>r= .f .none/\(aL id dn).isSome=aa/\K (.aq id) dn):
  lC prog w fF base (k+1) C:=by
 intro rc zS e1 e2
 cases bQ (nZ.symm.trans e1)
 cases bQ (n1.symm.trans e2)
 intro A s aP Fr ax hp pos vs kw kvs full K R aw Cl ag aW aS hz i9 g1 g2 h back
 exact EP X hm bj hf init qU qV qW hy aw Cl ag aW aS hz i9 g1 g2 (mS full hp K h).1 (mS full hp K h).2 λeH ρ' dn s' x B a ci=>back eH ρ' dn s' _ x B a ci.2
end
end
section
open Classical in
def hy (own:aR->Prop) (h:cw) (Fr:bh):bh:=λb=>if own b then h.get? b else Fr b
theorem vb {own:aR->Prop} {h:cw} {Fr:bh} {b:aR} (o:own b):hy own h Fr b=h.get? b:=if_pos o
theorem vc {own:aR->Prop} {h:cw} {Fr:bh} {b:aR} (o: ¬own b):hy own h Fr b=Fr b:=if_neg o
noncomputable def r9:List ae->Bool
 | []=>aa
 | .f _::r=>r9 r
 |_=>ac
noncomputable def y4:ae->Bool
 | .f _=>aa
 |_=>ac
theorem Jh {l:List ae}:r9 l=aa-> ∀v∈l,y4 v=aa:=by
 induction l with
 |nil=>exact λ_ v h=>absurd h eI
 |cons a l ai=>cases a with
  |f x=>exact λg v h=>by cases h with
   |head=>rfl
   |tail _ h=>exact ai g v h
  |_=>exact cm
theorem Uu {ds:List (Nat×aj)} {kw:List (Nat×ae)} {a8:List Nat}: ∀{pos full:List ae},gx ds a8 pos kw=ab full->(∀v∈full,y4 v=aa)-> ∀v∈pos,y4 v=aa:=by
 induction a8 with
 |nil=>exact λ{pos full} h _=>by cases pos with
  |nil=>exact λv h=>absurd h eI
  |cons _ _=>exact a3 h
 |cons p a8 ai=>
  intro pos full h g
  cases pos with
  |nil=>exact λv h=>absurd h eI
  |cons v vs=>
    refine CD h λr _ e kD=> ?_
    rw[kD] at g
    exact wY.mpr ⟨g v et,ai e λu d3=>g u (eZ _ d3)⟩
theorem Uw {ds:List (Nat×aj)} {n:Nat} {v:ae} {kw:List (Nat×ae)} (e:aL n kw=ab v) {a8:List Nat}: ∀{pos full:List ae},gx ds a8 pos kw=ab full->iM n (k7 a8 pos)=aa->v∈full:=by
 induction a8 with
 |nil=>exact λ{pos full} h g=>by cases pos<;>exact cm g
 |cons p a8 ai=>
  intro pos full h g
  cases pos with
  |cons w pos=>exact CD h λr _ e2 kD=>kD▸eZ _ (ai e2 g)
  |nil=>
    refine K5 h λu r o e2 kD=> ?_
    rw[kD]
    have g:(bA p n||iM n a8)=aa:=g
    cases q:bA p n with
    |true=>
     rw[<-fh q] at e
     exact o.elim (λo=>by rw[o] at e;rw[bQ e];exact et) λo=>by rw[o.1] at e;exact a3 e
    |false=>rw[q] at g;exact eZ _ (ai e2 (by cases a8<;>exact g))
theorem Nn {rest:List Nat} {kw:List (Nat×ae)}:ll rest kw=aa-> ∀x∈kw,aL x.1 kw=ab x.2/\iM x.1 rest=aa:=by
 induction kw with
 |nil=>exact λ_ x h=>absurd h eI
 |cons a kw ai=>
  intro g x h
  have g:=cU g
  cases h with
  |head=>
   refine⟨?_,g.1⟩
   show(match bA a.1 a.1 with
    |true=>ab a.2
    |false=>aL a.1 kw)=_
   rw[Bf]
  |tail _ h=>
   have i:=ai g.2.2 x h
   refine⟨?_,i.2⟩
   show(match bA a.1 x.1 with
    |true=>ab a.2
    |false=>aL x.1 kw)=_
   cases q:bA a.1 x.1 with
   |false=>exact i.1
   |true=>
    have g2:=g.2.1
    rw[fh q,i.1] at g2
    exact cm g2
variable [WP]
theorem ec.fast {F g9:bh} {ax ρ':Nat->aR} {U U':Nat->Prop} (k:dT F g9) {a:ae} {v:ah} (h:ec F ax U a v) (g:y4 a=aa):ec g9 ρ' U' a v:=by
 cases a with
 |f x=>exact bq.mono k h
 |_=>exact cm g
theorem XN {F g9:bh} {ax:Nat->aR} {U:Nat->Prop} (k:dT F g9) {es:List cT}: ∀{l:List aj},bC (λa e=>ec F ax U a (e:cT).val/\glob a=aa) (l.map .f) es->ez g9 l (es.map (·.val)):=by
 induction es with
 |nil=>exact λ{l} h=>by cases l with
  |nil=>exact .nil
  |cons _ _=>cases h
 |cons e es ai=>exact λ{l} h=>by cases l with
  |nil=>cases h
  |cons v l=>cases h with
   |cons h t=>exact .cons (bq.mono k h.1) (ai t)
theorem fe.hide {aP Fr:bh} {ax:Nat->aR} {g g':Nat->Option cc} {lu sZ:List Nat} {h:cw} (C:fe aP Fr ax g lu h) {own:aR->Prop} (bW: ∀b,own b->aP b=af) (sub: ∀x ao,g' x=ab ao->g x=ab ao) (c: ∀x ao,g' x=ab ao->lA aP ax (dO g' sZ) h x ao)
  (b2: ∀x ao,g' x=ab ao-> ∀a∈adr ax x ao,¬own a):fe aP (hy own h Fr) ax g' sZ h:=by
 refine⟨C.bE,λb o e=> ?_,c,λx ao e a aE=> ?_,λx y ao bo e1 e2=>C.gn x y ao bo (sub x ao e1) (sub y bo e2)⟩
 ·by_cases z:own b
  ·rw[vb z] at e;exact⟨e,bW b z⟩
  ·rw[vc z] at e;exact C.fr b o e
 ·have z:=C.ca x ao (sub x ao e) a aE
  exact⟨z.1,by rw[vc (b2 x ao e a aE)];exact z.2⟩
theorem fe.QO {aP eH Fr:bh} {ax:Nat->aR} {g:Nat->Option cc} {lu:List Nat} {h h':cw} (C:fe aP Fr ax g lu h) {own:aR->Prop} (bW: ∀b,own b->Fr b=af) (all: ∀x ao,g x=ab ao-> ∀a∈adr ax x ao,own a) (l:dT aP eH)
  (bE: ∀b o,eH b=ab o->h'.get? b=ab o) (fr: ∀b o,hy own h Fr b=ab o->h'.get? b=ab o/\eH b=af):fe eH Fr ax g lu h':=
 ⟨bE,λb o e=>fr b o (by rw[vc λz=>a3 ((bW b z).symm.trans e)];exact e),λx ao e=>ix l (λ_ h=>h) (λ_ _=>rfl) (λa aE=>ak (lM (C.cell x ao e) a aE) λo q=>by rw[q,(fr a o (by rw[vb (all x ao e a aE)];exact q)).1]) rfl rfl (C.cell x ao e),
  λx ao e a aE=> ⟨ak (lM (C.cell x ao e) a aE) λo q=> (fr a o (by rw[vb (all x ao e a aE)];exact q)).2,(C.ca x ao e a aE).2⟩,C.gn⟩
theorem fe.fast {aP Fr:bh} {ax:Nat->aR} {g:Nat->Option cc} {lu:List Nat} {h:cw} (C:fe aP Fr ax g lu h) {a:aR} {o:bX} (aE:h.get? a=ab o) (hx:aP a=af) (DF:Fr a=af) (aD: ∀x ao,g x=ab ao->a∉adr ax x ao):fe (aP.ins a o) Fr ax g lu h:=by
 refine⟨λb x e=> ?_,λb x e=> ⟨(C.fr b x e).1, ?_⟩,λx ao e=>ix (bh.yZ (.inl hx)) (λ_ h=>h) (λ_ _=>rfl) (λ_ _=>rfl) rfl rfl (C.cell x ao e),λx ao e b ag=> ⟨?_,(C.ca x ao e b ag).2⟩,C.gn⟩
 ·by_cases q:b=a
  ·rw[q,bh.gc] at e;rw[q,<-bQ e];exact aE
  ·rw[bh.gb _ _ q] at e;exact C.bE b x e
 ·rw[bh.gb _ _ λq=>by rw[q,DF] at e;exact a3 e];exact(C.fr b x e).2
 ·rw[bh.gb _ _ λq=>aD x ao e (by rw[<-q];exact ag)];exact(C.ca x ao e b ag).1
section
variable {prog:cO} {w:ba} {S fF:cM} {Kf:bZ} {k:Nat} {base:cw}
theorem qQ (x:Nat):gl [] x=af:=by unfold gl;cases d6 x 100<;>rfl
theorem Jo {aP:bh} {ax ρ':Nat->aR} {U U':Nat->Prop} {ds:List (Nat×aj)} {a8:List Nat} {pos full:List ae} {vs:List ah} {kw:List (Nat×ae)} {kvs:List (aZ×ah)} (aW:bC (ec aP ax U) pos vs) (aS:hZ (ec aP ax U) kw kvs) (hz:ll (k7 a8 pos) kw=aa)
  (i9:gx ds a8 pos kw=ab full) (lg:r9 full=aa):bC (ec aP ρ' U') pos vs/\hZ (ec aP ρ' U') kw kvs:=
 ⟨aW.EX λa aE _ h=>h.fast (dT.refl _) (Uu i9 (Jh lg) a aE),aS.EX λa aE _ h=> ⟨h.1,h.2.fast (dT.refl _) (Jh lg _ (Uw (Nn hz a aE).1 i9 (Nn hz a aE).2))⟩⟩
theorem Xx {C e7:Nat} {fU:Nat} {p:List Nat×List (Nat×aj)} {pt eM:a4} (X:Kf.In base) (hm:rZ Kf C=aa) (bj:hL Kf (.ref C) "__init__" =ab (ab (.ref e7))) (hf:oT Kf (.ref e7)=ab (.type "function"))
  (init:lC prog w S base k e7) (qU:aL e7 S.a8=ab (fU::p.1,p.2)) (qV:aL e7 S.pt=ab eM) (qW:iM fU p.1=ac) (nZ:aL C fF.a8=ab p) (n1:aL C fF.pt=ab pt)
  (mS: ∀full hp K,pt full hp K->r9 full=aa/\eM (.aq 99::full) [(99,.inst C [] [])] λr dn=>r= .f .none/\ ∃ns l,dn= [(99,.inst C ns (l.map .f))]/\K (.f (.inst C ns l)) hp):
  lC prog w fF base (k+1) C:=by
 intro rc zS e1 e2
 cases bQ (nZ.symm.trans e1)
 cases bQ (n1.symm.trans e2)
 intro A s aP Fr ax hp pos vs kw kvs full K R aw Cl ag aW aS hz i9 g1 g2 h back
 have h:=mS full hp K h
 have f6:=Jo (ρ':=ax) (U':=dO (gl []) []) aW aS hz i9 h.1
 refine EP (Fr:=hy (λb=> ∃y ao,gl hp y=ab ao/\b∈adr ax y ao) s.heap Fr) (hp:= []) X hm bj hf init qU qV qW (by decide) aw
  (Cl.hide (λb o=>bT o λy ao o=> (Cl.ca y ao o.1 b o.2).1) (λx ao e=>a3 ((qQ x).symm.trans e)) (λx ao e=>a3 ((qQ x).symm.trans e)) λx ao e=>a3 ((qQ x).symm.trans e))
  ag f6.1 f6.2 hz i9 g1 g2 rfl h.2 λeH ρ' dn s' x B a ci=>bT ci λns l ci=> ?_
 have wH:=B.aY
 rw[ci.1] at wH
 have own: ∀{b:aR},hy (λb=> ∃y ao,gl hp y=ab ao/\b∈adr ax y ao) s.heap Fr b=af-> ∀y ao,gl hp y=ab ao->b∉adr ax y ao:=λ{b} n y ao e ag=>ak (lM (Cl.cell y ao e) b ag) λo q=>by
  rw[vb ⟨y,ao,e,ag⟩,q] at n;exact a3 n.symm
 have out: ∀{b:aR},hy (λb=> ∃y ao,gl hp y=ab ao/\b∈adr ax y ao) s.heap Fr b=af->Fr b=af:=λ{b} n=>by
  rw[vc λz=>bT z λy ao z=>own n y ao z.1 z.2] at n;exact n
 have c:=wH.cell 99 (.inst C ns (l.map .f)) rfl
 have xI:=wH.ca 99 (.inst C ns (l.map .f)) rfl _ (.head _)
 have ad:=wH.ca 99 (.inst C ns (l.map .f)) rfl _ (.tail _ (.head _))
 refine bT c.2 λes n q=> ?_
 have ne:ρ' (2*99+1)≠ρ' (2*99):=λz=>by have hF:=q.1;rw[z,c.1] at hF;cases hF
 have U:=Cl.QO (λb o=>bT o λy ao o=> (Cl.ca y ao o.1 b o.2).2) (λx ao e a aE=> ⟨x,ao,e,aE⟩) B.bE B.aY.bE B.aY.fr
 have TR:=(U.fast c.1 xI.1 (out xI.2) (own xI.2)).fast q.1 (by rw[bh.gb _ _ ne];exact ad.1) (out ad.2) (own ad.2)
 have e3:dT eH _:=(bh.yZ (o:=kY C (ρ' (2*99+1))) (.inl xI.1)).trans (bh.yZ (o:=eD es n) (.inl (by rw[bh.gb _ _ ne];exact ad.1)))
 refine back _ ax hp s' (.f (.inst C ns l)) _ ⟨B.bE.trans e3,λ_ h=>h,λ_ _=>rfl,TR,B.gens,B.os⟩ ?_ ci.2
 rw[a.2]
 exact bq.inst (by rw[bh.gb _ _ ne.symm];exact bh.gc _ _ _) (bh.gc _ _ _) q.2.2.1 (XN e3 q.2.2.2)
end
end
theorem MJ {n m:Nat} (h:n<m):xl (n:Int) m=ab n:=by
 unfold xl
 simp only[if_neg (HF.mpr (kV n)),decide_eq_true (kV n),decide_eq_true (AZ.mpr h),Rh,if_true]
 rfl
theorem E4 {n m:Nat} (h:n+1<=m):tP n+(m:Int)=((m- (n+1):Nat):Int):=by omega
theorem Zc {n m:Nat} (h:n+1<=m):xl (tP n) m=ab (m- (n+1)):=by
 unfold xl
 simp only[if_pos (HE n),E4 h,decide_eq_true (kV (m- (n+1))),decide_eq_true (AZ.mpr (Nat.sub_lt (qa (w7 n) h) (w7 n))),Rh,if_true]
 rfl
theorem M7 {G:Prop} {α:Type} {l:List α} {i:Int} {v:α} (h:gf l i=ab v) (k: ∀n:Nat,i=(n:Int)->n<l.length->l[n]? =ab v->G) (kb: ∀n:Nat,i=tP n->n+1<=l.length->l[l.length- (n+1)]? =ab v->G):G:=by
 cases i with
 |ofNat n=>exact k n rfl (A5.mp h).1 h
 |negSucc n=>
  have h:(match gG (n+1) l.length with
   |true=>l[l.length- (n+1)]?
   |false=>af)=ab v:=h
  revert h
  cases q:gG (n+1) l.length with
  |true=>exact kb n rfl (cS q)
  |false=>exact λh=>by cases h
theorem M8 {α:Type} {l:List α} {i:Int} {v:α} (h:gf l i=ab v) (eC:l.length<=16777216): ∃k,xl i l.length=ab k/\l[k]? =ab v/\ -(2 ^ 63)<=i/\i<2 ^ 63:=
 M7 h (λn e l cN=> ⟨n,by rw[e];exact MJ l,cN,by omega,by omega⟩) λn e l cN=> ⟨_,by rw[e];exact Zc l,cN,by omega,by omega⟩
theorem U5 {α:Type} (l:List α) (a b:Nat):(l.drop (min a l.length)).take (min b l.length-min a l.length)=(l.drop a).take (b-a):=by
 by_cases aE:a<=l.length
 ·rw[w4 aE]
  by_cases ag:b<=l.length
  ·rw[w4 ag]
  ·have ag:=HZ ag
   rw[H2 ag,HW (fi A7),HW (by rw[A7];exact Sh ag a)]
 ·have aE:=HZ aE
  rw[H2 aE,HJ aE,HJ (fj _),tT,tT]
theorem adB {α:Type} (l:List α) (a n:Nat) (h:a+n<=l.length):(Bb n).filterMap (λk=>l[a+k]?)=(l.drop a).take n:=by
 induction n with
 |zero=>rfl
 |succ n ai=>
  rw[List.range_succ,List.filterMap_append,ai (Nat.le_of_succ_le h),List.take_succ,RS,HL,List.filterMap_nil]
  cases l[a+n]? <;>rfl
theorem Pq {α:Type} (l:List α) (a b:Nat) (ag:b<=l.length):((xm a b 1).filterMap (l[·]?))=(l.drop a).take (b-a):=by
 rw[S8,List.filterMap_map]
 by_cases h:a<=b
 ·exact adB l a (b-a) (by rw[Nat.add_sub_cancel' h];exact ag)
 ·rw[H5 (HZ h)];rfl
noncomputable def part (v:aj):Option (Option Int):=match v with
 | .none=>ab af
 | .int i=>ab (ab i)
 |_=>af
noncomputable def nN (n:Nat) (v:Option Int) (d:Int):Int:=match v with
 |none=>d
 |some i=>max 0 (min (if i<0 then i+n else i) n)
theorem U6 (n k:Nat):max 0 (min (if(k:Int)<0 then(k:Int)+n else k) n)=((min k n:Nat):Int):=by
 rw[if_neg (HF.mpr (kV k))]
 cases Sa k n with
 |inl h=>rw[w4 h,Rz (oH.mpr h),HD (kV k)]
 |inr h=>rw[H2 h,Int.min_eq_right (oH.mpr h),HD (kV n)]
theorem U4 (n k:Nat):max 0 (min (if tP k<0 then tP k+n else tP k) n)=((min (n- (k+1)) n:Nat):Int):=by
 rw[if_pos (HE k),w4 (oK n (k+1))]
 cases Sa (k+1) n with
 |inl h=>rw[E4 h,Rz (oH.mpr (oK n (k+1))),HD (kV _)]
 |inr h=>
  rw[H5 h]
  exact Int.max_eq_left (AX (Int.min_le_left _ _) (by omega))
theorem MK {n d p:Nat} {v:aj} (hd:d<=n) (h:(match v with
  | .none=>ab d
  | .int (.ofNat k)=>ab k
  | .int (.negSucc k)=>ab (n- (k+1))
  |_=>af)=ab p): ∃o,part v=ab o/\nN n o d=((min p n:Nat):Int):=by
 cases v with
 |none=>exact⟨af,rfl,by rw[<-bQ h,w4 hd];rfl⟩
 |int i=>cases i with
  |ofNat k=>exact⟨_,rfl,(U6 n k).trans (by rw[<-bQ h])⟩
  |negSucc k=>exact⟨_,rfl,(U4 n k).trans (by rw[<-bQ h])⟩
 |_=>exact a3 h
theorem Qf {α:Type} {l r:List α} {a b:aj} (h:iv l a b=ab r): ∃(lo bj:Option Int) (p q:Nat),part a=ab lo/\part b=ab bj/\nN l.length lo 0=p/\nN l.length bj l.length=q/\q<=l.length/\(l.drop p).take (q-p)=r:=by
 unfold iv at h
 revert h
 cases e1:N0 l a with
 |none=>exact λh=>a3 h
 |some lo=>cases e2:Mx l b with
  |none=>exact λh=>a3 h
  |some bj=>exact λh=>ak (MK (n:=l.length) (d:=0) (fw _) e1) λp P=>ak (MK (n:=l.length) (d:=l.length) (fj _) e2) λq Q=>
    ⟨p,q,_,_,P.1,Q.1,P.2,Q.2,Sg _ _,(U5 l lo bj).trans (bQ h)⟩
theorem agZ (lo bj:Option Int) (n:Nat):Bm lo bj 1 n=xm (nN n lo 0) (nN n bj n) 1:=by
 unfold Bm nN
 cases lo<;>cases bj<;>rfl
theorem af6 (items:List ah) (lo bj:Option Int):slicePick items.toArray lo bj af=((xm (nN items.length lo 0) (nN items.length bj items.length) 1).filterMap (items[·]?)).toArray:=by
 unfold slicePick sliceBounds nN
 cases lo<;>cases bj<;>simp
section
theorem ag5 {slice:Expr} {o i:ah}:zD slice=aa->subscripted slice ac o i=operate [o,i] (getItem o i):=by
 cases slice with
 |Slice=>exact cm
 |_=>exact λ_=>rfl
theorem qr {α β:Type} {R:α->β->Prop} {l:List α} {vs:List β} (h:bC R l vs): ∀{n:Nat} {v:α},l[n]? =ab v-> ∃x,vs[n]? =ab x/\R v x:=by
 induction h with
 |nil=>exact λe=>a3 e
 | @cons a b l m h t ai=>
  intro n v e
  cases n with
  |zero=>exact⟨b,rfl,bQ e▸h⟩
  |succ n=>exact ai e
theorem y2 {G:Prop} {i r:ae} {F:Int->Option ae} (h:(match i with
  | .f (.int i)=>F i
  |_=>af)=ab r) (k: ∀j,i= .f (.int j)->F j=ab r->G):G:=by
 cases i with
 |f v=>cases v with
  |int j=>exact k j rfl h
  |_=>exact a3 h
 |_=>exact a3 h
theorem tn {α β:Type} {l:List α} {o:Option β} {r:β} (h:(match cn l with
  |true=>o
  |false=>af)=ab r):cn l=aa/\o=ab r:=by
 cases e:cn l with
 |true=>rw[e] at h;exact⟨rfl,h⟩
 |false=>rw[e] at h;exact a3 h
theorem pW {α:Type} {l:List α} (h:cn l=aa):l.length<=16777216:=bf (pV h) (cS rfl)
variable [WP]
theorem ez.to {F:bh} {l:List aj}: ∀{vs:List ah},ez F l vs->bC (bq F) l vs:=by
 induction l with
 |nil=>exact λh=>by rw[h.q8];exact .nil
 |cons v l ai=>exact λh=>bT h.cases λy zs h=>by rw[h.1];exact .cons h.2.1 (ai h.2.2)
theorem bC.lS {F:bh} {l:List aj} {vs:List ah} (h:bC (bq F) l vs):ez F l vs:=by
 induction h with
 |nil=>exact .nil
 |cons h _ ai=>exact .cons h ai
theorem nf {R:aj->ah->Prop} {Q:ae->ah->Prop} {l:List ae} {vs:List ah} (h:bC Q l vs) (k: ∀v x,Q (.f v) x->R v x): ∀{fs:List aj},eN l=ab fs->bC R fs vs:=by
 induction h with
 |nil=>exact λe=>bQ e▸ .nil
 | @cons a b l m h t ai=>
  intro fs e
  cases a with
  |f v=>
   have e:(match eN l with
    |some r=>ab (v::r)
    |none=>af)=ab fs:=e
   revert e
   cases q:eN l with
   |none=>exact λe=>a3 e
   |some r=>exact λe=>bQ e▸ .cons (k v b h) (ai q)
  |_=>exact a3 e
theorem Vz {x:List Nat} {v:aj} {F:bh} {ks:List (List Nat)} {es:List cT} (aS:gi ks es): ∀{l:List aj},ez F l (es.map (·.val))->sm x ks l=ab v-> ∃y,r3 (kvs ks es) (aK x)=ab y/\bq F v y:=by
 induction aS with
 |nil=>exact λ{l} _ h=>by cases l<;>exact a3 h
 | @cons k e ks es aS cq ai=>
  intro l aA h
  cases l with
  |nil=>exact a3 h
  |cons u l=>
   refine bT aA.cases λy zs i=> ?_
   have q:=gw i.1
   have h:(match aM k x with
    |true=>ab u
    |false=>sm x ks l)=ab v:=h
   unfold r3
   show∃y,H6 _ (HM _ ((aK k,e.val)::kvs ks es))=_/\_
   rw[wX,yb]
   revert h
   cases aM k x with
   |true=>exact λh=> ⟨y,congrArg ab q.1,bQ h▸i.2.1⟩
   |false=>exact λh=>ai (by rw[show es.map (·.val)=zs from q.2];exact i.2.2) h
section
variable {prog:cO} {w:ba} {A:c2} {E:ah->az->Prop} {s:az} {Γ:bM} {T:bG} {env:dm} {sc:cC} {S:cM} {Kf:bZ} {k:Nat}
theorem aiF {value slice:Expr} {pos:eu} {Q:ah->az->Prop} (hs:zD slice=aa) (h:bg (bp prog w) A (dz value env) (λo bk=>bg (bp prog w) A (dz slice env) (λi dh=>rW (bp prog w) A o i Q E dh) E bk) E s):
  bg (bp prog w) A (dz (.Subscript value slice pos) env) Q E s:=by
 rw[S2]
 refine bz (h4 h (λo bk fG=>bz (gk (h4 fG (λi dh kG=>bz (gI (bz ?_))) λ_ _ x=>x))) λ_ _ x=>x)
 refine bT kG λT id h=> ?_
 rw[S5 h.2.1.not_modules]
 refine bz (IR h.2.1 h.1 (dc (bz ?_)))
 rw[ag5 hs]
 exact BR (h4 h.2.2 (λr fV iH=>bz (IP (dc iH))) λ_ _ x=>x)
theorem NJ {α:Type} {a:aR} {l:List α} {vs:List ah} {n:Nat} {i:Int} {u:Tok} {v:α} {R:α->ah->Prop} {Q:ah->az->Prop} (h:s.heap.get? a=ab (lobj vs n)) (eC:cn l=aa) (aA:bC R l vs) (e:gf l i=ab v)
  (q: ∀x,R v x->Q x s):rW (bp prog w) A (.ref a) (.int i u) Q E s:=by
 have I:s.heap.IsList a vs.toArray:=⟨_,h,rfl,_,rfl⟩
 have len:=aA.length
 have z:=pV eC
 refine⟨"list",_,Sx.lookup,I.typeIs,M7 e (λn gp l e=>ak (qr aA e) λx e=> ?_) λn gp l e=>ak (qr aA e) λx e=> ?_⟩
 ·rw[gp]
  exact wpAny_getItem_list I (kV n) (by omega) (lD.trans e.1) (q x e.2)
 ·rw[gp]
  refine wpAny_getItem_list_neg I (HE n) (by rw[hr];omega) (by omega) ?_ (q x e.2)
  rw[hr,<-len,E4 l]
  exact lD.trans e.1
theorem ZD {v i:ae} {cZ kJ:ah} {K:ae->St->aB} {Q:ah->az->Prop} (ay:WP.P=w.params) (N:aX Γ T s) (aW:T.A v cZ) (bj:T.A i kJ) (h:(aB.opt (mV v i T.σ) λr=>K r T.σ).holds) (q:fx Γ T K Q):rW (bp prog w) A cZ kJ Q E s:=by
 refine ak h λr c6=> ?_
 clear h
 have e:=c6.1
 have h:(K r T.σ).holds:=c6.2
 clear c6
 cases v with
 |dy _ _=>exact a3 e
 |aq y=>
  refine y2 (F:=λi=>match T.σ.g y with
   |some (.list l)=>match cn l with
    |true=>gf l i
    |false=>af
   |_=>af) e λj gp e=> ?_
  rw[gp] at bj
  refine ak (gK bj) λu gp=> ?_
  rw[gp,aW.2]
  have c:=N.aY.cell y
  revert e c
  cases T.σ.g y with
  |none=>exact λe=>a3 e
  |some ao=>cases ao with
   |list l=>exact λe c=>bT (c _ rfl) λvs n c=>NJ c.1 (tn e).1 c.2 (tn e).2 λx aH=>q.of N aH.1 h
   |_=>exact λe=>a3 e
 |f v=>cases v with
  |str x=>
   refine y2 e λj gp e=>ak (fR aW) λt ev=> ?_
   rw[gp] at bj
   refine ak (gK bj) λu gp=> ?_
   rw[gp,ev.1]
   revert e
   cases nV:gf x j with
   |none=>exact λe=>a3 e
   |some c=>
   intro e
   rw[<-bQ e] at h
   have z:x.length<=16777216:=by rw[<-gj];exact ev.2
   refine ak (M8 nV z) λh8 m=> ⟨"str",_,Sz.lookup,xp _ _ _,P.getItem_str (c:=c) (by rw[decide_eq_false (HF.mpr m.2.2.1),decide_eq_false (RC.mpr m.2.2.2)];rfl) ?_ (q.fr (N.toks _) (.str [c] _ (by show 1<=d0;decide)) h)⟩
   rw[show(aK x).length=x.length from hr ..,m.1]
   exact lD.trans m.2.1
  |tup l=>
   refine y2 e λj gp e=> ?_
   have m:=tn e
   refine bT (bq.i aW) λa vs f=> ?_
   rw[gp] at bj
   refine ak (gK bj) λu gp=> ?_
   rw[gp,f.1]
   have e:=m.2
   revert e
   cases nV:gf l j with
   |none=>exact λe=>a3 e
   |some y=>
   intro e
   rw[<-bQ e] at h
   refine ak (M8 nV (pW m.1)) λh8 m=>ak (qr f.2.2.to m.2.1) λz g=> ?_
   exact⟨"tuple",_,F.slot_tuple_getitem.lookup,⟨_,N.aY.bE _ _ f.2.1,rfl⟩,P.getItem_tuple (k:=h8) (y:=z) (N.aY.bE _ _ f.2.1) m.2.2.1 m.2.2.2 (by rw[hr,<-f.2.2.length];exact m.1) (lD.trans g.1) (q.fr N g.2 h)⟩
  |lst l=>
   refine y2 e λj gp e=> ?_
   have m:=tn e
   refine c5 (bq.i aW) λa vs n f=> ?_
   rw[gp] at bj
   refine ak (gK bj) λu gp=> ?_
   rw[gp,f.1]
   have e:=m.2
   revert e
   cases nV:gf l j with
   |none=>exact λe=>a3 e
   |some y=>
   intro e
   rw[<-bQ e] at h
   exact NJ (N.aY.bE _ _ f.2.1) m.1 f.2.2.to nV λx aH=>q.fr N aH h
  |ek ks l=>
   cases i with
   |f i=>cases i with
    |str x=>
     have e:(match sm x ks l with
      |some v=>ab (.f v)
      |none=>af)=ab r:=e
     refine ak (fR bj) λt gp=>c5 (bq.i aW) λa es n f=> ?_
     rw[gp.1,f.1]
     revert e
     cases nV:sm x ks l with
     |none=>exact λe=>a3 e
     |some y=>
     intro e
     rw[<-bQ e] at h
     refine ak (Vz f.2.2.2.1 f.2.2.2.2 nV) λz g=> ?_
     have D:=pb (prog:=prog) ay (N.aY.bE _ _ f.2.2.1) f.2.1.1.1 f.2.2.2.1
     exact⟨"dict",_,F.slot_dict_getitem.lookup,D.typeIs,wpAny_getItem_of (isStrOf_self (aK x) t) D.mapOf g.1 (q.fr (N.toks _) g.2 h)⟩
    |_=>exact a3 e
   |_=>exact a3 e
  |_=>exact a3 e
end
end
section
theorem ag4 {a b n:Nat} (z:b-a=n+1) (l:b<=n+1):a=0:=by omega
theorem bC.drop {α β:Type} {R:α->β->Prop} {l:List α} {m:List β} (h:bC R l m): ∀n,bC R (l.drop n) (m.drop n):=by
 induction h with
 |nil=>exact λn=>by rw[A2,A2];exact .nil
 |cons h t ai=>exact λn=>by cases n with
  |zero=>exact .cons h t
  |succ n=>exact ai n
theorem bC.take {α β:Type} {R:α->β->Prop} {l:List α} {m:List β} (h:bC R l m): ∀n,bC R (l.take n) (m.take n):=by
 induction h with
 |nil=>exact λn=>by rw[tT,tT];exact .nil
 |cons h t ai=>exact λn=>by cases n with
  |zero=>exact .nil
  |succ n=>exact .cons h (ai n)
variable [WP]
section
variable {prog:cO} {w:ba} {A:c2} {E:ah->az->Prop} {s:az} {Γ:bM} {T:bG} {env:dm} {sc:cC} {S:cM} {Kf:bZ} {k:Nat}
variable (ay:WP.P=w.params) (Ev:dk sc env Γ S) (bb:Top Kf Γ.base S) (F:iz prog w Kf S Γ.base k)
include ay
theorem agu {o i:X} (dM:bc prog w Γ k S sc env o) (fT:bc prog w Γ k S sc env i):bc prog w Γ k S sc env (.co o i):=
 .val ay rfl (λp hp {_ _ _ _ _ _} aw N h q=>aiF (cU hp).1 (dM.cX _ (cU hp).2.1 aw N h λbS v av bk bi aT bl h=>fT.cX _ (cU hp).2.2 aw aT h λfk v2 o5 dh cD bR dF h=>ZD ay bR (bl.ex cD) dF h (q.ex (bi.trans cD)))) (λ_ _=>rfl) rfl rfl
omit ay
theorem zM {v:aj} {p:Option Int} {x:ah} (aW:bq T.aP v x) (e:part v=ab p):IsPart x p/\ ∃q:Option (Int×Tok),x=partValue q/\q.map (·.1)=p:=by
 cases v with
 |none=>rw[k9 aW,<-bQ e];exact⟨.none,af,rfl,rfl⟩
 |int i=>exact ak (gK aW) λt h=>by rw[h,<-bQ e];exact⟨.int _ _,ab (i,t),rfl,rfl⟩
 |_=>exact a3 e
theorem NK {a aK:aR} {l r:List aj} {vs:List ah} {n:Nat} {lo bj:aj} {vC ve:ah} {K:ae->St->aB} {Q:ah->az->Prop} (N:aX Γ T s) (h:s.heap.get? a=ab (lobj vs n)) (aA:bC (bq T.aP) l vs) (eC:cn l=aa) (px:s.heap.get? aK=ab {cls:= .type "slice",data:= .fields #[vC,ve,.none]}) (ap:bq T.aP lo vC) (aC:bq T.aP bj ve)
  (e:iv l lo bj=ab r) (h:(K (.f (.lst r)) T.σ).holds) (q:fx Γ T K Q):rW (bp prog w) A (.ref a) (.ref aK) Q E s:=by
 have I:s.heap.IsList a vs.toArray:=⟨_,by assumption,rfl,_,rfl⟩
 refine ni (Qf e) λe9 iP hF gO P=> ⟨"list",_,Sx.lookup,I.typeIs, ?_⟩
 have len:=aA.length
 refine wpAny_getItem_list_slice I ⟨_,px,rfl,rfl⟩ (zM ap P.1).1 (zM aC P.2.1).1 .none nofun ?_ (by rw[hr,<-len,gj];exact pW eC)
 rw[af6,<-len,P.2.2.1,P.2.2.2.1,Pq _ _ _ (by rw[<-len];exact P.2.2.2.2.1)]
 have cR:=N.vS (lobj ((vs.drop hF).take (gO-hF)) 0) rfl
 refine q _ _ (.f (.lst r)) _ cR.2 cR.1 ?_ h
 rw[<-P.2.2.2.2.2]
 exact bq.lst (bh.gc _ _ _) (ez.mono cR.2.bE ((aA.drop _).take _).lS)
theorem aiE {value:Expr} {lo bj:Option Expr} {p pos:eu} {Q:ah->az->Prop}
  (h:bg (bp prog w) A (dz value env) (λo bk=>bg (bp prog w) A (BH lo env) (λl dh=>bg (bp prog w) A (BH bj env) (λu fV=>
   rW (bp prog w) A o (.ref fV.heap.objs.size) Q E {fV with heap:=fV.heap.push {cls:= .type "slice",data:= .fields #[l,u,.none]}}) E dh) E bk) E s):
  bg (bp prog w) A (dz (.Subscript value (.Slice lo bj af p) pos) env) Q E s:=by
 rw[S2]
 refine bz (h4 h (λo bk fG=>bz (gk (wpAny_Slice (h4 fG (λl dh kG=>h4 kG (λu fV iH=> ?_) λ_ _ x=>x) λ_ _ x=>x)))) λ_ _ x=>x)
 rw[evalPart_none]
 refine dc (bz (gI (bz ?_)))
 refine bT iH λT id h=> ?_
 rw[S5 h.2.1.not_modules]
 exact bz (IR h.2.1 h.1 (dc (bz (BR (h4 h.2.2 (λr fV iH=>bz (IP (dc iH))) λ_ _ x=>x)))))
theorem str_slice {x r:List Nat} {t:Tok} {lo bj:aj} {vC ve:ah} {K:ae->St->aB} {Q:ah->az->Prop} {sa:aR} (N:aX Γ T s) (aA:x.length<=d0) (aE:bq T.aP lo vC) (ag:bq T.aP bj ve) (px:s.heap.get? sa=ab {cls:= .type "slice",data:= .fields #[vC,ve,.none]})
  (e:iv x lo bj=ab r) (h:(K (.f (.str r)) T.σ).holds) (q:fx Γ T K Q):rW (bp prog w) A (.str (aK x) t) (.ref sa) Q E s:=by
 refine ni (Qf e) λe9 iP hF gO P=>ak (zM aE P.1).2 λl1 fZ=>ak (zM ag P.2.1).2 λe3 hE=> ?_
 rw[fZ.1,hE.1] at px
 refine⟨"str",_,Sz.lookup,xp _ _ _,wpAny_getItem_str_slice (l:=l1) (u:=e3) (st:=af) ⟨_,px,rfl,rfl⟩ rfl ?_⟩
 have c6:r.length<=d0:=by rw[<-P.2.2.2.2.2,HR,A7];exact bf (bf (Sg _ _) (oK _ _)) aA
 unfold sliceMade slicePicked
 rw[fZ.2,hE.2,show(aK x).length=x.length from hr ..]
 show Made.post (if((1:Int)==1&&(Bm e9 iP 1 x.length).length==x.length)=aa then Ii (.str (aK x) t) else Ih ⟨((Bm e9 iP 1 x.length).filterMap ((aK x).cps[·]?)).toArray⟩) _ _
 rw[agZ,P.2.2.1,P.2.2.2.1]
 split
 ·rename_i z
  have z:gO-hF=x.length:=by
   have z:=beq_iff_eq.mp (b3 z).2
   rw[S8,eg,List.length_range] at z
   exact z
  have gJ:r=x:=by
   rw[<-P.2.2.2.2.2,z]
   cases x with
   |nil=>rw[A2,tT]
   |cons c x=>
    have l:gO<=x.length+1:=P.2.2.2.2.1
    rw[ag4 z l,HK,List.take_length]
  rw[gJ] at h
  exact q.fr N (.str x t aA) h
 ·rw[show(xm hF gO 1).filterMap ((aK x).cps[·]?)=r by
   rw[<-P.2.2.2.2.2,<-Pq x hF gO P.2.2.2.2.1]
   exact congrArg (λf=>List.filterMap f (xm hF gO 1)) (funext λi=>lD)]
  exact⟨c6,q.fr (N.toks _) (.str r _ c6) h⟩
theorem af5 {v a b:ae} {cZ av bv:ah} {K:ae->St->aB} {Q:ah->az->Prop} {sa:aR} (N:aX Γ T s) (aW:T.A v cZ) (aE:T.A a av) (ag:T.A b bv) (px:s.heap.get? sa=ab {cls:= .type "slice",data:= .fields #[av,bv,.none]})
  (h:(aB.opt (tm v a b T.σ) λr=>K r T.σ).holds) (q:fx Γ T K Q):rW (bp prog w) A cZ (.ref sa) Q E s:=by
 refine ak h λr c6=> ?_
 clear h
 have e:=c6.1
 have h:(K r T.σ).holds:=c6.2
 clear c6
 cases a with
 |f lo=>cases b with
  |f bj=>cases v with
   |dy _ _=>exact a3 e
   |aq y=>
    rw[aW.2]
    have c:=N.aY.cell y
    have e:(match T.σ.g y with
     |some (.list l)=>match cn l with
      |true=>match eN l with
       |some l=>match iv l lo bj with
        |some r=>ab (.f (.lst r))
        |none=>af
       |none=>af
      |false=>af
     |_=>af)=ab r:=e
    revert e c
    cases T.σ.g y with
    |none=>exact λ_ e=>a3 e
    |some ao=>cases ao with
     |list l=>
      intro c e
      have m:=tn e
      have e:=m.2
      revert e
      cases kD:eN l with
      |none=>exact λe=>a3 e
      |some fs=>
      show(match iv fs lo bj with
       |some r=>ab (ae.f (.lst r))
       |none=>af)=ab r->_
      cases gJ:iv fs lo bj with
      |none=>exact λe=>a3 e
      |some iu=>
      intro e
      rw[<-bQ e] at h
      refine bT (c _ rfl) λvs n c=> ?_
      have aA:=nf c.2 (λv x q=>q.1) kD
      exact NK N c.1 aA (by unfold cn;rw[aA.length,<-c.2.length];exact m.1) px aE ag gJ h q
     |_=>exact λ_ e=>a3 e
   |f v=>cases v with
    |str x=>
     refine ak (fR aW) λt ev=> ?_
     rw[ev.1]
     have e:(match iv x lo bj with
      |some r=>ab (.f (.str r))
      |none=>af)=ab r:=e
     revert e
     cases gJ:iv x lo bj with
     |none=>exact λe=>a3 e
     |some iu=>
     intro e
     rw[<-bQ e] at h
     exact str_slice N ev.2 aE ag px gJ h q
    |lst l=>
     refine c5 (bq.i aW) λa vs n f=> ?_
     rw[f.1]
     have m:=tn (o:=match iv l lo bj with
      |some r=>ab (ae.f (.lst r))
      |none=>af) e
     have e:=m.2
     revert e
     cases gJ:iv l lo bj with
     |none=>exact λe=>a3 e
     |some iu=>
     intro e
     rw[<-bQ e] at h
     exact NK N (N.aY.bE _ _ f.2.1) f.2.2.to m.1 px aE ag gJ h q
    |_=>exact a3 e
  |_=>exact a3 e
 |_=>exact a3 e
include ay
theorem agJ:bc prog w Γ k S sc env .no:= .of (λ_=>cm) (λ_=>cm) rfl rfl
theorem Pm {a:X} {o:Option Expr} (br:bc prog w Γ k S sc env a) (h:zJ a (au sc a).x o=aa):mn prog w Γ k (ev S a).x (BH (yi a (au sc a).e o) env):=by
 unfold zJ at h
 unfold yi
 cases e:y7 a with
 |true=>exact Zr (P:=λa=>mn prog w Γ k (ev S a).x (BH af env)) e λ{_ _ _ _ _ _} aw N h q=>dc (q.fr N .none h)
 |false=>
  rw[e] at h
  exact br.cX _ h
theorem agP {o a b:X} (dM:bc prog w Γ k S sc env o) (br:bc prog w Γ k S sc env a) (cV:bc prog w Γ k S sc env b):bc prog w Γ k S sc env (.aK o a b):=
 .val ay rfl (λp hp {_ _ _ _ _ _} aw N h q=>aiE (dM.cX _ (cU hp).1 aw N h λbS v av bk bi aT bl h=>Pm ay br (cU hp).2.1 aw aT h λfk v2 o5 dh cD bR dF h=>Pm ay cV (cU hp).2.2 aw bR h λi2 QQ JB fV eX dU mH h=>
  af5 (dU.push {cls:= .type "slice",data:= .fields #[v2,QQ,.none]}) (bl.ex (cD.trans eX)) (dF.ex eX) mH (ju _ rfl) h (q.ex ((bi.trans cD).trans eX)))) (λ_ _=>rfl) rfl rfl
end
end
section
noncomputable def one (K:ae->St->aB) (vs:List ae) (σ:St):aB:=match vs with
 | [v]=>K v σ
 |_=> .hQ
noncomputable def two (K:ae->ae->St->aB) (vs:List ae) (σ:St):aB:=match vs with
 | [v,u]=>K v u σ
 |_=> .hQ
theorem adl {G:Prop} {R:ae->ah->Prop} {K:ae->St->aB} {as:List ae} {vs:List ah} {σ:St} (a:bC R as vs) (h:(one K as σ).holds) (k: ∀v x,vs= [x]->R v x->(K v σ).holds->G):G:=by
 cases a with
 |nil=>exact h.elim
 |cons ap t=>cases t with
  |nil=>exact k _ _ rfl ap h
  |cons _ _=>exact h.elim
theorem ahz {G:Prop} {R:ae->ah->Prop} {K:ae->ae->St->aB} {as:List ae} {vs:List ah} {σ:St} (a:bC R as vs) (h:(two K as σ).holds) (k: ∀v u x y,vs= [x,y]->R v x->R u y->(K v u σ).holds->G):G:=by
 cases a with
 |nil=>exact h.elim
 |cons ap t=>cases t with
  |nil=>exact h.elim
  |cons aC t=>cases t with
   |nil=>exact k _ _ _ _ rfl ap aC h
   |cons _ _=>exact h.elim
variable [WP]
section
variable {prog:cO} {w:ba} {A:c2} {E:ah->az->Prop} {s:az} {Γ:bM} {T:bG} {env:dm} {sc:cC} {S:cM} {Kf:bZ} {k:Nat}
theorem wp_release {M:t6} {vs keep:List ah} {Q:Unit->az->Prop} (h:Q () s):bg M A (release vs keep) Q E s:=λΓ p DS=>by rw[Sem.wp_release];exact h
variable (ay:WP.P=w.params) (Ev:dk sc env Γ S) (bb:Top Kf Γ.base S) (F:iz prog w Kf S Γ.base k)
include ay
theorem agI {a:X} (br:bc prog w Γ k S sc env a):bc prog w Γ k S sc env (.neg a):=
 .val ay rfl (λp hp {_ _ _ _ _ _} aw N h q=>wpAny_UnaryOp (br.cX _ hp aw N h λbS v av bk bi aT bl h=>ak (dp h) λi h=>by
  rw[o4 h.1] at bl
  exact ak (gK bl) λt e=>by rw[e];exact P.neg_int ((q.ex bi).fr (aT.toks _) (.int _ _) h.2))) (λ_ _=>rfl) rfl rfl
theorem agh {hT iO:ht} {a b c:X} (br:bc prog w Γ k S sc env a) (cV:bc prog w Γ k S sc env b) (iI:bc prog w Γ k S sc env c):bc prog w Γ k S sc env (.fy hT iO a b c):=by
 have pF: ∀p:Expr,BD iO ((au sc c).e (ap (xs p)))=ac->markedEach [hT,iO] [((au sc b).e (h0 (xs p))),((au sc c).e (ap (xs p)))] (xj [((au sc b).e (h0 (xs p))),((au sc c).e (ap (xs p)))] env)= [dz ((au sc b).e (h0 (xs p))) env,dz ((au sc c).e (ap (xs p))) env]:=λp h=>by
  show dz ((au sc b).e (h0 (xs p))) env:: [markedBehindIn iO ((au sc c).e (ap (xs p))) (dz ((au sc c).e (ap (xs p))) env)]=_
  rw[markedBehindIn_of_false h]
 refine .of (λp hp A E s T K Q aw N h q=> ?_) (λp hp A E s T K Q aw N h q=> ?_) rfl rfl
 ·show bg _ _ (dz (.Compare _ [hT,iO] [_,_] _) env) _ _ _
  rw[arm_eval_Compare,pF p (jh (d1 hp).1)]
  refine bz (br.cX _ (d1 hp).2.1 aw N h λbS u dE bk bi aT bl h=>bz (gk (cV.cX _ (d1 hp).2.2.1 aw aT h λfk v av dh cD bR dF h=>bz (gI (bz (gk
   (sk ay bR (bl.ex cD) dF h λr fV dU h=>bz (wp_release (bz (gk (ud ?_)))))))))))
  cases r with
  |false=>exact dc ((q.ex (bi.trans cD)).fr dU (.bool ac) h)
  |true=>exact bz (gk (iI.cX _ (d1 hp).2.2.2 aw dU h λkZ v4 JC iS g7 fN k3 h=>bz (gI (BR (sk ay fN (dF.ex g7) k3 h λr ru gR h=> (q.ex ((bi.trans cD).trans g7)).fr gR (.bool r) h)))))
 ·show bg _ _ (isTrue (.Compare _ [hT,iO] [_,_] _) env _) _ _ _
  rw[arm_isTrue_Compare,pF p (jh (d1 hp).1)]
  refine bz (br.cX _ (d1 hp).2.1 aw N h λbS u dE bk bi aT bl h=>bz (gk (cV.cX _ (d1 hp).2.2.1 aw aT h λfk v av dh cD bR dF h=>bz (gI (bz (gk
   (sk ay bR (bl.ex cD) dF h λr fV dU h=>bz (wp_release (bz (gk (ud ?_)))))))))))
  cases r with
  |false=>exact dc (q _ _ _ (bi.trans cD) dU h)
  |true=>exact bz (gk (iI.cX _ (d1 hp).2.2.2 aw dU h λkZ v4 JC iS g7 fN k3 h=>bz (gI (bz (BR (sk ay fN (dF.ex g7) k3 h λr ru gR h=>gk (ud (q kZ r ru ((bi.trans cD).trans g7) gR (nK h)))))))))
theorem agT {l:X} (gY:bc prog w Γ k S sc env l):bc prog w Γ k S sc env (.tup l):=
 .val ay rfl (λp hp {_ _ _ _ _ _} aw N h q=>wpAny_Tuple_spliced (gY.ow _ _ hp aw N h λbS vs as bk bi aT bl h=>ak (dp h) λfs h=>
  have aA:=nf (R:=bq bS.aP) bl (λ_ _ q=>q) h.1
  have cR:=aT.vS (md vs 0) rfl
  ⟨by rw[gj,<-aA.length];exact pW (gr h.2).1,q _ _ (.f (.tup fs)) _ (bi.trans cR.2) cR.1 (bq.tup (bh.gc _ _ _) (ez.mono cR.2.bE aA.lS)) (gr h.2).2⟩)) (λ_ _=>rfl) rfl rfl
theorem agF {l:X} (gY:bc prog w Γ k S sc env l):bc prog w Γ k S sc env (.lst l):=
 .val ay rfl (λp hp {_ _ _ _ _ _} aw N h q=>Te (gY.ow _ _ hp aw N h λbS vs as bk bi aT bl h=>ak (dp h) λfs h=>
  have aA:=nf (R:=bq bS.aP) bl (λ_ _ q=>q) h.1
  have cR:=aT.vS (lobj vs 0) rfl
  ⟨by rw[gj,<-aA.length];exact pW (gr h.2).1,q _ _ (.f (.lst fs)) _ (bi.trans cR.2) cR.1 (bq.lst (bh.gc _ _ _) (ez.mono cR.2.bE aA.lS)) (gr h.2).2⟩)) (λ_ _=>rfl) rfl rfl
omit ay
theorem Lk {f:ah} {as:List Expr} {pos:eu} {args:X} (br:bc prog w Γ k S sc env args) (aE:(au sc args).l as=aa) (aS:r1 f=pure .machine) {K:List ae->St->aB} (aw:fu A k) (N:aX Γ T s) (h:((ev S args).l T.σ K).holds) {Q:ah->az->Prop}
  (q:IT Γ T K λvs s'=>bg (bp prog w) A (iB f vs) Q E s'):
  bg (bp prog w) A (t9 pos f [] (i0 pos (h3 ((au sc args).dw as) env)) (mA pos (mB [] env))) Q E s:=
 Bv (P:=λ_=>True) (by rw[br.st as pos aE];rfl) (λh _=> ⟨.machine,.inr (.inl rfl),.of_pure aS⟩)
  (Dj (br.st as pos aE) rfl (br.ow as pos aE aw N h λbS vs av bk bi aT bl h=>Tf ⟨trivial,q bS vs av bk bi aT bl h⟩))
include ay in
theorem UM {f:ah} {e:Expr} {pos:eu} {a:X} (br:bc prog w Γ k S sc env a) (aC:notStar ((au sc a).e e)=aa) (bu:(au sc a).x e=aa) (aS:r1 f=pure .machine) {K:ae->St->aB} (aw:fu A k) (N:aX Γ T s) (h:((ev S a).x T.σ K).holds) {Q:ah->az->Prop}
  (q:fx Γ T K λv s'=>bg (bp prog w) A (iB f [v]) Q E s'):bg (bp prog w) A (t9 pos f [] (i0 pos (h3 [(au sc a).e e] env)) (mA pos (mB [] env))) Q E s:=
 Lk (args:= .cons a .nil) (as:= [e]) (z9 ay br (Aa ay)) (i4 (i4 aC bu) rfl) aS aw N (K:=one K) h λbS vs as bk bi aT bl h=>adl bl h λv x e a h=>by rw[e];exact q bS x v bk bi aT a h
include ay Ev bb
theorem qw {n:String} {f:ah} {e p:Expr} {a:X} (ar:(cF n,f)∈uE) (aS:r1 f=pure .machine) (hp:(jI sc n&&notStar ((au sc a).e e)&&(au sc a).x e)=aa) (br:bc prog w Γ k S sc env a) {K:ae->St->aB} (aw:fu A k) (N:aX Γ T s) (h:((ev S a).x T.σ K).holds) {Q:ah->az->Prop}
  (q:fx Γ T K λv s'=>bg (bp prog w) A (iB f [v]) Q E s'):bg (bp prog w) A (dz (jZ n [(au sc a).e e] p) env) Q E s:=
 xq (vB bb Ev ar (cU hp).1 N (UM ay br (cU hp).2.1 (cU hp).2.2 aS aw N h q))
theorem K4 {n:String} {f:ah} {e cN p:Expr} {a b:X} (ar:(cF n,f)∈uE) (aS:r1 f=pure .machine) (hp:(jI sc n&&notStar ((au sc a).e e)&&notStar ((au sc b).e cN)&&(au sc a).x e&&(au sc b).x cN)=aa) (br:bc prog w Γ k S sc env a) (cV:bc prog w Γ k S sc env b) {K:ae->ae->St->aB} (aw:fu A k) (N:aX Γ T s)
  (h:((ev S a).x T.σ λv σ=> (ev S b).x σ λu σ=>K v u σ).holds) {Q:ah->az->Prop}
  (q: ∀a5 v u av bv s',T.dS a5->aX Γ a5 s'->a5.A av v->a5.A bv u->(K av bv a5.σ).holds->bg (bp prog w) A (iB f [v,u]) Q E s'):bg (bp prog w) A (dz (jZ n [(au sc a).e e,(au sc b).e cN] p) env) Q E s:=
 xq (vB bb Ev ar (fl hp).1 N (Lk (args:= .cons a (.cons b .nil)) (as:= [e,cN]) (z9 ay br (z9 ay cV (Aa ay))) (i4 (i4 (fl hp).2.1 (fl hp).2.2.2.1) (i4 (i4 (fl hp).2.2.1 (fl hp).2.2.2.2) rfl)) aS aw N (K:=two K) h
  λbS vs as bk bi aT bl h=>ahz bl h λv u x y e a b h=>by rw[e];exact q bS x y v u bk bi aT a b h))
omit ay Ev bb
theorem N5 {α:Type} {a:aR} {l:List α} {vs:List ah} {n:Nat} {Q:ah->az->Prop} (h:s.heap.get? a=ab (lobj vs n)) (e:l.length=vs.length) (eC:cn l=aa) (q: ∀t,Q (.int l.length t) {s with toks:=s.toks+1+1}):bg (bp prog w) A (iB (.builtin "len") [.ref a]) Q E s:=
 call_len_list ⟨_,h,rfl,_,rfl⟩ (by rw[hr,<-e];exact z8 eC) (by rw[hr,<-e];exact q _)
theorem abG {v:ae} {l:List ae} (h:ib T.σ v=ab l): ∃y,v= .aq y/\T.σ.g y=ab (.list l):=by
 cases v with
 |aq y=>
  have h:(match T.σ.g y with
   |some ao=>Jn ao
   |none=>af)=ab l:=h
  cases cJ:T.σ.g y with
  |none=>rw[cJ] at h;exact a3 h
  |some ao=>
   rw[cJ] at h
   cases ao with
   |list l=>exact⟨y,rfl,by rw[cJ];exact congrArg (λl=>ab (cc.list l)) (bQ h)⟩
   |_=>exact a3 h
 |_=>exact a3 h
theorem Ey {v:ae} {x:ah} {l:List ae} (N:aX Γ T s) (aW:T.A v x) (h:ib T.σ v=ab l): ∃y,v= .aq y/\T.U y/\T.σ.g y=ab (.list l)/\x= .ref (T.ax (2*y))/\ ∃vs n,s.heap.get? (T.ax (2*y))=ab (lobj vs n)/\bC (λa e=>T.A a e/\glob a=aa) l vs:=
 ak (abG h) λy h=>have a:T.A (.aq y) x:=h.1▸aW;⟨y,h.1,a.1,h.2,a.2,N.aY.cell y _ h.2⟩
theorem aaS {v:ae} {x:ah} {K:ae->St->aB} {Q:ah->az->Prop} (N:aX Γ T s) (aW:T.A v x) (h:(cv (NG v T.σ) λn=>nY n.1 (K (.f (.int n.2)) T.σ)).holds) (q:fx Γ T K Q):bg (bp prog w) A (iB (.builtin "len") [x]) Q E s:=by
 have cell:(cv ((ib T.σ v).map λl=> (ab (cn l=aa),l.length)) λn=>nY n.1 (K (.f (.int n.2)) T.σ)).holds->bg (bp prog w) A (iB (.builtin "len") [x]) Q E s:=λh=>ak (dp h) λr h=>ak (qc.mp h.1) λl e=>
  ak (Ey N aW e.1) λy c=>bT c.2.2.2.2 λvs n d=>by
   have h:=h.2
   rw[<-e.2] at h
   rw[c.2.2.2.1]
   exact N5 d.1 d.2.length h.1 λt=>q.fr (N.toks _) (.int _ t) h.2
 cases v with
 |aq y=>exact cell h
 |dy _ _=>exact cell h
 |f v=>cases v with
  |str x=>
   refine ak (fR aW) λt e=> ?_
   have len:(aK x).length=x.length:=hr ..
   have z:=e.2
   rw[gj] at z
   rw[e.1]
   refine P.len_str (by rw[len];omega) ?_
   rw[len]
   exact q.fr (N.toks _) (.int _ _) h
  |lst l=>exact c5 (bq.i aW) λa vs n f=>by rw[f.1];exact N5 (N.aY.bE _ _ f.2.1) f.2.2.length h.1 λt=>q.fr (N.toks _) (.int _ t) h.2
  |_=>exact cell h
include ay Ev bb
theorem agD {a:X} (br:bc prog w Γ k S sc env a):bc prog w Γ k S sc env (.len a):=
 .val ay rfl (λp hp {_ _ _ _ _ _} aw N h q=>qw ay Ev bb (f:= .builtin "len") (.head _) rfl hp br aw N h λbS v av bk bi aT bl h=>aaS aT bl h (q.ex bi)) (λ_ _=>rfl) rfl rfl
end
end
section
variable [WP]
section
variable {prog:cO} {w:ba} {A:c2} {E:ah->az->Prop} {s:az} {Γ:bM} {T:bG} {env:dm} {sc:cC} {S:cM} {Kf:bZ} {k:Nat}
theorem Zv {P:az->Prop} (ay: ∀s cq,P s->P {s with toks:=cq}) {x D d4:aR} {vO:bX} {Fd:Option bX} {cs:List ah} {vs:List Bool} {cq:Tok} {Q:Fin->az->Prop}
  (I:InstAt s.heap x vO D Fd) (MD:s.heap.get? d4=ab (md cs 0)) (pv:D≠d4) (aE:AnswersAll P (.ref x) cs vs) (hs:P s)
  (dC: ∀jQ,Q (.done (.ret (.bool (vs.any id)))) {s with toks:=jQ}):bg (bp prog w) A (Builtin.«isinstance.nested» ⟨[.ref x,.ref d4,.int 0 cq],[]⟩) Q E s:=by
 obtain ⟨h,g,d,t,os⟩:=s
 have RF:=I.type (M:=bp prog w)
 have ai9:(⟨h,g,d,t,os⟩:az).TypeIs (.ref d4) "tuple" :=⟨_,MD,rfl⟩
 have f1:=F.isi_sub_tuple
 unfold Builtin.«isinstance.nested»
 refine bz (RF.at ?_)
 rw[if_neg (by simp;exact pv)]
 repeat (any_goals (first|assumption|wp_step))
 refine wpAny_arrayLoop ?_
 simp only[Option.getD_some,List.toList_toArray]
 refine isinstance_items (dep:=0) ay cs vs _ _ aE hs λjQ=> ?_
 cases aW:vs.any id with
 |true=>
  simp only[if_true]
  repeat (any_goals (first|assumption|wp_step))
  exact aW▸dC jQ
 |false=>
  simp only[Rj,if_false]
  repeat (any_goals (first|assumption|wp_step))
  exact aW▸dC jQ
abbrev p4 (Kf:bZ) (x D:aR) (d:aR) (es:List cT) (n:Nat) (s:az):Prop:=Kf.In s.heap/\InstAt s.heap x (kY D d) D (ab (eD es n))
theorem Lu {D:aR} (h:(mz Kf D).isSome=aa): ∃a b cd d,Kf.lookup D=ab ⟨a,b,.cls cd,d⟩:=by
 unfold mz at h
 revert h
 cases Kf.lookup D with
 |none=>exact cm
 |some o=>cases o with|mk a b c d=>cases c with
  |cls cd=>exact λ_=> ⟨a,b,cd,d,rfl⟩
  |_=>exact cm
theorem Cj {x D C:aR} {d:aR} {es:List cT} {n:Nat} {m:List (Nat×Bool)} {b:Bool} (bb:Top Kf Γ.base S) (em:aL D S.sub=ab m) (e:aL C m=ab b):Answers (p4 Kf x D d es n) (.ref x) (.ref C) b:=by
 have O:=bb.sub D m em
 have h:=O.c C b e
 cases b with
 |true=>exact λdep cq _ _ _ _ s hs=>isi_nested hs.1.1 hs.1.2.type (h.1 rfl) (hs.2 s.toks)
 |false=>
  have e:=h.2 rfl
  unfold kin_not at e
  have e:=d1 e
  intro dep cq prog w A R s hs
  exact kin_nested O.g O.d O.a bb.yH.1 bb.yH.2 O.q6 hs.1.1 hs.1.2 (looks_typeIn hs.1.1 (beq_iff_eq.mp e.2.2.1)) (c5 (Lu e.2.1) λa b cd i=>ak i λd i rH oW nq s' k q=>by
   unfold isType loadHead
   exact bz (IQ (k _ _ (hs.1.1 _ _ i)) (dc q))) (Hn.mpr λq=>of_decide_eq_true e.1 (Bs (beq_iff_eq.mp q))) (looks_subIn hs.1.1 (beq_iff_eq.mp e.2.2.2)) (hs.2 (s.toks+1))
theorem Zu {x D C:aR} {d:aR} {es:List cT} {n:Nat} {m:List (Nat×Bool)} {b:Bool} {Q:ah->az->Prop} (bb:Top Kf Γ.base S) (em:aL D S.sub=ab m) (e:aL C m=ab b) (I:p4 Kf x D d es n s) (q: ∀cq,Q (.bool b) {s with toks:=cq}):
  bg (bp prog w) A (iB (.builtin "isinstance") [.ref x,.ref C]) Q E s:=
 SY (S:=λ_ R s=>p4 Kf x D d es n s/\ ∀jQ,R (.ok (.ret (.bool b))) {s with toks:=jQ})
  (λ_ _ _ _ _ hs=>S6 (Cj bb em e 0 0 _ _ _ _ _ hs) nofun) ⟨I,q⟩
theorem Zw {x D iw iW d4:aR} {d:aR} {es:List cT} {n:Nat} {m:List (Nat×Bool)} {b1 ij:Bool} {Q:ah->az->Prop} (bb:Top Kf Γ.base S) (em:aL D S.sub=ab m) (e1:aL iw m=ab b1) (e2:aL iW m=ab ij) (I:p4 Kf x D d es n s)
  (cj:s.heap.get? d4=ab (md [.ref iw,.ref iW] 0)) (q: ∀cq,Q (.bool (b1||ij)) {s with toks:=cq}):bg (bp prog w) A (iB (.builtin "isinstance") [.ref x,.ref d4]) Q E s:=by
 have ab5:D≠d4:=λq=>ni (Lu (bb.Lw D m em)) λa b cd d i=>by
  have i:=I.1 _ _ i
  rw[q,cj] at i
  exact Ib (congrArg Obj.data (bQ i))
 have e:(b1||ij)= [b1,ij].any id:=by cases b1<;>cases ij<;>rfl
 rw[e] at q
 exact SY (S:=λ_ R s=> (p4 Kf x D d es n s/\s.heap.get? d4=ab (md [.ref iw,.ref iW] 0))/\ ∀jQ,R (.ok (.ret (.bool ([b1,ij].any id)))) {s with toks:=jQ})
  (λ_ _ _ _ _ hs=>S6 (Zv (cs:= [.ref iw,.ref iW]) (vs:= [b1,ij]) (P:=p4 Kf x D d es n) (λ_ _ h=>h) hs.1.1.2 hs.1.2 ab5 ⟨Cj bb em e1,Cj bb em e2,trivial⟩ hs.1.1 hs.2) nofun) ⟨⟨I,cj⟩,q⟩
theorem Zt {v c:ae} {x y:ah} {K:ae->St->aB} {Q:ah->az->Prop} (bb:Top Kf Γ.base S) (N:aX Γ T s) (aW:T.A v x) (aD:T.A c y) (h:(cv (D3 S v c) λr=>K (.f (.bool r)) T.σ).holds) (q:fx Γ T K Q):
  bg (bp prog w) A (iB (.builtin "isinstance") [x,y]) Q E s:=by
 cases v with
 |f v=>cases v with
  |inst D ns l=>
   refine ni (bq.i aW) λa d es n i=> ?_
   rw[i.1]
   have I:p4 Kf a D d es n s:=⟨N.gZ bb.toKnown,N.aY.bE _ _ i.2.1,rfl,rfl,N.aY.bE _ _ i.2.2.1⟩
   have h:(cv (match aL D S.sub with
    |some m=>match c with
     | .f (.st e)=>aL e m
     | .f (.tup [.st e,.st g])=>Fh (aL e m) (aL g m)
     |_=>af
    |none=>af) λr=>K (.f (.bool r)) T.σ).holds:=h
   revert h
   cases em:aL D S.sub with
   |none=>exact fL
   |some m=>cases c with
    |f c=>cases c with
     |st C=>exact λh=>ak (dp h) λr h=>by rw[bq.i aD];exact Zu bb em h.1 I λcq=>q.fr (N.toks cq) (.bool r) h.2
     |tup l=>cases l with
      |nil=>exact fL
      |cons hM l=>cases hM with
       |st iw=>cases l with
        |nil=>exact fL
        |cons qx l=>cases qx with
         |st iW=>cases l with
          |cons _ _=>exact fL
          |nil=>
           show(cv (Fh (aL iw m) (aL iW m)) λr=>K (.f (.bool r)) T.σ).holds->_
           cases e1:aL iw m with
           |none=>exact fL
           |some b1=>cases e2:aL iW m with
            |none=>exact fL
            |some ij=>
             refine λh=>bT (bq.i aD) λd4 vs f=> ?_
             have cj:=N.aY.bE _ _ f.2.1
             refine bT f.2.2.cases λb4 Q5 g=>bT g.2.2.cases λHa mj g'=> ?_
             rw[g.1,g'.1,g'.2.2.q8,g.2.1.i,g'.2.1.i] at cj
             rw[f.1]
             exact Zw bb em e1 e2 I cj λcq=>q.fr (N.toks cq) (.bool _) h
         |_=>exact fL
       |_=>exact fL
     |_=>exact fL
    |_=>exact fL
  |_=>exact h.elim
 |_=>exact h.elim
variable (ay:WP.P=w.params) (Ev:dk sc env Γ S) (bb:Top Kf Γ.base S) (F:iz prog w Kf S Γ.base k)
include ay Ev bb
theorem ags {a c:X} (br:bc prog w Γ k S sc env a) (iI:bc prog w Γ k S sc env c):bc prog w Γ k S sc env (.gz a c):=
 .val ay rfl (λp hp {_ _ _ _ K _} aw N h q=>K4 (K:=λv u σ=>cv (D3 S v u) λr=>K (.f (.bool r)) σ) ay Ev bb (f:= .builtin "isinstance") (.tail _ (.head _)) rfl hp br iI aw N h λbS v u av bv bk bi aT a b h=>Zt bb aT a b h (q.ex bi)) (λ_ _=>rfl) rfl rfl
end
end
section
theorem UH {a b:Nat} (h:d6 a b=ac):b<=a:=mv.mp λq=>by rw[show d6 a b=aa from mr q] at h;exact cm h.symm
theorem Ca {σ:St} {y:Nat} {ao:cc} (x:Nat):(σ.add y ao).g x=if x=y then ab ao else σ.g x:=by
 unfold St.add St.g
 cases q:d6 y 100 with
 |true=>cases z:d6 x 100 with
  |true=>exact vy y ao σ.hp x
  |false=>exact(if_neg λe=>by rw[e,q] at z;exact cm z.symm).symm
 |false=>cases z:d6 x 100 with
  |true=>exact(if_neg λe=>by rw[e,q] at z;exact cm z).symm
  |false=>exact vy y ao σ.lh x
theorem abR {n:Nat} {l:List Nat}:n∈l->iM n l=aa:=λh=>by
 induction h with
 |head=>exact(nk ..).mpr (.inl (Bf n))
 |tail _ _ ai=>exact(nk ..).mpr (.inr ai)
theorem XM {σ:St} {y:Nat} (h:σ.free y=aa):σ.g y=af/\y∉σ.lu:=by
 unfold St.free at h
 cases e:σ.g y with
 |some _=>rw[e] at h;exact cm h
 |none=>rw[e] at h;exact⟨rfl,λq=>by rw[abR q] at h;exact cm h⟩
theorem zx {σ:St} {x y:Nat} (h:newId σ x=ab y):σ.free y=aa:=by
 unfold newId at h
 revert h
 cases q:σ.free x with
 |true=>exact λh=>bQ h▸q
 |false=>cases q:σ.free (x+1) with
  |true=>exact λh=>bQ h▸q
  |false=>cases q:σ.free (x+2) with
   |true=>exact λh=>bQ h▸q
   |false=>exact a3
theorem Cb {σ:St} {y:Nat} {ao:cc}:(∀x∈σ.lu,x∈(σ.add y ao).lu)/\(100<=y->y∈(σ.add y ao).lu)/\ ∀x∈(σ.add y ao).lu,x∈σ.lu\/100<=x:=by
 unfold St.add
 cases q:d6 y 100 with
 |true=>exact⟨λx h=>h,λh=>absurd h (Nat.not_le.mpr (cS q)),λx h=> .inl h⟩
 |false=>exact⟨λx h=> .tail _ h,λ_=> .head _,λx h=> (e6.mp h).elim (λe=> .inr (e▸UH q)) .inl⟩
theorem T1 {σ:St} {y:Nat} {ao:cc}:(σ.add y ao).loc=σ.loc:=by unfold St.add;cases d6 y 100<;>rfl
theorem Je {ax:Nat->aR} {y:Nat} {ao:cc} {a b:aR} (one:adr ax y ao= [ax (2*y)]) (h:b∈adr ax y ao) (e:ax (2*y)=a):b=a:=by rw[one] at h;exact(jU.mp h).trans e
noncomputable def rG (ax:Nat->aR) (y:Nat) (a:aR):Nat->aR:=λn=>if n=2*y then a else ax n
theorem wC {ax:Nat->aR} {y:Nat} {a:aR}:rG ax y a (2*y)=a:=if_pos rfl
theorem Hf {ax:Nat->aR} {y x:Nat} {a:aR} (h:x≠y):rG ax y a (2*x)=ax (2*x)/\rG ax y a (2*x+1)=ax (2*x+1):=⟨if_neg (by omega),if_neg (by omega)⟩
variable [WP]
theorem bC.aix {R:ae->ah->Prop} {l:List ae} {vs:List ah} (h:bC R l vs):lN l=aa->bC (λa v=>R a v/\Q7.glob a=aa) l vs:=by
 induction h with
 |nil=>exact λ_=> .nil
 |cons h t ai=>exact λg=> .cons ⟨h,(b3 g).1⟩ (ai (b3 g).2)
structure Apart (Γ:bM) (T:bG) (it:aR):Prop where
 bE:T.aP it=af
 fr:Γ.Fr it=af
 L:it≠Γ.L
 cell: ∀x ao,T.σ.g x=ab ao->it∉adr T.ax x ao
section
variable {prog:cO} {w:ba} {A:c2} {E:ah->az->Prop} {s:az} {Γ:bM} {T:bG} {env:dm} {sc:cC} {S:cM} {Kf:bZ} {k:Nat}
theorem aX.apart (N:aX Γ T s) {b:aR} (h: ∀o,s.heap.get? b≠ab o):Apart Γ T b:=
 have f:=N.aY.fresh h
 ⟨f.1,f.2.1,λq=>ak N.lo.ns λm z=>c5 z.1 λo es ep z=>h o (q▸z.1),f.2.2⟩
theorem aX.fresh (N:aX Γ T s):Apart Γ T s.heap.objs.size:=N.apart (zA (fj _))
theorem aX.adopt {Q:Prop} (N:aX Γ T s) {y:Nat} {a:aR} (cP:T.σ.free y=aa) {ao:cc} (b2:Apart Γ T a) (one: ∀ax,adr ax y ao= [ax (2*y)])
  (C: ∀ax U,(∀x,T.U x->U x)->(∀x,T.U x->ax (2*x)=T.ax (2*x))->ax (2*y)=a->lA T.aP ax U s.heap y ao)
  (q: ∀a5,a5.σ=T.σ.add y ao->aX Γ a5 s->T.dS a5->a5.A (.aq y) (.ref a)->a5.ax (2*y)=a->Q):Q:=by
 have f:=XM cP
 have E1: ∀x,T.U x->x≠y:=λx h q=>by
  rw[q] at h
  exact h.elim (λh=>by rw[f.1] at h;exact cm h.1) f.2
 have dN: ∀x,T.U x->dO (T.σ.add y ao).g (T.σ.add y ao).lu x:=λx h=>h.elim (λh=> .inl ⟨by rw[Ca,if_neg (E1 x (.inl h))];exact h.1,h.2⟩) λh=> .inr (Cb.1 x h)
 have oi: ∀x,T.U x->rG T.ax y a (2*x)=T.ax (2*x):=λx h=> (Hf (E1 x h)).1
 have ex:T.dS ⟨T.aP,rG T.ax y a,T.σ.add y ao⟩:=⟨dT.refl _,dN,oi⟩
 have old: ∀x cB,(T.σ.add y ao).g x=ab cB->(x=y/\cB=ao)\/(x≠y/\T.σ.g x=ab cB):=λx cB e=>by
  rw[Ca] at e
  by_cases h:x=y
  ·rw[if_pos h] at e;exact .inl ⟨h,(bQ e).symm⟩
  ·rw[if_neg h] at e;exact .inr ⟨h,e⟩
 have aY:=N.aY.add (y:=y) (ao:=ao) (g':=(T.σ.add y ao).g) (λx h=>Hf h) old (λx h=> ⟨E1 x h,dN x h⟩) (C (rG T.ax y a) _ dN oi wC) λb ag=>by
  rw[Je (one _) ag wC]
  exact⟨b2.bE,b2.fr,b2.cell⟩
 refine q ⟨T.aP,rG T.ax y a,T.σ.add y ao⟩ rfl ⟨aY,⟨?_,N.lo.free,λx cB e=> (old x cB e).elim (λh ag=> ?_) λh ag=> ?_,λx h=> (Cb.2.2 x h).elim (N.lo.lu x) λh=>h⟩,N.base,N.gens,N.os,λx b e=> ⟨dN x (N.pin x b e).1,(oi x (N.pin x b e).1).trans (N.pin x b e).2⟩⟩ ex ⟨?_,congrArg xa wC.symm⟩ wC
 ·refine ak N.lo.ns λm h=> ⟨m,h.1,λn av e=>ak (h.2 n av ?_) λv p=> ⟨v,p.1,p.2.ex ex⟩⟩
  have e:gu n (T.σ.add y ao).loc=ab av:=e
  rw[T1] at e
  exact e
 ·rw[h.1,h.2] at ag
  exact b2.L (Je (one _) ag wC).symm
 ·exact N.lo.b2 x cB h.2 (o2 (Hf h.1) cB▸ag)
 ·show dO (T.σ.add y ao).g (T.σ.add y ao).lu y
  by_cases zo:y<100
  ·exact .inl ⟨by rw[Ca,if_pos rfl];rfl,zo⟩
  ·exact .inr (Cb.2.1 (mv.mp zo))
theorem aX.ahv {y n:Nat} {l cA:List ae} {vs vs':List ah} {f:Array ah->Array ah} {t:Nat} (N:aX Γ T s) (cP:T.σ.g y=ab (.list l)) (cJ:s.heap.get? (T.ax (2*y))=ab (lobj vs n)) (hf:f vs.toArray=vs'.toArray)
  (aA:bC (λa v=>T.A a v/\glob a=aa) cA vs'):
  aX Γ ⟨T.aP,T.ax,T.σ.put y (.list cA)⟩ {s with heap:=s.heap.update (T.ax (2*y)) (Bq f),toks:=t}/\T.dS ⟨T.aP,T.ax,T.σ.put y (.list cA)⟩:=
 N.turn cP (a:=T.ax (2*y)) (.head _) (bo:= .list cA) rfl ⟨vs',_,by have u:=SH (h:=s.heap) (l:=T.ax (2*y)) (items:=vs.toArray) (n:=n) cJ f;rw[hf] at u;exact u,aA⟩
theorem aX.CC (N:aX Γ T s) (bb:Top Kf Γ.base S):2<s.heap.objs.size:=
 ak bb.lim λm h=>c5 h.1 λo es ep h=>oP (N.keeps _ _ h.1)
variable (ay:WP.P=w.params) (Ev:dk sc env Γ S) (bb:Top Kf Γ.base S) (F:iz prog w Kf S Γ.base k)
include ay bb
theorem age {x:Nat} {l:X} (gY:bc prog w Γ k S sc env l):bc prog w Γ k S sc env (.cell x l):=
 .val ay rfl (λp hp {_ _ _ _ _ _} aw N h q=>Te (gY.ow _ _ hp aw N h λbS vs as bk bi aT bl h=>ak h λy h=>
  have g:=gr h.2
  ⟨by rw[gj,<-bl.length];exact pW (b3 g.1).1,(aT.push (lobj vs 0)).adopt (a:=bk.heap.objs.size) (ao:= .list as) (zx h.1) aT.fresh (λ_=>rfl)
   (λax U dN oi e=> ⟨vs,0,by rw[e];exact ju _ rfl,(bl.mono λa v q=>q.mono (dT.refl _) dN oi).aix (b3 g.1).2⟩) λa5 e cR be i3 _=>q a5 _ (.aq y) _ (bi.trans be) cR i3 (by rw[e];exact g.2)⟩)) (λ_ _=>rfl) rfl rfl
theorem agd {x:Nat}:bc prog w Γ k S sc env (.o8 x):=
 .val ay rfl (λp hp {_ _ s _ _ _} aw N h q=>ak h λy h=>wpAny_Dict_empty ((N.push xc).adopt (a:=s.heap.objs.size) (ao:= .dict [] []) (zx h.1) N.fresh (λ_=>rfl)
   (λax U dN oi e=> ⟨[],0,⟨⟨.nil,λk h=>absurd h eI⟩,by rw[e];exact beq_eq_false_iff_ne.mpr λq=>absurd (N.CC bb) (by rw[q];exact Nat.not_lt_zero _∘Nat.lt_of_succ_lt_succ∘Nat.lt_of_succ_lt)⟩,by rw[e];exact ju _ rfl,.nil,.nil⟩) λa5 e cR be i3 _=>q a5 _ (.aq y) _ be cR i3 (by rw[e];exact h.2))) (λ_ _=>rfl) rfl rfl
end
end
section
theorem bC.snoc {α β:Type} {R:α->β->Prop} {l:List α} {m:List β} {a:α} {b:β} (x:bC R l m) (h:R a b):bC R (l++ [a]) (m++ [b]):=x.cG (.cons h .nil)
theorem bC.EQ {α Q6 β:Type} {R:α->β->Prop} {R':Q6->β->Prop} {f:α->Q6} (k: ∀a b,R a b->R' (f a) b) {l:List α} {m:List β} (x:bC R l m):bC R' (l.map f) m:=by
 induction x with
 |nil=>exact .nil
 |cons h _ ai=>exact .cons (k _ _ h) ai
theorem Zk {α:Type} (l:List α):DY l=l.dropLast:=by
 induction l with
 |nil=>rfl
 |cons a l ai=>cases l with
  |nil=>rfl
  |cons b r=>exact congrArg (a:: ·) ai
theorem aaD {α:Type} (l:List α):Ea l=l[l.length-1]? :=by
 induction l with
 |nil=>rfl
 |cons a l ai=>cases l with
  |nil=>rfl
  |cons b r=>exact ai
theorem bC.dropLast {α β:Type} {R:α->β->Prop} {l:List α} {m:List β} (h:bC R l m):bC R l.dropLast m.dropLast:=by
 rw[RO,RO,h.length];exact h.take _
theorem W8 (vs:List ah):(vs.toArray.eraseIdxIfInBounds 0)=(vs.drop 1).toArray:=by
 cases vs with
 |nil=>rfl
 |cons a vs=>simp[Rd]
theorem W9 (vs:List ah):(vs.toArray.eraseIdxIfInBounds (vs.toArray.size-1))=vs.dropLast.toArray:=by
 refine wG.mp ?_
 cases vs with
 |nil=>rfl
 |cons a vs=>
  rw[Rd]
  have:(a::vs).toArray.size-1< (a::vs).toArray.size:=by simp
  rw[dif_pos this]
  have e: ∀(l:List ah) (b:ah),(b::l).eraseIdx l.length=(b::l).dropLast:=by
   intro l
   induction l with
   |nil=>intro b;rfl
   |cons c l ai=>
    intro b
    show b::(c::l).eraseIdx l.length=b::(c::l).dropLast
    rw[ai c]
  simpa using e vs a
variable [WP]
section
variable {prog:cO} {w:ba} {A:c2} {E:ah->az->Prop} {s:az} {Γ:bM} {T:bG} {env:dm} {sc:cC} {S:cM} {Kf:bZ} {k:Nat}
theorem zr {n:String} {v:Expr} {b2 pos:eu} (hm:zq v b2 pos=aa) {Q:ah->az->Prop} (h:bg (bp prog w) A (dz v env) (λe4 bk=>Ij prog w A (cF n) pos e4 [] Q E bk) E s):
  bg (bp prog w) A (dz (.Call (.Attribute v (cF n) b2) [] [] pos) env) Q E s:=Tb (uC (b3 hm).1) rfl (b3 hm).2 rfl h
theorem ES {n:String} {v e:Expr} {b2 pos:eu} (hm:zq v b2 pos=aa) (hs:notStar e=aa) {Q:ah->az->Prop} (h:bg (bp prog w) A (dz v env) (λe4 bk=>Ij prog w A (cF n) pos e4 [(ac,dz e env)] Q E bk) E s):
  bg (bp prog w) A (dz (.Call (.Attribute v (cF n) b2) [e] [] pos) env) Q E s:=
 have e1:i0 pos (h3 [e] env)= [(ac,dz e env)]:=by rw[v9 hs];rfl
 Tb (uC (b3 hm).1) (by rw[e1];rfl) (b3 hm).2 e1 h
theorem noDict {a:aR} {o:bX} (h:s.heap.get? a=ab o) (hd:o.dict=af): ∀b,xa a= .ref b-> ∃aq,s.heap.get? b=ab aq/\aq.dict=af:=λb e=> ⟨o,Bs e▸h,hd⟩
structure tU (Γ:bM) (T:bG) (s:az) (v:ae) (l:List ae) (a:aR) (vs:List ah) (n:Nat):Prop where
 at_:s.heap.get? a=ab (lobj vs n)
 all:bC (λa e=>T.A a e/\glob a=aa) l vs
 turn: ∀{f:Array ah->Array ah} {vs':List ah} {cA:List ae} {t:Nat} {K:St->aB} {Q:az->Prop},f vs.toArray=vs'.toArray->bC (λa e=>T.A a e/\glob a=aa) cA vs'->(putK T.σ (idOf v) (.list cA) K).holds->nE Γ T K Q->Q {s with heap:=s.heap.update a (Bq f),toks:=t}
theorem mY {v:ae} {x:ah} {l:List ae} (N:aX Γ T s) (aW:T.A v x) (h:ib T.σ v=ab l): ∃a vs n,x= .ref a/\tU Γ T s v l a vs n:=
 ak (Ey N aW h) λy c=>bT c.2.2.2.2 λvs n d=> ⟨_,vs,n,c.2.2.2.1,d.1,d.2,λhf aA h q=>
  have t:=N.ahv c.2.2.1 d.1 hf aA
  q _ _ t.2 t.1 (by rw[Ft,c.1] at h;exact h)⟩
theorem tU.kO {v:ae} {l:List ae} {a:aR} {vs:List ah} {n:Nat} (L:tU Γ T s v l a vs n) (h:cn l=aa):vs.length<=1000000:=by rw[<-L.all.length];exact pV h
theorem tU.no {v:ae} {l:List ae} {a:aR} {vs:List ah} {n:Nat} (L:tU Γ T s v l a vs n):s.TypeIs (.ref a) "list" /\ ∀b,xa a= .ref b-> ∃aq,s.heap.get? b=ab aq/\aq.dict=af:=⟨⟨_,L.at_,rfl⟩,noDict L.at_ rfl⟩
theorem pG {n:Nat} (h:n<=1000000):n+1000000<=d0/\n<=d0:=by rw[gj];omega
variable (ay:WP.P=w.params)
include ay
theorem af9 {o a:X} (dM:bc prog w Γ k S sc env o) (br:bc prog w Γ k S sc env a):bc prog w Γ k S sc env (.cG o a):=by
 refine .val ay rfl (λp hp A E s T K Q aw N h q=>ES (d1 hp).1 (d1 hp).2.1 (dM.cX _ (d1 hp).2.2.1 aw N h λbS v av bk bi aT bl h=>ak (dp h) λl h=>c5 (mY aT bl h.1) λb vs n L=> ?_)) (λ_ _=>rfl) rfl rfl
 rw[L.1] at bl⊢
 refine⟨"list","list.append",Bo,Sv,F.type_list_append,L.2.no.1,L.2.no.2,P.append_list (br.cX _ (d1 hp).2.2.2 aw aT h.2 λfk u dE dh cD bR dF h=>ak (dp h) λcA h=>c5 (mY bR (bl.ex cD) h.1) λfO vs' fA L=> ?_)⟩
 rw[Bs L.1]
 exact⟨vs'.toArray,fA,(pG (L.2.kO h.2.1)).2,L.2.at_,L.2.turn (vs':=vs'++ [u]) (f:=λxs=>xs.push u) (R0 _ _) (L.2.all.snoc ⟨dF,(gr h.2.2).1⟩) (gr h.2.2).2 λi2 fV eX dU h=> (q.ex ((bi.trans cD).trans eX)).fr dU .none h⟩
theorem agl {o a:X} (dM:bc prog w Γ k S sc env o) (br:bc prog w Γ k S sc env a):bc prog w Γ k S sc env (.ext o a):=by
 refine .val ay rfl (λp hp A E s T K Q aw N h q=>ES (d1 hp).1 (d1 hp).2.1 (dM.cX _ (d1 hp).2.2.1 aw N h λbS v av bk bi aT bl h=>ak (dp h) λl h=>c5 (mY aT bl h.1) λb vs n L=> ?_)) (λ_ _=>rfl) rfl rfl
 rw[L.1] at bl⊢
 refine⟨"list","list.extend",Bo,F.slot_list_extend,F.type_list_extend,L.2.no.1,L.2.no.2,P.extend_list (br.cX _ (d1 hp).2.2.2 aw aT h.2 λfk u dE dh cD bR dF h=>ak (dp h) λcA h=>c5 (mY bR (bl.ex cD) h.1) λfO vs' fA L=>ak (dp h.2) λm h=> ?_)⟩
 rw[xG h.1] at dF
 refine c5 (bq.i dF) λc ws gN f=> ?_
 have z:=L.2.kO h.2.1.1
 have mj:ws.length<=1000000:=by rw[<-f.2.2.length];exact pV h.2.1.2
 have wA:vs'.length+ws.length<=d0:=bf (iX mj _) (pG z).1
 rw[Bs L.1]
 refine⟨c,vs'.toArray,ws.toArray,fA,gN,(pG z).2,tV wA, ?_,f.1,L.2.at_,bR.aY.bE _ _ f.2.1,L.2.turn (vs':=vs'++ws) (f:=λxs=>xs++ws.toArray) (HG _ _) (L.2.all.cG (f.2.2.to.EQ λ_ _ h=> ⟨h,rfl⟩)) h.2.2 λi2 fV eX dU h=> (q.ex ((bi.trans cD).trans eX)).fr dU .none h⟩
 rw[show Sp (vs'.toArray.size+ws.toArray.size)=ac from decide_eq_false (mv.mpr wA),hq]
 exact oC
theorem agN {o:X} (dM:bc prog w Γ k S sc env o):bc prog w Γ k S sc env (.ri o):=by
 refine .val ay rfl (λp hp A E s T K Q aw N h q=>ES (b3 hp).1 rfl (dM.cX _ (b3 hp).2 aw N h λbS v av bk bi aT bl h=>ak (dp h) λl h=>c5 (mY aT bl h.1) λb vs n L=>ak (dp h.2) λu h=> ?_)) (λ_ _=>rfl) rfl rfl
 rw[L.1]
 have h:=h
 rw[List.head?_eq_getElem?,<-List.drop_one] at h
 refine ak (qr L.2.all h.1) λc g=> ⟨"list","list.pop",Bo,Sy,SE,L.2.no.1,L.2.no.2,P.pop_at_list (Td ?_)⟩
 have l:=(A5.mp g.1).1
 exact⟨vs.toArray,n,0,bk.toks,0,c,(pG (L.2.kO h.2.1)).2,rfl,L.2.at_,by decide,MJ (n:=0) l,lD.trans g.1,
   L.2.turn (vs':=vs.drop 1) (f:=λxs=>xs.eraseIdxIfInBounds 0) (W8 vs) (L.2.all.drop 1) h.2.2 λi2 fV eX dU h=>q _ _ _ _ (bi.trans eX) dU (g.2.1.ex eX) h⟩
theorem agO {o:X} (dM:bc prog w Γ k S sc env o):bc prog w Γ k S sc env (.rj o):=by
 refine .val ay rfl (λp hp A E s T K Q aw N h q=>zr (b3 hp).1 (dM.cX _ (b3 hp).2 aw N h λbS v av bk bi aT bl h=>ak (dp h) λl h=>c5 (mY aT bl h.1) λb vs n L=>ak h.2 λu h=> ?_)) (λ_ _=>rfl) rfl rfl
 rw[L.1]
 have h:=h
 rw[aaD,Zk] at h
 refine ak (qr L.2.all h.1) λc g=> ⟨"list","list.pop",Bo,Sy,SE,L.2.no.1,L.2.no.2,P.pop_list L.2.at_ (y:=c) ?_ (L.2.turn (vs':=vs.dropLast) (f:=λxs=>xs.eraseIdxIfInBounds (vs.toArray.size-1)) (W9 vs) L.2.all.dropLast h.2.2 λi2 fV eX dU h=>q _ _ _ _ (bi.trans eX) dU (g.2.1.ex eX) h) (pG (L.2.kO h.2.1)).2⟩
 rw[hr,<-L.2.all.length]
 exact lD.trans g.1
end
end
section
theorem XE (xs:List (List Nat)): ∀a:List Nat,((xs.map aK).foldl (λacc p=>acc++(aK []).cps++p.cps) a.toArray)=(a++a0 xs).toArray:=by
 induction xs with
 |nil=>exact λa=>by rw[show a0 []= [] from rfl,dj];rfl
 |cons x xs ai=>
  intro a
  have e:a.toArray++(aK []).cps++(aK x).cps=(a++x).toArray:=by simp
  exact(congrArg (λb=> (xs.map aK).foldl (λacc p=>acc++(aK []).cps++p.cps) b) e).trans ((ai (a++x)).trans (by rw[bt];rfl))
theorem X8 (xs:List (List Nat)):Txt.join (aK []) (xs.map aK)=aK (a0 xs):=by
 cases xs with
 |nil=>rfl
 |cons x xs=>exact congrArg rV (XE xs x)
theorem XF (xs:List (List Nat)): ∀n:Nat,((xs.map aK).foldl (λa x=>a+x.length+(aK []).length) n)=n+(a0 xs).length:=by
 induction xs with
 |nil=>exact λn=>rfl
 |cons x xs ai=>exact λn=> (ai (n+x.length)).trans (by rw[p9,<-bL];rfl)
theorem ZH (xs:List (List Nat)) (h:SZ (a0 xs).length):JoinOk (aK []) (xs.map aK)=aa:=by
 unfold JoinOk
 rw[List.foldl_toArray,XF xs 0,jt]
 unfold Sq
 rw[gj]
 have h:(a0 xs).length<=16777216:=h
 simp;omega
theorem adG (x y:List Nat):SO (aK x) (aK y)=pre y x:=by
 unfold SO
 rw[show(aK x).length=x.length from hr ..,show(aK y).length=y.length from hr ..,AN,zQ]
 simp only[jt,gF,decide_eq_true_eq]
 constructor
 ·exact λh=>bT ((Ac (by rw[jt];exact h.1)).mp h.2) λa z q=> ⟨z,by rw[q.2,wW q.1];rfl⟩
 ·intro h
  refine ak h λz e=> ?_
  have l:y.length<=x.length:=by rw[e,bL];exact gH _ _
  exact⟨l,(Ac (by rw[jt];exact l)).mpr ⟨[],z,rfl,e⟩⟩
variable [WP]
theorem Qo {F:bh} {fs:List aj} {vs:List ah} (h:bC (bq F) fs vs): ∀{xs:List (List Nat)},kN fs=ab xs-> ∃gg:List Tok,vs=BM ((xs.map aK).zip gg)/\gg.length=xs.length:=by
 induction h with
 |nil=>exact λh=>by rw[<-bQ h];exact⟨[],rfl,rfl⟩
 | @cons v x fs vs aW t ai=>
  intro xs h
  cases v with
  |str y=>
   have h:(match kN fs with
    |some l=>ab (y::l)
    |none=>af)=ab xs:=h
   revert h
   cases e:kN fs with
   |none=>exact λh=>a3 h
   |some l=>
    refine λh=>ak (ai e) λgg i=>ak (fR aW) λu q=> ?_
    rw[<-bQ h,q.1,i.1]
    exact⟨u::gg,rfl,congrArg tY i.2⟩
  |_=>exact a3 h
section
variable {prog:cO} {w:ba} {A:c2} {E:ah->az->Prop} {s:az} {Γ:bM} {T:bG} {env:dm} {sc:cC} {S:cM} {Kf:bZ} {k:Nat}
theorem OJ {n:String} {v e:Expr} {b2 pos:eu} (hm:zq v b2 pos=aa) (hs:notStar e=aa) {Q:ah->az->Prop} (h:bg (bp prog w) A (dz v env) (λe4 bk=>MethodOnS prog w A E (cF n) e4 pos [(ac,dz e env)] Q bk) E s):
  bg (bp prog w) A (dz (.Call (.Attribute v (cF n) b2) [e] [] pos) env) Q E s:=
 have e1:i0 pos (h3 [e] env)= [(ac,dz e env)]:=by rw[v9 hs];rfl
 wpAny_Call_method_lateS (uC (b3 hm).1) (by rw[e1];rfl) (b3 hm).2 (by rw[e1];exact h)
theorem ZG {v:ae} {x:ah} {xs:List (List Nat)} (N:aX Γ T s) (aW:T.A v x) (e:D4 v T.σ=ab xs): ∃a vs,x= .ref a/\s.heap.IsList a vs.toArray/\ ∃gg:List Tok,vs=BM ((xs.map aK).zip gg)/\gg.length=xs.length:=by
 have cell:(match ib T.σ v with
  |some l=>match eN l with
   |some fs=>kN fs
   |none=>af
  |none=>af)=ab xs-> ∃a vs,x= .ref a/\s.heap.IsList a vs.toArray/\ ∃gg:List Tok,vs=BM ((xs.map aK).zip gg)/\gg.length=xs.length:=λe=>by
  revert e
  cases dw:ib T.σ v with
  |none=>exact λe=>a3 e
  |some l=>
   refine c5 (mY N aW dw) λa vs n L=> ?_
   show(match eN l with
    |some fs=>kN fs
    |none=>af)=ab xs-> ∃a vs,x= .ref a/\s.heap.IsList a vs.toArray/\ ∃gg:List Tok,vs=BM ((xs.map aK).zip gg)/\gg.length=xs.length
   cases kD:eN l with
   |none=>exact λe=>a3 e
   |some fs=>exact λe=> ⟨a,vs,L.1,⟨_,L.2.at_,rfl,_,rfl⟩,Qo (nf L.2.all (λ_ _ h=>h.1) kD) e⟩
 cases v with
 |f v=>cases v with
  |lst l=>exact c5 (bq.i aW) λa vs n f=> ⟨a,vs,f.1,⟨_,N.aY.bE _ _ f.2.1,rfl,_,rfl⟩,Qo f.2.2.to e⟩
  |_=>exact cell e
 |_=>exact cell e
variable (ay:WP.P=w.params)
include ay
theorem agv {a b:X} (br:bc prog w Γ k S sc env a) (cV:bc prog w Γ k S sc env b):bc prog w Γ k S sc env (.join a b):=by
 refine .val ay rfl (λp hp A E s T K Q aw N h q=>OJ (d1 hp).1 (d1 hp).2.1 (br.cX _ (d1 hp).2.2.1 aw N h λbS v av bk bi aT bl h=>ak (dp h) λz h=> ?_)) (λ_ _=>rfl) rfl rfl
 rw[mF h.1] at bl
 have h:=gr h.2
 rw[HQ.mp h.1] at bl
 refine ak (fR bl) λt e=> ?_
 rw[e.1]
 refine SB.join (cV.cX _ (d1 hp).2.2.2 aw aT h.2 λfk u dE dh cD bR dF h=>ak h λxs h=>bT (ZG bR dF h.1) λD vs i=>ak i.2.2 λgg j=> ⟨D,(xs.map aK).zip gg,i.1,by rw[<-j.1];exact i.2.1,xs.map aK,List.map_fst_zip (by rw[eg];exact fi j.2.symm),ZH xs h.2.1,λdR k=> ?_⟩)
 rw[X8]
 exact(q.ex (bi.trans cD)).fr (bR.toks k) (.str _ _ (by rw[gj];exact h.2.1)) h.2.2
theorem agS {a b:X} (br:bc prog w Γ k S sc env a) (cV:bc prog w Γ k S sc env b):bc prog w Γ k S sc env (.tr a b):=by
 refine .val ay rfl (λp hp A E s T K Q aw N h q=>OJ (d1 hp).1 (d1 hp).2.1 (br.cX _ (d1 hp).2.2.1 aw N h λbS v av bk bi aT bl h=>ak (dp h) λx h=> ?_)) (λ_ _=>rfl) rfl rfl
 rw[mF h.1] at bl
 refine ak (fR bl) λt e=> ?_
 rw[e.1]
 refine SB.startswith (cV.cX _ (d1 hp).2.2.2 aw aT h.2 λfk u dE dh cD bR dF h=>ak (dp h) λy h=> ?_)
 rw[mF h.1] at dF
 refine ak (fR dF) λg5 e=> ⟨_,g5,e.1, ?_⟩
 rw[adG]
 exact(q.ex (bi.trans cD)).fr bR (.bool _) h.2
end
end
section
variable [WP]
abbrev bM.hold (Γ:bM) (it:aR) (o:bX):bM:={Γ with Fr:=Γ.Fr.ins it o}
theorem aX.hold {Γ:bM} {T:bG} {s:az} {it:aR} {o:bX} (N:aX Γ T s) (a:Apart Γ T it) (h:s.heap.get? it=ab o):aX (Γ.hold it o) T s:=by
 refine⟨⟨N.aY.bE,λb x e=> ?_,N.aY.cell,λx ao e b ag=> ⟨(N.aY.ca x ao e b ag).1,(bh.gb _ _ λq=>a.cell x ao e (by rw[<-q];exact ag)).trans (N.aY.ca x ao e b ag).2⟩,N.aY.gn⟩,⟨N.lo.ns,⟨N.lo.free.1,(bh.gb _ _ (iZ a.L)).trans N.lo.free.2⟩,N.lo.b2,N.lo.lu⟩,N.base,N.gens,N.os,N.pin⟩
 by_cases q:b=it
 ·rw[q] at e⊢
  exact⟨bQ ((bh.gc _ _ _).symm.trans e)▸h,a.bE⟩
 ·exact N.aY.fr b x ((bh.gb _ _ q).symm.trans e)
theorem y0 {F:bh} {it b:aR} {o x:bX} (hf:F it=af) (e:F b=ab x):F.ins it o b=ab x:=(bh.gb _ _ λq=>by rw[q,hf] at e;exact a3 e).trans e
theorem dk.hold {sc:cC} {env:dm} {Γ:bM} {S:cM} {it:aR} {o:bX} (E:dk sc env Γ S) (hf:Γ.Fr it=af):dk sc env (Γ.hold it o) S:=
 ⟨E.scope,E.kind,E.loc,E.i8,E.blt,λn v e=>c5 (E.clo n v e) λc aq x h=> ⟨c,aq,x,h.1,y0 hf h.2.1,h.2.2⟩⟩
theorem sS {F:bh} {it b:aR} {o:bX} (e:F.ins it o b=af):b≠it/\F b=af:=
 have q:b≠it:=λq=>by rw[q,bh.gc] at e;cases e
 ⟨q,(bh.gb _ _ q).symm.trans e⟩
theorem aX.loose {Γ:bM} {T:bG} {s:az} {it:aR} {o:bX} (N:aX (Γ.hold it o) T s) (hf:Γ.Fr it=af):aX Γ T s/\Apart Γ T it/\s.heap.get? it=ab o:=
 have pF:=N.aY.fr it o (bh.gc _ _ _)
 ⟨⟨⟨N.aY.bE,λb x e=>N.aY.fr b x (y0 hf e),N.aY.cell,λx ao e b ag=> ⟨(N.aY.ca x ao e b ag).1,(sS (N.aY.ca x ao e b ag).2).2⟩,N.aY.gn⟩,⟨N.lo.ns,⟨N.lo.free.1,(sS N.lo.free.2).2⟩,N.lo.b2,N.lo.lu⟩,N.base,N.gens,N.os,N.pin⟩,
  ⟨pF.2,hf,λq=> (sS N.lo.free.2).1 q.symm,λx ao e ag=> (sS (N.aY.ca x ao e it ag).2).1 rfl⟩,pF.1⟩
theorem aX.step {Γ:bM} {T:bG} {s:az} {it:aR} {h':cw} {t:Nat} (N:aX Γ T s) (a:Apart Γ T it) (k: ∀b o,b≠it->s.heap.get? b=ab o->h'.get? b=ab o):aX Γ T {s with heap:=h',toks:=t}:=
 ⟨⟨λb o e=>k b o (λq=>by rw[q,a.bE] at e;exact a3 e) (N.aY.bE b o e),λb o e=> ⟨k b o (λq=>by rw[q,a.fr] at e;exact a3 e) (N.aY.fr b o e).1,(N.aY.fr b o e).2⟩,
  λx ao e=>ix (dT.refl _) (λ_ h=>h) (λ_ _=>rfl) (λb ag=>ak (lM (N.aY.cell x ao e) b ag) λo ap=>ap.trans (k b o (λq=>a.cell x ao e (by rw[<-q];exact ag)) ap).symm) rfl rfl (N.aY.cell x ao e),N.aY.ca,N.aY.gn⟩,
  ⟨ak N.lo.ns λm h=> ⟨m,c5 h.1 λo es ep h=> ⟨o,es,ep,k _ _ (iZ a.L) h.1,h.2⟩,h.2⟩,N.lo.free,N.lo.b2,N.lo.lu⟩,N.base,N.gens,N.os,N.pin⟩
section
variable {prog:cO} {w:ba} {A:c2} {E:ah->az->Prop} {s:az} {Γ:bM} {T:bG} {env:dm} {sc:cC} {S:cM} {Kf:bZ} {k:Nat}
structure Iter (prog:cO) (w:ba) (it:aR) (J:List ae->bX->bh->Prop):Prop where
 up: ∀l o F g9,dT F g9->J l o F->J l o g9
 next: ∀(A:c2) (E:ah->az->Prop) (v:ae) (l:List ae) (o:bX) (F:bh) (s:az) (Q:Option ah->az->Prop),A.handled=af->(∀b x,F b=ab x->s.heap.get? b=ab x)->s.heap.get? it=ab o->J (v::l) o F->
  (∀h' dR x eh,(∀ax U,ec F ax U v x)->(∀b y,b≠it->s.heap.get? b=ab y->h'.get? b=ab y)->h'.get? it=ab eh->J l eh F->Q (ab x) {s with heap:=h',toks:=dR})->bg (bp prog w) A (pyNext (.ref it)) Q E s
 stop: ∀(A:c2) (E:ah->az->Prop) (o:bX) (F:bh) (s:az) (Q:Option ah->az->Prop),A.handled=af->(∀b x,F b=ab x->s.heap.get? b=ab x)->s.heap.get? it=ab o->J [] o F->
  (∀h' dR,(∀b y,b≠it->s.heap.get? b=ab y->h'.get? b=ab y)->Q af {s with heap:=h',toks:=dR})->bg (bp prog w) A (pyNext (.ref it)) Q E s
structure HC (Γ:bM) (T:bG) (s:az) (it:aR) (J:List ae->bX->bh->Prop) (L:List ae->St->Prop) (m:Nat) (l:List ae) (a5:bG) (o:bX):Prop where
 len:l.length=m
 x:T.dS a5
 N:aX Γ a5 s
 a:Apart Γ a5 it
 bW:s.heap.get? it=ab o
 J:J l o a5.aP
 h:L l a5.σ
theorem u3 {it:aR} {J:List ae->bX->bh->Prop} {n:Nat} {b:Q7.S} {body:List ct} {l6:eu} (I:Iter prog w it J) (Ev:dk sc env Γ S) (aA:fH sc (nm n)=aa)
  (cV: ∀o,Γ.Fr it=af->qj prog w (Γ.hold it o) k (bN S b) (nB body env)) {l:List ae} {o:bX} {K:cE->St->aB} (aw:fu A k) (N:aX Γ T s) (a:Apart Γ T it) (bW:s.heap.get? it=ab o) (h7:J l o T.aP) (h:gX n (bN S b) l T.σ λf σ=> (K f σ).holds)
  {R:ny->az->Prop} (q:nD Γ T K λf=>R (.ok f)):nA (bp prog w) A (.forLoop (.Name (nm n) l6) (.ref it) body [] env) R s:=by
 refine S1 (λm s=> ∃l a5 o,HC Γ T s it J (λl σ=>gX n (bN S b) l σ λf σ=> (K f σ).holds) m l a5 o) (λm bk c8=>c5 c8 λl bS o c8=> ?_) l.length ⟨l,T,o,rfl,.refl T,N,a,bW,h7,h⟩
 cases l with
 |nil=>exact I.stop A _ o bS.aP bk _ aw.2.2 c8.N.aY.bE c8.bW c8.J λh' dR aS=>uc (q.aQ _ _ c8.x (c8.N.step c8.a aS) c8.h)
 |cons v l=>
  refine I.next A _ v l o bS.aP bk _ aw.2.2 c8.N.aY.bE c8.bW c8.J λh' dR x eh aH aS yT u7=> ?_
  refine qe (pX (K:=λσ=>bN S b σ (cq (q1 (λσ=>gX n (bN S b) l σ λf σ=> (K f σ).holds) λf σ=> (K f σ).holds))) (Γ:=Γ.hold it eh) (Ev.hold c8.a.fr) aA ((c8.N.step (t:=dR) c8.a aS).hold c8.a yT) (aH _ _) (by rw[v8];exact c8.h) λi2 fV eX dU h=>
   cV eh c8.a.fr aw dU h λkZ g f iS g7 fN hf h=> ?_)
  have gR:=fN.loose c8.a.fr
  have be:=(c8.x.trans eX).trans g7
  have on:(q1 (λσ=>gX n (bN S b) l σ λf σ=> (K f σ).holds) (λf σ=> (K f σ).holds) af kZ.σ)-> ∃j,j<m/\ ∃l a5 o,HC Γ T iS it J (λl σ=>gX n (bN S b) l σ λf σ=> (K f σ).holds) j l a5 o:=λh=>
   ⟨l.length,c8.len▸nu _,l,kZ,eh,rfl,be,gR.1,gR.2.1,gR.2.2,I.up l eh _ _ (eX.bE.trans g7.bE) u7,h⟩
  cases g with
  |aQ=>rw[hf];exact on h
  |df=>rw[hf];exact on h
  |c0=>rw[hf];exact q.aQ _ _ be gR.1 h
  |hG v=>exact ak hf λy e=>by rw[e.1];exact q _ (.hG v) _ _ be gR.1 ⟨y,rfl,e.2⟩ h
end
end
section
theorem C6 {α β:Type} {g:α->β} {x:List α} {v:β} {l:List β}: ∀{i:Nat},v::l=(x.drop i).map g-> ∃c,x[i]? =ab c/\v=g c/\l=(x.drop (i+1)).map g:=by
 induction x with
 |nil=>exact λ{i} h=>by rw[A2] at h;cases h
 |cons a x ai=>exact λ{i} h=>by cases i with
  |zero=>exact⟨a,rfl,(gw h).1,(gw h).2⟩
  |succ i=>exact ai h
theorem C7 {α β:Type} {g:α->β} {x:List α} {i:Nat} (h: []=(x.drop i).map g):x[i]? =af:=by
 rw[<-Nat.add_zero i,<-RS,RW.mp h.symm];rfl
theorem U3 (x:List Nat):qB x=x.map λc=> .f (.str [c]):=by
 induction x with
 |nil=>rfl
 |cons c x ai=>exact congrArg (ae.f (.str [c]):: ·) ai
theorem Z0 (x:List (List Nat)):za x=x.map λc=> .f (.str c):=by
 induction x with
 |nil=>rfl
 |cons c x ai=>exact congrArg (ae.f (.str c):: ·) ai
variable [WP]
section
variable {prog:cO} {w:ba}
theorem ZA (it:aR) (x:List Nat) (t:Tok):Iter prog w it λl o _=> ∃i:Nat,o.cls= .type (r2 (aK x))/\o.data= .fields #[.str (aK x) t,.int i 0]/\l=(x.drop i).map λc=> .f (.str [c]) where
 up:=λl o F g9 _ h=>h
 next:=λA E v l o F s Q aw _ bW h7 q=>ak h7 λi J=>ak (C6 J.2.2) λc d=>by
  have hit:s.heap.IsStrIter it (r2 (aK x)) (aK x) t i:=⟨o,bW,J.1,J.2.1⟩
  have fin: ∀h',h'.IsStrIter it (r2 (aK x)) (aK x) t (i+1)->Bp it s.heap h'->Q (ab (.str ⟨#[c]⟩ s.toks)) {s with heap:=h',toks:=s.toks+1}:=λh' k hs=>ak k λeh k=>
   q h' _ _ eh (λax U=> (by rw[d.2.1];exact bq.str [c] _ (by show 1<=d0;decide))) (λb y ag e=> (hs.2 b ag).trans e) k.1 ⟨i+1,k.2.1,k.2.2,d.2.2⟩
  have aH:(aK x).cps[i]? =ab c:=lD.trans d.1
  unfold r2 at hit fin
  by_cases z:(aK x).cps.all (· <128)=aa
  ·rw[if_pos z] at hit fin
   exact wpAny_pyNext_ascii_item hit aH fin
  ·rw[if_neg z] at hit fin
   exact wpAny_pyNext_wide_item hit aH fin
 stop:=λA E o F s Q aw _ bW h7 q=>ak h7 λi J=>by
  have aH:(aK x).cps[i]? =af:=lD.trans (C7 J.2.2)
  have hit:s.heap.IsStrIter it (r2 (aK x)) (aK x) t i:=⟨o,bW,J.1,J.2.1⟩
  unfold r2 at hit
  by_cases z:(aK x).cps.all (· <128)=aa
  ·rw[if_pos z] at hit
   exact wpAny_pyNext_ascii_end aw hit aH λh' hs=>q h' s.toks hs
  ·rw[if_neg z] at hit
   exact wpAny_pyNext_wide_end aw hit aH λh' hs=>q h' s.toks hs
theorem y9 (it a:aR) (n:Nat) (vs:List ah) (fs:List aj):Iter prog w it λl o F=> ∃i:Nat,o.cls= .type "list_iterator" /\o.data= .fields #[.ref a,.int i 0]/\l=(fs.drop i).map .f/\F a=ab (lobj vs n)/\bC (bq F) fs vs where
 up:=λl o F g9 k h=>ak h λi h=> ⟨i,h.1,h.2.1,h.2.2.1,k _ _ h.2.2.2.1,h.2.2.2.2.mono λ_ _=>bq.mono k⟩
 next:=λA E v l o F s Q aw hx bW h7 q=>ak h7 λi J=>ak (C6 J.2.2.1) λc d=>ak (qr J.2.2.2.2 d.1) λx g=>
  wpAny_pyNext_list_item (l:=a) (i:=i) (items:=vs.toArray) (x:=x) ⟨o,bW,J.1,J.2.1⟩ ⟨_,hx _ _ J.2.2.2.1,rfl,_,rfl⟩ (lD.trans g.1) λh' k hs=>ak k λeh k=>
   q h' s.toks x eh (λax U=> (by rw[d.2.1];exact g.2)) (λb y ag e=> (hs.2 b ag).trans e) k.1 ⟨i+1,k.2.1,k.2.2,d.2.2,J.2.2.2.1,J.2.2.2.2⟩
 stop:=λA E o F s Q aw hx bW h7 q=>ak h7 λi J=>
  wpAny_pyNext_list_end aw (l:=a) (i:=i) (items:=vs.toArray) ⟨o,bW,J.1,J.2.1⟩ ⟨_,hx _ _ J.2.2.2.1,rfl,_,rfl⟩ (lD.trans (wZ.mpr (J.2.2.2.2.length▸wZ.mp (C7 J.2.2.1)))) λh' hs=>q h' s.toks hs
theorem M4 (it:aR):Iter prog w it λl o _=> ∃(a:Int) (m:Nat),(∀h:cw,h.get? it=ab o->IsRangeIter h it a m 1)/\l=ob a m where
 up:=λl o F g9 _ h=>h
 next:=λA E v l o F s Q aw hx bW h7 q=>bT h7 λa m J=>by
  cases m with
  |zero=>exact absurd J.2 (HH _ _)
  |succ m=>
   have e:=gw J.2
   refine wpAny_pyNext_range_item (J.1 _ bW) (RA.mpr (w7 m)) λh' bj hs=> ?_
   rw[show((m+1:Nat):Int) -1=m by omega] at bj
   exact q h' (s.toks+1) _ _ (λax U=> (by rw[e.1];exact bq.int a _)) (λb y ag e=> (hs.2 b ag).trans e) bj ⟨a+1,m,λh e=>e,e.2⟩
 stop:=λA E o F s Q aw hx bW h7 q=>bT h7 λa m J=>by
  cases m with
  |zero=>exact wpAny_pyNext_range_end aw (J.1 _ bW) (Int.le_refl 0) λh' hs=>q h' s.toks hs
  |succ m=>exact absurd J.2.symm (HH _ _)
theorem Z3 {ks:List (List Nat)} {es:List cT} (h:gi ks es): ∀{i:Nat} {c:List Nat},ks[i]? =ab c-> ∃v,(kvs ks es)[i]? =ab (aK c,v):=by
 induction h with
 |nil=>exact λh=>a3 h
 | @cons k e ks es _ _ ai=>exact λ{i c} h=>by cases i with
  |zero=>exact⟨e.val,by rw[<-bQ h];rfl⟩
  |succ i=>exact ai h
theorem so {h:cw} {a:aR} {ks:List (List Nat)} {es:List cT} {n:Nat} (ay:WP.P=w.params) (aE:h.get? a=ab (eD es n)) (bY:ks.Nodup) (aS:gi ks es):
  h.DictAt (strKind prog w) a (kvs ks es) n:=
 ⟨_,es.toArray,aE,⟨rfl,rfl,rfl⟩,rfl,λe he=>aS.keys ay e (wF.mpr he),Nl aS,by
  rw[sV aS]
  exact A0 aK (λa b sI e=>sI (v7 e)) bY⟩
theorem Zz (ay:WP.P=w.params) (it d:aR) (ep:Nat) {es:List cT} {ks:List (List Nat)} (bY:ks.Nodup/\ ∀k∈ks,k.length<=d0) (aS:gi ks es):Iter prog w it λl o F=> ∃i:Nat,o.cls= .type "dict_keyiterator" /\o.data= .fields #[.ref d,.int i 0,.int (kvs ks es).length 0,.int ep 0]/\l=(ks.drop i).map (λc=> .f (.str c))/\F d=ab (eD es ep) where
 up:=λl o F g9 k h=>ak h λi h=> ⟨i,h.1,h.2.1,h.2.2.1,k _ _ h.2.2.2⟩
 next:=λA E v l o F s Q aw hx bW h7 q=>ak h7 λi J=>ak (C6 J.2.2.1) λc d=>ak (Z3 aS d.1) λv aW=>
  wpAny_pyNext_dict_item (kvs:=kvs ks es) (i:=i) (ep:=ep) ⟨o,bW,J.1,J.2.1⟩ (so (prog:=prog) ay (hx _ _ J.2.2.2) bY.1 aS) aW λkey h' YH k hs=>ak k λeh k=>ak (Iq YH) λt e=>
   q h' s.toks _ eh (λax U=> (by rw[d.2.1,e];exact bq.str c t (bY.2 c (HT d.1)))) (λb y ag e=> (hs.2 b ag).trans e) k.1 ⟨i+1,k.2.1,k.2.2,d.2.2,J.2.2.2⟩
 stop:=λA E o F s Q aw hx bW h7 q=>ak h7 λi J=>
  Tn aw (kvs:=kvs ks es) (i:=i) (ep:=ep) ⟨o,bW,J.1,J.2.1⟩ (so (prog:=prog) ay (hx _ _ J.2.2.2) bY.1 aS)
   (wZ.mpr (by rw[n4 aS,<-aS.length];exact wZ.mp (C7 J.2.2.1))) λh' hs=>q h' s.toks hs
end
end
section
theorem E9 {it:Expr} {env:dm} {x:ah}:zC it=aa->S4 it env x=pure x:=by
 cases it with
 |Set=>exact cm
 |_=>exact λ_=>rfl
variable [WP]
section
variable {prog:cO} {w:ba} {A:c2} {E:ah->az->Prop} {s:az} {Γ:bM} {T:bG} {env:dm} {sc:cC} {S:cM} {Kf:bZ} {k:Nat}
theorem XG {n:aZ} {l6:eu} {body:List ct} {y:Nat} {l:List ae} {K:cE->St->aB} (ay:WP.P=w.params) (aw:fu A k) (N:aX Γ T s) (cP:T.σ.g y=ab (.dict [] l)) (h:(K .aQ T.σ).holds)
  {R:ny->az->Prop} (q:nD Γ T K λf=>R (.ok f)):bg (bp prog w) A (pyIter (.ref (T.ax (2*y)))) (λit dh=>nA (bp prog w) A (.forLoop (.Name n l6) it body [] env) R dh) E s:=by
 refine c5 (N.aY.cell y _ cP) λes m bY c=> ?_
 have D:=so (prog:=prog) ay c.1 bY.1.1 c.2.1
 have z:(kvs [] es).length=0:=n4 c.2.1▸c.2.1.length.symm
 refine Th bY.2 D (S1 (λk s'=>s'={s with heap:=s.heap.push {cls:= .type "dict_keyiterator",data:= .fields #[.ref (T.ax (2*y)),.int 0 0,.int (kvs [] es).length 0,.int m 0]}}) (λk s' e=> ?_) 0 rfl)
 rw[e]
 exact Tn aw.2.2 (d:=T.ax (2*y)) (kvs:=kvs [] es) (i:=0) (ep:=m) ⟨_,ju _ rfl,rfl,rfl⟩ (D.push _) (wZ.mpr (fi z)) λh' hs=>
  uc (q.aQ _ _ (.refl T) ((N.push _).step (t:=s.toks) N.fresh hs) h)
variable (ay:WP.P=w.params) (Ev:dk sc env Γ S) (bb:Top Kf Γ.base S)
include ay Ev
theorem aeR {n:Nat} {x:X} {b:Q7.S} (co:bc prog w Γ k S sc env x) (cV: ∀dY:bM,dk sc env dY S->dY.base=Γ.base->ew prog w dY k S sc env b):ew prog w Γ k S sc env (.fr n x b):=by
 refine .of (λp hp A E s T K Q aw N h q=>BO (co.cX _ (d1 hp).2.2.1 aw N h λbS v av bk bi aT bl h=> ?_) (λ_=>E9 (d1 hp).2.1)) rfl
 have body: ∀it o,Γ.Fr it=af->qj prog w (Γ.hold it o) k (bN S b) (nB ((dH sc b).b0 (jr p)) env):=λit o hf=> (cV (Γ.hold it o) (Ev.hold hf) rfl).b _ (d1 hp).2.2.2
 have fin:=q.ex bi
 cases av with
 |dy _ _=>exact h.elim
 |aq y=>
  rw[bl.2]
  have h:(cv (match bS.σ.g y with
   |some (.dict [] _)=>ab []
   |_=>af) λl=> .sub (gX n (bN S b) l bS.σ) K).holds:=h
  revert h
  cases cP:bS.σ.g y with
  |none=>exact fL
  |some ao=>cases ao with
   |dict ks l=>cases ks with
    |nil=>exact λh=>XG (k:=k) ay aw aT cP h fin
    |cons _ _=>exact fL
   |_=>exact fL
 |f v=>cases v with
  |str y=>
   refine ak (fR bl) λt e=> ?_
   rw[e.1]
   exact wpAny_pyIter_strU (u3 (ZA _ y t) Ev (d1 hp).1 (body _) aw (aT.push _) aT.fresh (ju _ rfl) ⟨0,rfl,rfl,rfl⟩ (by rw[<-U3];exact h) fin)
  |lst fs=>
   refine c5 (bq.i bl) λa vs m f=> ?_
   rw[f.1]
   exact BS ⟨_,aT.aY.bE _ _ f.2.1,rfl,_,rfl⟩ (u3 (y9 _ a m vs fs) Ev (d1 hp).1 (body _) aw (aT.push _) aT.fresh (ju _ rfl) ⟨0,rfl,rfl,rfl,f.2.1,f.2.2.to⟩ h fin)
  |ek ks l=>
   refine c5 (bq.i bl) λa es m f=> ?_
   rw[f.1]
   exact Th f.2.1.2 (so (prog:=prog) ay (aT.aY.bE _ _ f.2.2.1) f.2.1.1.1 f.2.2.2.1) (u3 (Zz ay _ a m f.2.1.1 f.2.2.2.1) Ev (d1 hp).1 (body _) aw (aT.push _) aT.fresh (ju _ rfl) ⟨0,rfl,rfl,rfl,f.2.2.1⟩ (by rw[HK,<-Z0];exact h) fin)
  |_=>exact h.elim
end
end
section
theorem O0 {sc:cC} {ns:List Nat}: ∀{l:List Expr},vK sc ns (ir ns l)=aa-> ∀n∈ns,fH sc (nm n)=aa:=by
 induction ns with
 |nil=>exact λ_ n h=>absurd h eI
 |cons m ns ai=>
  intro l h n ar
  have h:=cU (a:=E6 m (nm m)) h
  cases ar with
  |head=>exact h.2.1
  |tail _ ar=>exact ai h.2.2 n ar
theorem O1 {env:dm} {ns:List Nat}: ∀{l:List Expr},(oU (ir ns l) env).findIdx? (·.1)=af/\(oU (ir ns l) env).length=ns.length:=by
 induction ns with
 |nil=>exact λ{l}=> ⟨rfl,rfl⟩
 |cons n ns ai=>exact λ{l}=> ⟨by
   show((ac,assign (.Name (nm n) (h0 l).pos) env)::oU (ir ns l.tail) env).findIdx? (·.1)=af
   rw[List.findIdx?_cons,ai.1];rfl,congrArg tY ai.2⟩
theorem af8 {env:dm} {e:Expr} {gg:List Expr} {h8:Nat} {d4:eu}:O3 e=aa->BN [.Tuple gg h8 d4] e env=pure af:=by
 unfold BN
 cases e with
 |Tuple=>exact cm
 |_=>exact λ_=>rfl
theorem af7 {env:dm} {e:Expr} {i:aZ} {q:eu} {b:Expr} {c:List Expr}:BN (.Name i q::b::c) e env=pure af:=by
 unfold BN
 cases e<;>rfl
theorem aia {K:St->aB} {ns:List Nat}: ∀{fs:List aj} {σ:St},(tG ns fs σ K).holds->ns.length=fs.length:=by
 induction ns with
 |nil=>exact λ{fs σ} h=>by cases fs with
  |nil=>rfl
  |cons _ _=>exact h.elim
 |cons n ns ai=>exact λ{fs σ} h=>by cases fs with
  |nil=>exact h.elim
  |cons f fs=>
   have h:(stK σ n (.f f) λσ=>tG ns fs σ K).holds:=h
   rw[v8] at h
   exact congrArg tY (ai h)
variable [WP]
section
variable {prog:cO} {w:ba} {A:c2} {E:ah->az->Prop} {s:az} {Γ:bM} {T:bG} {env:dm} {sc:cC} {S:cM} {Kf:bZ} {k:Nat}
variable (Ev:dk sc env Γ S)
theorem aeJ {x:X} (co:bc prog w Γ k S sc env x):ew prog w Γ k S sc env (.sg x):=
 .of (λp hp {_ _ _ _ _ _} aw N h q=>by
  show bg _ _ (qh (.Assert _ _ _) env) _ _ _
  rw[arm_exec_Assert]
  refine bz (gI (bz (co.kR _ hp aw N h λbS r bk bi aT h=> ?_)))
  rw[(gr h).1]
  exact dc (q.aQ _ _ bi aT (gr h).2)) rfl
theorem ae1 {b:Q7.S} (cV:ew prog w Γ k S sc env b):ew prog w Γ k S sc env (.try b):=
 .of (λp hp {_ _ _ _ _ _} aw N h q=>by
  show bg _ _ (qh (.Try _ _ _ _ _) env) _ _ _
  rw[arm_exec_Try]
  refine bz (gI ?_)
  unfold tryStmt
  show bg _ _ ((nB _ env).attempt>>=_) _ _ _
  refine bz (wpAny_attempt (cV.b _ hp aw N h λbS g f bk bi aT hf h=> ?_))
  have q:=q bS g f bk bi aT hf h
  cases f with
  |next=>exact uc q
  |_=>exact dc q) rfl
include Ev
theorem Uk {v:ae} {x:ah} {K:St->aB} {Q:Unit->az->Prop} {ns:List Nat}: ∀{l:List Expr} {T:bG} {s:az},(∀n∈ns,fH sc (nm n)=aa)->aX Γ T s->T.A v x->(AB ns v T.σ K).holds->nE Γ T K (Q ())->
  bg (bp prog w) A (assignAll x ((oU (ir ns l) env).map (·.2))) Q E s:=by
 induction ns with
 |nil=>exact λ{l T s} _ N _ h q=>dc (q _ _ (.refl T) N h)
 |cons n ns ai=>
  intro l T s loc N aH h q
  cases ns with
  |nil=>exact qe (pX (K:=K) Ev (loc n et) N aH h q)
  |cons gN ns=>exact bz (gk (qe (pX (K:=λσ=>AB (gN::ns) v σ K) Ev (loc n et) N aH h λa5 s' be cR h=>ai (l:=l.tail) (λm hm=>loc m (eZ _ hm)) cR (aH.ex be) h (q.ex be))))
theorem Jv {K:St->aB} {Q:Unit->az->Prop} {ns:List Nat}: ∀{l:List Expr} {fs:List aj} {vs:List ah} {T:bG} {s:az},(∀n∈ns,fH sc (nm n)=aa)->aX Γ T s->bC (bq T.aP) fs vs->(tG ns fs T.σ K).holds->nE Γ T K (Q ())->
  bg (bp prog w) A (assignInOrder ((oU (ir ns l) env).map (·.2)) vs) Q E s:=by
 induction ns with
 |nil=>
  intro l fs vs T s _ N aA h q
  cases aA with
  |nil=>exact dc (q _ _ (.refl T) N h)
  |cons _ _=>exact h.elim
 |cons n ns ai=>
  intro l fs vs T s loc N aA h q
  cases aA with
  |nil=>exact h.elim
  | @cons f x fs ws aH aA=>
   exact bz (gk (qe (pX (v:= .f f) (K:=λσ=>tG ns fs σ K) Ev (loc n et) N aH h λa5 s' be cR h=>
    ai (l:=l.tail) (λm hm=>loc m (eZ _ hm)) cR (aA.mono λ_ _=>bq.mono be.bE) h (q.ex be))))
theorem aeG {ns:List Nat} {x:X} (co:bc prog w Γ k S sc env x):ew prog w Γ k S sc env (.jB ns x):=by
 have H: ∀p,(dH sc (.jB ns x)).s p=aa->d6 1 ns.length=aa/\vK sc ns (ir ns (wz p))=aa/\(au sc x).x (b4 p)=aa:=λp hp=>cU hp
 revert H
 cases ns with
 |nil=>exact λH=> .of (λp hp=>cm (H p hp).1) rfl
 |cons n ns=>cases ns with
  |nil=>exact λH=> .of (λp hp=>cm (H p hp).1) rfl
  |cons gN ns=>
   refine λH=> .of (λp hp A E s T K Q aw N h q=> ?_) rfl
   have hp:=H p hp
   show bg _ _ (qh (.Assign (.Name (nm n) _:: .Name (nm gN) _::ir ns _) _ _) env) _ _ _
   rw[SW]
   refine bz (gI (bz (dc (tI oC (bz (co.cX _ hp.2.2 aw N h λbS v av bk bi aT bl h=> ?_))))))
   rw[af7]
   exact bz (dc (bz (Uk (l:=wz p) Ev (O0 (l:=wz p) hp.2.1) aT bl h λa5 s' be cR h=>dc (q.aQ _ _ (bi.trans be) cR h))))
theorem aeK {ns:List Nat} {x:X} (co:bc prog w Γ k S sc env x):ew prog w Γ k S sc env (.ast ns x):=by
 refine .of (λp hp A E s T K Q aw N h q=> ?_) rfl
 show bg _ _ (qh (.Assign [.Tuple (ir ns (xs (ef p))) _ _] _ _) env) _ _ _
 rw[SW]
 refine bz (gI ?_)
 rw[show∀gg h8 d4,swapsWithSole [.Tuple gg h8 d4] ((au sc x).e (b4 p)) p.pos.line env=pure ac from λgg h8 d4=>show xo ((au sc x).e (b4 p)) (ab (.Tuple gg h8 d4)) p.pos.line env=pure ac from ts (d1 hp).2.1]
 refine bz (dc (tI oC (bz (co.cX _ (d1 hp).2.2.2 aw N h λbS v av bk bi aT bl h=> ?_))))
 rw[af8 (d1 hp).2.2.1]
 refine bz (dc (ak (dp h) λfs h=> ?_))
 rw[Uh h.1] at bl
 refine bT (bq.i bl) λa vs f=> ?_
 rw[f.1]
 show bg _ _ (do assign (.Tuple (ir ns (xs (ef p))) (jq (ef p)) (ef p).pos) env (.ref a);pure Flow.next) _ _ _
 refine bz ?_
 show bg _ _ (do xn (ef p).pos;unpack (.ref a) (oU (ir ns (xs (ef p))) env)) _ _ _
 exact bz (gI (IS aw.2.2 ⟨_,aT.aY.bE _ _ f.2.1,rfl,_,rfl⟩ (by rw[O1.2,hr,aia h.2,f.2.2.length]) O1.1 λh' hs=>
  Jv Ev (O0 (d1 hp).1) (aT.step (it:=bk.heap.objs.size) (t:=bk.toks) aT.fresh hs) f.2.2.to h.2 λa5 s' be cR h=>dc (q.aQ _ _ (bi.trans be) cR h)))
end
end
section
theorem Z2 {k:aZ} {v:ah} {l:List (aZ×ah)} (h: ∀eF∈l,eF.1≠k):l.map (λeF=>if eF.1=k then(eF.1,v) else eF)=l:=by
 induction l with
 |nil=>rfl
 |cons a l ai=>rw[p5,if_neg (h a et),ai λeF aS=>h eF (eZ _ aS)]
theorem Zg {x:List Nat} {ks:List (List Nat)} (h:x∈ks):il x ks=aa:=by
 induction h with
 |head=>exact(nk ..).mpr (.inl (gM.mpr rfl))
 |tail _ _ ai=>exact(nk ..).mpr (.inr ai)
theorem VV {α:Type} {x:List Nat} {v:α} {ks:List (List Nat)}: ∀{l:List α},ks.length=l.length->il x ks=ac->fY x v ks l=(ks++ [x],l++ [v]):=by
 induction ks with
 |nil=>exact λ{l} h _=>by rw[wW h.symm];rfl
 |cons k ks ai=>exact λ{l} h e=>by cases l with
  |nil=>cases h
  |cons a l=>
   have e:(aM k x||il x ks)=ac:=e
   have e:=AO.mp e
   show(match aM k x with
    |true=> (k::ks,v::l)
    |false=>match fY x v ks l with
     |r=> (k::r.1,a::r.2))=_
   rw[e.1,ai (Bh h) e.2]
   rfl
variable [WP]
theorem bC.vals {R:ae->ah->Prop} {l:List ae} {es:List cT} (h:bC (λa e=>R a (e:cT).val) l es):bC R l (es.map (·.val)):=by
 induction h with
 |nil=>exact .nil
 |cons h _ ai=>exact .cons h ai
theorem bC.QP {R:ae->ah->Prop} {es:List cT}: ∀{l:List ae},bC R l (es.map (·.val))->bC (λa e=>R a (e:cT).val) l es:=by
 induction es with
 |nil=>exact λ{l} h=>by cases h;exact .nil
 |cons e es ai=>exact λ{l} h=>by cases h with
  |cons h t=>exact .cons h (ai t)
section
variable {prog:cO} {w:ba}
theorem Z1 (ay:WP.P=w.params) {l:List cT} {eF:List (aZ×ah)} (h:Pairs (strKind prog w) l eF): ∀{ks:List (List Nat)},(∀x∈l,∃k,(strKind prog w).is k x.key=aa/\x.hash=(strKind prog w).hash k)->eF.map (·.1)=ks.map aK->gi ks l/\l.map (·.val)=eF.map (·.2):=by
 induction h with
 |nil=>exact λ{ks} _ e=>by cases ks with
  |nil=>exact⟨.nil,rfl⟩
  |cons _ _=>cases e
 | @cons x p l eF pz vj t ai=>exact λ{ks} aS e=>by cases ks with
  |nil=>cases e
  |cons k ks=>
   have e:p.1=aK k/\eF.map (·.1)=ks.map aK:=gw e
   have i:=ai (ks:=ks) (λy cP=>aS y (eZ _ cP)) e.2
   refine⟨.cons (ak (Iq (show Br p.1 x.key=aa from pz)) λdR cj=> ⟨⟨dR,by rw[cj,e.1]⟩,ak (aS x et) λn3 q=> ?_⟩) i.1, ?_⟩
   ·rw[q.2,(strKind prog w).inj _ _ _ q.1 pz,ay,<-e.1];rfl
   ·rw[p5,p5,vj,i.2]
theorem adg {o:bX} {es:Array cT} {ep:Nat} (h:o.ExactDict) (d:o.data= .dict es ep):o=eD es.toList ep:=by
 cases o with|mk a b c e=>
 cases h.1
 cases h.2.1
 cases h.2.2
 cases d
 rfl
theorem Pg {h:cw} {a:aR} {eF:List (aZ×ah)} {ks:List (List Nat)} (ay:WP.P=w.params) (D:h.DictOf (strKind prog w) a eF) (e:eF.map (·.1)=ks.map aK):
  ∃es n,h.get? a=ab (eD es n)/\gi ks es/\es.map (·.val)=eF.map (·.2):=by
 refine c5 D λo es ep D=> ⟨es.toList,ep, ?_,Z1 ay D.2.2.2.2.1 (λx aH=>D.2.2.2.1 x (wF.mp aH)) e⟩
 rw[D.1,adg D.2.1 D.2.2.1]
theorem D7 {ks:List (List Nat)} {es:List cT} (h:gi ks es):(kvs ks es).map (·.2)=es.map (·.val):=by
 induction h with
 |nil=>rfl
 | @cons _ e _ _ _ _ ai=>exact congrArg (e.val:: ·) ai
theorem abU {x:List Nat} {ks:List (List Nat)} {es:List cT} (h:gi ks es):(kvs ks es).any (λeF=>decide (eF.1=aK x))=il x ks:=by
 induction h with
 |nil=>rfl
 | @cons k e ks es _ _ ai=>
  show(decide (aK k=aK x) || (kvs ks es).any _)=(aM k x||il x ks)
  rw[ai,yb]
structure Rq (R:ae->ah->Prop) (ks:List (List Nat)) (x:List Nat) (d:List (List Nat)×List ae) (eF:List (aZ×ah)):Prop where
 fst:eF.map (·.1)=d.1.map aK
 snd:bC R d.2 (eF.map (·.2))
 or:d.1=ks\/(d.1=ks++ [x]/\x∉ks)
theorem VW {R:ae->ah->Prop} {x:List Nat} {av:ae} {v:ah} (aW:R av v) {ks:List (List Nat)} {es:List cT} (aS:gi ks es): ∀{l:List ae},ks.Nodup->bC (λa e=>R a (e:cT).val) l es->il x ks=aa->
  ((kvs ks es).map (λeF=>if eF.1=aK x then(eF.1,v) else eF)).map (·.1)=(fY x av ks l).1.map aK/\bC R (fY x av ks l).2 (((kvs ks es).map (λeF=>if eF.1=aK x then(eF.1,v) else eF)).map (·.2))/\(fY x av ks l).1=ks:=by
 induction aS with
 |nil=>exact λ{l} _ _ h=>cm h
 | @cons k e ks es aS cq ai=>
  intro l bY aA h
  cases aA with
  | @cons a _ l _ aE Qt=>
   have bY:=p6.mp bY
   have i:=ai bY.2 Qt
   have h:(aM k x||il x ks)=aa:=h
   show(((if aK k=aK x then(aK k,v) else(aK k,e.val))::(kvs ks es).map (λeF=>if eF.1=aK x then(eF.1,v) else eF)).map (·.1)=(match aM k x with
    |true=> (k::ks,av::l)
    |false=>match fY x av ks l with
     |r=> (k::r.1,a::r.2)).1.map aK)/\bC R (match aM k x with
    |true=> (k::ks,av::l)
    |false=>match fY x av ks l with
     |r=> (k::r.1,a::r.2)).2 (((if aK k=aK x then(aK k,v) else(aK k,e.val))::(kvs ks es).map (λeF=>if eF.1=aK x then(eF.1,v) else eF)).map (·.2))/\(match aM k x with
    |true=> (k::ks,av::l)
    |false=>match fY x av ks l with
     |r=> (k::r.1,a::r.2)).1=k::ks
   cases q:aM k x with
   |true=>
    have q:=gM.mp q
    rw[if_pos (congrArg aK q),Z2 λeF YI z=> ?_]
    ·exact⟨congrArg (aK k:: ·) (sV cq),.cons aW (by rw[D7 cq];exact Qt.vals),rfl⟩
    ·have m:=tS (f:=(·.1)) YI
     rw[sV cq] at m
     exact ak (w1.mp m) λkb m=>bY.1 (by rw[q,<-v7 (m.2.trans z)];exact m.1)
   |false=>
    rw[q] at h
    have i:=i h
    rw[if_neg λz=>by rw[gM.mpr (v7 z)] at q;exact cm q.symm]
    exact⟨congrArg (aK k:: ·) i.1,.cons aE i.2.1,congrArg (k:: ·) i.2.2⟩
theorem VU {R:ae->ah->Prop} {x:List Nat} {av:ae} {v:ah} {ks:List (List Nat)} {es:List cT} {l:List ae} (aW:R av v) (bY:ks.Nodup) (aS:gi ks es) (aA:bC (λa e=>R a (e:cT).val) l es):
  Rq R ks x (fY x av ks l) (stored (kvs ks es) (aK x) v):=by
 unfold stored
 rw[abU aS]
 cases q:il x ks with
 |true=>exact have d:=VW aW aS bY aA q;⟨d.1,d.2.1,.inl d.2.2⟩
 |false=>
  rw[VV (aS.length.trans aA.length.symm) q]
  refine⟨?_, ?_,.inr ⟨rfl,λm=>by rw[Zg m] at q;exact cm q.symm⟩⟩
  ·show((kvs ks es)++ [(aK x,v)]).map (·.1)=(ks++ [x]).map aK
   rw[lE,sV aS,lE];rfl
  ·show bC R (l++ [av]) (((kvs ks es)++ [(aK x,v)]).map (·.2))
   rw[lE,D7 aS]
   exact aA.vals.cG (.cons aW .nil)
end
end
section
variable [WP]
section
variable {prog:cO} {w:ba} {A:c2} {E:ah->az->Prop} {s:az} {Γ:bM} {T:bG} {env:dm} {sc:cC} {S:cM} {Kf:bZ} {k:Nat}
theorem aeF {o i x:X} (ay:WP.P=w.params) (dM:bc prog w Γ k S sc env o) (fT:bc prog w Γ k S sc env i) (co:bc prog w Γ k S sc env x):ew prog w Γ k S sc env (.qs o i x):=by
 refine .of (λp hp A E s T K Q aw N h q=>wpAny_Assign_Subscript (co.cX _ (fl hp).2.2.2.2 aw N h λbS v av bk bi aT bl h=>dM.cX _ (fl hp).2.2.1 aw aT h λfk d ad dh cD bR dF h=>fT.cX _ (fl hp).2.2.2.1 aw bR h λi2 h8 ej fV eX dU mH h=> ?_) (ts (fl hp).2.1)) rfl
 refine ak (dp h) λe h=>ak (dp h.2) λc h'=> ?_
 have g:=gr h'.2
 have ci:=g.2.2
 rw[mF h'.1] at mH
 refine ak (fR mH) λt ik=>ak (uR dU (dF.ex eX) h.1) λy cl=>c5 cl.2.2.2 λes n bY hc=> ?_
 rw[ik.1,cl.2.2.1]
 rw[cl.1,Ft] at ci
 have aW:=bl.ex (cD.trans eX)
 have D:=pb (prog:=prog) ay hc.1 bY.1.1 hc.2.1
 have Z6:(kvs e.1 es).length<=d0:=by rw[n4 hc.2.1,<-hc.2.2.length,gj];exact pW g.2.1
 refine wpAny_setItem_pairs (isStrOf_self (aK c) t) D (λh' ff hs=> ?_) Z6
 have d:=VU (R:=λa v=>i2.A a v/\glob a=aa) (x:=c) (av:=av) (v:=v) ⟨aW,g.1⟩ bY.1.1 hc.2.1 hc.2.2
 refine bT (Pg ay ff d.fst) λlQ fA hF=> ?_
 have sn:=d.snd
 rw[<-hF.2.2] at sn
 have fN:=dU.Qy (t:=fV.toks+1) cl.2.1 (a:=i2.ax (2*y)) (.head _) hs (bo:= .dict (fY c av e.1 e.2).1 (fY c av e.1 e.2).2) rfl ⟨lQ,fA,⟨d.or.elim (λz=>by rw[z];exact bY.1) λz=>by
  rw[z.1]
  exact⟨Ba.mpr ⟨bY.1.1,aiV (λ_ h=>absurd h eI) .nil,λa aE b ag q=>z.2 (by rw[<-jU.mp ag,<-q];exact aE)⟩,λa aE=> (A9.mp aE).elim (bY.1.2 a) λaE=>by rw[jU.mp aE];exact ik.2⟩,bY.2⟩,hF.1,hF.2.1,sn.QP⟩
 exact q.aQ _ _ (((bi.trans cD).trans eX).trans fN.2) fN.1 ci
end
end
section
theorem PA (i:Int):aiX 0 i 1=(i.toNat:Int):=by rw[rangeSize_one];split<;>omega
variable [WP]
section
variable {prog:cO} {w:ba} {A:c2} {E:ah->az->Prop} {s:az} {Γ:bM} {T:bG} {env:dm} {sc:cC} {S:cM} {Kf:bZ} {k:Nat}
theorem aeU {n:Nat} {x:X} {b:Q7.S} (ay:WP.P=w.params) (Ev:dk sc env Γ S) (bb:Top Kf Γ.base S) (co:bc prog w Γ k S sc env x) (cV: ∀dY:bM,dk sc env dY S->dY.base=Γ.base->ew prog w dY k S sc env b):ew prog w Γ k S sc env (.qM n x b):=by
 refine .of (λp hp A E s T K Q aw N h q=>BO (qw ay Ev bb (f:= .type "range") (.tail _ (.tail _ (.tail _ (.tail _ (.tail _ (.tail _ (.tail _ (.head _)))))))) rfl (i4 (i4 (fl hp).2.1 (fl hp).2.2.1) (fl hp).2.2.2.1) co aw N h λbS v av bk bi aT bl h=> ?_) (λx=>rfl)) rfl
 refine ak (dp h) λi h=> ?_
 rw[o4 h.1] at bl
 refine ak (gK bl) λt e=> ?_
 rw[e]
 refine call_range_1 (Tj (SI ..) (small_one (by decide) (by decide) (by have:=h.2.1;omega) (by have:=h.2.1;omega)) ?_)
 rw[PA]
 have bR:=(aT.push {cls:= .type "range",data:= .fields #[.int 0 bk.toks,.int i t,.int 1 (bk.toks+1)]}).toks (bk.toks+1+1)
 exact u3 (M4 _) Ev (fl hp).1 (λo hf=> (cV (Γ.hold _ o) (Ev.hold hf) rfl).b _ (fl hp).2.2.2.2) aw (bR.push _) bR.fresh (ju _ rfl) ⟨0,i.toNat,λh e=>e,rfl⟩ h.2.2 (q.ex bi)
end
end
section
theorem C2: ∀n:Nat,n<100->cF (qn (n:Int))=aK (dv n):=by decide+kernel
theorem C1 (n:Nat):(dv n).length<=2:=by unfold dv;cases d6 n 10 with
 |true=>exact ky 1
 |false=>exact fj 2
theorem ahk: ∀a<10,IG (aK [48+a])=ab (c1 a):=by decide+kernel
theorem text2: ∀a<10,∀b<10,IG (aK [48+a,48+b])=ab (c1 (10*a+b)):=by decide+kernel
theorem uS {c y:Nat} (e:mO c=ab y):y<10/\c=48+y:=by
 unfold mO at e
 revert e
 cases q:gG 48 c&&gG c 57 with
 |false=>exact λe=>a3 e
 |true=>
  intro e
  have l:=cS (fW.mp q).1
  have u:=cS (fW.mp q).2
  rw[<-bQ e]
  exact⟨tW (Sh u 48),(Nat.add_sub_of_le l).symm⟩
theorem QN {x:List Nat} {n:Nat} (h:wt x=ab n):IG (aK x)=ab (c1 n)/\(aK x).length<=640:=by
 cases x with
 |nil=>exact a3 h
 |cons a x=>cases x with
  |nil=>
   have d:=uS (show mO a=ab n from h)
   rw[d.2]
   exact⟨ahk _ d.1,cS rfl⟩
  |cons b x=>cases x with
   |cons _ _=>exact a3 h
   |nil=>
    have h:(match mO a,mO b with
     |some x,ab y=>ab (10*x+y)
     |_,_=>af)=ab n:=h
    revert h
    cases j3:mO a with
    |none=>exact λh=>a3 h
    |some p=>cases b0:mO b with
     |none=>exact λh=>a3 h
     |some r=>
      intro h
      rw[(uS j3).2,(uS b0).2,<-bQ h]
      exact⟨text2 _ (uS j3).1 _ (uS b0).1,cS rfl⟩
theorem Ue {v:ae} {n:Nat} (h:Jr v=ab n):v= .f (.int (.ofNat n)):=by
 cases v with
 |f v=>cases v with
  |int i=>cases i with
   |ofNat m=>rw[<-bQ h]
   |negSucc _=>exact a3 h
  |_=>exact a3 h
 |_=>exact a3 h
variable [WP]
section
variable {prog:cO} {w:ba} {A:c2} {E:ah->az->Prop} {s:az} {Γ:bM} {T:bG} {env:dm} {sc:cC} {S:cM} {Kf:bZ} {k:Nat}
theorem Ll {f:ah} {as:List Expr} {pos:eu} {Q:ah->az->Prop} (aS:r1 f=pure .machine) (st:(i0 pos (h3 as env)).any (·.1)=ac)
  (h:bg (bp prog w) A (spliced (i0 pos (h3 as env))) (λvs s'=>bg (bp prog w) A (iB f vs) Q E s') E s):
  bg (bp prog w) A (t9 pos f [] (i0 pos (h3 as env)) (mA pos (mB [] env))) Q E s:=
 Bv (P:=λ_=>True) (by rw[st];rfl) (λh _=> ⟨.machine,.inr (.inl rfl),.of_pure aS⟩) (Dj st rfl (h4 h (λvs s' q=>Tf ⟨trivial,q⟩) λ_ _ e=>e))
theorem UQ {n:Nat} {v:ae} (N:aX Γ T s) (h:wL env Γ n v): ∃c o x,env.cells.lookup (nm n)=ab c/\Γ.Fr c=ab o/\o.data= .cell (ab x)/\T.A v x:=
 c5 h λc o x h=> ⟨c,o,x,h.1,h.2.1,h.2.2.1,by
  have d:=h.2.2.2
  clear h
  cases v with
  |aq i=>exact ak d λa d=> ⟨(N.pin i a d.1).1,d.2.trans (congrArg xa (N.pin i a d.1).2.symm)⟩
  |f v=>cases v with
   |bool b=>exact(show bq T.aP (.bool b) x from d▸ .bool b)
   |_=>exact d.elim
  |dy _ _=>exact d.elim⟩
variable (ay:WP.P=w.params) (Ev:dk sc env Γ S) (bb:Top Kf Γ.base S)
include ay Ev
theorem agf (n:Nat):bc prog w Γ k S sc env (.clo n):=
 .val ay rfl (λp hp {_ _ _ T _ _} aw N h q=>ub (ak (dp h) λv h=>c5 (UQ N (Ev.clo n v h.1)) λc o x e=>
  wpAny_loadName_cell (c:=c) (v:=x) Ev.fn (Ev.is (b3 hp).2) e.1 ⟨o,(N.aY.fr c o e.2.1).1,e.2.2.1⟩ (q.of N e.2.2.2 h.2)) (jh (b3 hp).1)) (λ_ _=>rfl) rfl rfl
include bb
theorem agt {a:X} (br:bc prog w Γ k S sc env a):bc prog w Γ k S sc env (.vo a):=by
 refine .val ay rfl (λp hp A E s T K Q aw N h q=>xq (vB (v:= .builtin "isinstance") bb Ev (.tail _ (.head _)) (d1 hp).1 N ?_)) (λ_ _=>rfl) rfl rfl
 have hs:h3 [(au sc a).e (h0 (xs p)),E5 "str" (ap (xs p))] env= [(ac,dz ((au sc a).e (h0 (xs p))) env),(ac,dz (.Name (cF "str") (ap (xs p)).pos) env)]:=by
  rw[v9 (d1 hp).2.2.1];rfl
 refine Ll rfl (by rw[hs];rfl) ?_
 rw[hs]
 refine Bn (br.cX _ (d1 hp).2.2.2 aw N h λbS v av bk bi aT bl h=>Bn (vB (v:= .type "str") bb Ev (.tail _ (.tail _ (.head _))) (d1 hp).2.1 aT (H9 (ak (dp h) λy h=> ?_))))
 rw[mF h.1] at bl
 refine ak (fR bl) λt e=> ?_
 rw[e.1]
 exact aiW (Tx:= "str") (xp _ _ _) (by kernel_rfl) F.sub_str_str ((q.ex bi).fr aT (.bool aa) h.2)
theorem agH {a b:X} (br:bc prog w Γ k S sc env a) (cV:bc prog w Γ k S sc env b):bc prog w Γ k S sc env (.mZ a b):=
 .val ay rfl (λp hp {_ _ _ _ K _} aw N h q=>K4 (K:=λv u σ=>cv (hb v) λi=>cv (hb u) λj=>K (.f (.int (EY i j))) σ) ay Ev bb (f:= .builtin "max") (.tail _ (.tail _ (.tail _ (.tail _ (.head _))))) rfl hp br cV aw N h λbS v u av bv bk bi aT a b h=>
  ak (dp h) λi h=>ak (dp h.2) λj h'=>by
   rw[o4 h.1] at a
   rw[o4 h'.1] at b
   refine ak (gK a) λt e=>ak (gK b) λdR cN=> ?_
   rw[e,cN]
   refine max_two_ints aw.2.2 λaC cq aS=> ?_
   have bR:aX Γ bS {bk with heap:=aC,toks:=cq}:=aT.grow aS rfl rfl
   have z:=h'.2
   unfold EY at z
   by_cases g:j>i
   ·rw[decide_eq_true g] at z
    rw[if_pos g]
    exact(q.ex bi).fr bR (.int _ _) z
   ·rw[decide_eq_false g] at z
    rw[if_neg g]
    exact(q.ex bi).fr bR (.int _ _) z) (λ_ _=>rfl) rfl rfl
theorem agR {a:X} (br:bc prog w Γ k S sc env a):bc prog w Γ k S sc env (.rq a):=
 .val ay rfl (λp hp {_ _ _ _ _ _} aw N h q=>qw ay Ev bb (f:= .type "str") (.tail _ (.tail _ (.head _))) rfl hp br aw N h λbS v av bk bi aT bl h=>ak (dp h) λn h=>by
  rw[Ue h.1] at bl
  refine ak (gK bl) λt e=> ?_
  rw[e]
  have ar:n<100:=h.2.1
  refine P.str_of_int (show Nat.log2 n<1920 from w3 (Sb n) (Bg ar (cS rfl))) ?_
  rw[show cF (qn (c1 n))=aK (dv n) from C2 n ar]
  exact(q.ex bi).fr (aT.toks _) (.str _ _ (bf (C1 n) (by rw[gj];exact cS rfl))) h.2.2) (λ_ _=>rfl) rfl rfl
theorem agr {a:X} (br:bc prog w Γ k S sc env a):bc prog w Γ k S sc env (.sT a):=
 .val ay rfl (λp hp {_ _ _ _ _ _} aw N h q=>qw ay Ev bb (f:= .type "int") (.tail _ (.tail _ (.tail _ (.head _)))) rfl hp br aw N h λbS v av bk bi aT bl h=>ak (dp h) λx h=>ak h.2 λn z=>by
  rw[mF h.1] at bl
  refine ak (fR bl) λt e=> ?_
  rw[e.1]
  exact KIN.call_text (QN z.1).1 (QN z.1).2 ((q.ex bi).fr (aT.toks _) (.int _ _) z.2)) (λ_ _=>rfl) rfl rfl
end
end
section
theorem abm {α:Type} (n:Nat) (l:List (Nat×α)) (x:Nat):aL x (dl n l)=if x=n then af else aL x l:=by
 induction l with
 |nil=>
  by_cases h:x=n
  ·rw[if_pos h];rfl
  ·rw[if_neg h];rfl
 |cons p r ai=>
  show aL x (match bA p.1 n with
   |true=>dl n r
   |false=>p::dl n r)=if x=n then af else(match bA p.1 x with
   |true=>ab p.2
   |false=>aL x r)
  cases q:bA p.1 n with
  |true=>
   refine ai.trans ?_
   by_cases h:x=n
   ·rw[if_pos h,if_pos h]
   ·rw[if_neg h,if_neg h]
    cases fa:bA p.1 x with
    |true=>exact absurd ((fh fa).symm.trans (fh q)) h
    |false=>rfl
  |false=>
   show(match bA p.1 x with
    |true=>ab p.2
    |false=>aL x (dl n r))=_
   cases fa:bA p.1 x with
   |true=>exact(if_neg λe=>w5 q ((fh fa).trans e)).symm
   |false=>exact ai
theorem LF {σ:St} {y:Nat} (cP:100<=y) (x:Nat):(σ.del y).g x=if x=y then af else σ.g x:=by
 unfold St.del St.g
 cases q:d6 x 100 with
 |true=>exact(if_neg λe:x=y=>mv.mpr cP (by rw[<-e];exact cS q)).symm
 |false=>exact abm y σ.lh x
variable [WP]
section
variable {prog:cO} {w:ba} {A:c2} {E:ah->az->Prop} {s:az} {Γ:bM} {T:bG} {env:dm} {sc:cC} {S:cM} {Kf:bZ} {k:Nat}
theorem aX.freeze (N:aX Γ T s) {y:Nat} {l:List ae} (cP:100<=y) (cJ:T.σ.g y=ab (.list l)) {vs:List ah} {n:Nat} (bW:s.heap.get? (T.ax (2*y))=ab (lobj vs n)):
  aX Γ ⟨T.aP.ins (T.ax (2*y)) (lobj vs n),T.ax,T.σ.del y⟩ s/\T.dS ⟨T.aP.ins (T.ax (2*y)) (lobj vs n),T.ax,T.σ.del y⟩:=by
 have ca:=N.aY.ca y _ cJ (T.ax (2*y)) (.head _)
 have old: ∀x cB,(T.σ.del y).g x=ab cB->T.σ.g x=ab cB/\x≠y:=λx cB e=>by
  rw[LF cP] at e
  by_cases q:x=y
  ·rw[if_pos q] at e;exact a3 e
  ·rw[if_neg q] at e;exact⟨e,q⟩
 have dN: ∀x,T.U x->dO (T.σ.del y).g (T.σ.del y).lu x:=λx h=>h.elim (λh=> .inl ⟨by rw[LF cP,if_neg λe:x=y=>mv.mpr cP (by rw[<-e];exact h.2)];exact h.1,h.2⟩) .inr
 have LW:T.dS ⟨T.aP,T.ax,T.σ.del y⟩:=⟨dT.refl _,dN,λ_ _=>rfl⟩
 have aT:aX Γ ⟨T.aP,T.ax,T.σ.del y⟩ s:=
  ⟨⟨N.aY.bE,N.aY.fr,λx cB e=>ix (dT.refl _) dN (λ_ _=>rfl) (λ_ _=>rfl) rfl rfl (N.aY.cell x cB (old x cB e).1),λx cB e=>N.aY.ca x cB (old x cB e).1,λx z cB qF e1 e2=>N.aY.gn x z cB qF (old x cB e1).1 (old z qF e2).1⟩,
   ⟨ak N.lo.ns λm h=> ⟨m,h.1,λn av e=>ak (h.2 n av e) λv a=> ⟨v,a.1,a.2.ex LW⟩⟩,N.lo.free,λx cB e=>N.lo.b2 x cB (old x cB e).1,N.lo.lu⟩,N.base,N.gens,N.os,λx a e=> ⟨dN x (N.pin x a e).1,(N.pin x a e).2⟩⟩
 have bR:=aT.fast (a:=T.ax (2*y)) bW ca.1 ca.2 (λq=>N.lo.b2 y _ cJ (by rw[<-q];exact .head _)) λx cB e ag=>N.aY.gn x y cB _ (old x cB e).1 cJ (old x cB e).2 _ ag (.head _)
 exact⟨bR.1,LW.trans bR.2⟩
variable (ay:WP.P=w.params) (Ev:dk sc env Γ S) (bb:Top Kf Γ.base S)
include ay
theorem ago {a:X} (br:bc prog w Γ k S sc env a):bc prog w Γ k S sc env (.ph a):=
 .val ay rfl (λp hp {_ _ _ _ _ _} aw N h q=>br.cX _ (b3 hp).2 aw N h λbS v av bk bi aT bl h=>ak (dp h) λl h=>ak h.2 λfs h'=>ak (Ey aT bl h.1) λy c=>bT c.2.2.2.2 λvs n d=>by
  have g:=gr h'.2
  rw[c.1] at g
  rw[c.2.2.2.1]
  have bR:=aT.freeze (cS g.1) c.2.2.1 d.1
  exact(q.ex (bi.trans bR.2)).fr bR.1 (.lst (bh.gc _ _ _) (nf (R:=bq _) d.2 (λv x h=>bq.mono bR.2.bE h.1) h'.1).lS) g.2) (λp hp=> (b3 hp).1) rfl rfl
end
end
section
theorem Uj {ks:List (List Nat)}:sf ks=aa->ks.Pairwise (· < ·):=by
 induction ks with
 |nil=>exact λ_=> .nil
 |cons a r ai=>cases r with
  |nil=>exact λ_=> .cons (λx h=>absurd h eI) .nil
  |cons b r=>
   intro h
   have h:en a b=aa/\sf (b::r)=aa:=fW.mp h
   have i:=ai h.2
   have qq:a<b:=by rw[Es] at h;exact of_decide_eq_true h.1
   refine .cons (λx aH=> ?_) i
   cases aH with
   |head=>exact qq
   |tail _ aH=>exact List.lt_trans qq ((RZ.mp i).1 x aH)
theorem aem {l:List aZ}: ∀{p:aZ},risingS p l=aa->(p::l).Pairwise λa b=>a.cps.toList<=b.cps.toList:=by
 induction l with
 |nil=>exact λ_=> .cons (λx h=>absurd h eI) .nil
 |cons x r ai=>
  intro p h
  have h:(!Spec.ltCps x.cps.toList p.cps.toList)=aa/\risingS x r=aa:=fW.mp h
  have i:=ai h.2
  have l6:p.cps.toList<=x.cps.toList:=by
   have ap:=jh h.1
   rw[ltCps_eq] at ap
   exact Std.not_lt.mp (of_decide_eq_false ap)
  refine .cons (λy cP=> ?_) i
  cases cP with
  |head=>exact l6
  |tail _ cP=>exact List.le_trans l6 ((RZ.mp i).1 y cP)
theorem agV {l:List aZ} (h:sortedS l=aa):l.Pairwise λa b=>a.cps.toList<=b.cps.toList:=by
 cases l with
 |nil=>exact .nil
 |cons p l=>exact aem h
theorem agW {ks:List (List Nat)} {ss:List aZ} (aE:sf ks=aa) (hp:ss.Perm (ks.map aK)) (hs:sortedS ss=aa):ss=ks.map aK:=
 hp.eq_of_pairwise (λa b _ _ x y=>by
  have e:a.cps.toList=b.cps.toList:=Std.le_antisymm x y
  cases a;cases b
  exact congrArg rV (wG.mp e)) (agV hs) (A0 aK (λa b h=>Std.le_of_lt h) (Uj aE))
theorem OU {n:aR} (h:2<n):(n==lJ)=ac:=beq_eq_false_iff_ne.mpr λq=>absurd h (by rw[q];decide)
variable [WP]
theorem ag1 {F:bh} {ks:List (List Nat)}: ∀{vs:List ah},Bk vs (ks.map aK)->(∀k∈ks,k.length<=d0)->ez F (ks.map .str) vs:=by
 induction ks with
 |nil=>exact λ{vs} h _=>by cases h;exact .nil
 |cons k ks ai=>exact λ{vs} h cH=>by cases h with
  |cons x t h=>exact .cons (.str k t (cH k et)) (ai h λk aS=>cH k (eZ _ aS))
section
variable {prog:cO} {w:ba} {A:c2} {E:ah->az->Prop} {s:az} {Γ:bM} {T:bG} {env:dm} {sc:cC} {S:cM} {Kf:bZ} {k:Nat}
theorem Lm {id:String} {self:ah} {pos:eu} {Q:ah->az->Prop} (aS:r1 (.builtin id)=pure .machine) (h:bg (bp prog w) A (iB (.builtin id) [self]) Q E s):
  bg (bp prog w) A (t9 pos (.builtin id) [self] [] []) Q E s:=
 Bv (P:=λ_=>True) rfl (λh _=> ⟨.machine,.inr (.inl rfl),.of_pure aS⟩) (_root_.PySem.evalArgs_none ⟨trivial,h⟩)
variable (ay:WP.P=w.params) (Ev:dk sc env Γ S) (bb:Top Kf Γ.base S)
include ay
theorem Lz {a:aR} {ks:List (List Nat)} {es:List cT} {n:Nat} {pos:eu} {Q:ah->az->Prop} (bY:(ks.Nodup/\ ∀k∈ks,k.length<=d0)/\(a==lJ)=ac) (aE:s.heap.get? a=ab (eD es n)) (aS:gi ks es) (aA:es.length<=d0)
  (h: ∀h' lQ fA,(∀b o,s.heap.get? b=ab o->h'.get? b=ab o)->h'.get? s.heap.objs.size=ab (eD lQ fA)->gi ks lQ->lQ.map (·.val)=es.map (·.val)->Q (.ref s.heap.objs.size) {s with heap:=h'}):
  Ij prog w A (cF "copy") pos (.ref a) [] Q E s:=
 ⟨"dict","dict.copy",Sr,Ss,F.type_dict_copy,⟨_,aE,rfl⟩,noDict aE rfl,Lm rfl
  (BF Ss ⟨_,aE,rfl⟩ F.entry_dict_copy (F.args_dict_copy_1 _) (meets_dict_copy (strKind prog w) a bY.2) ⟨_,pb (prog:=prog) ay aE bY.1.1 aS,by rw[n4 aS];exact aA,λh' ff _ keep=>
   bT (Pg ay ff (sV aS)) λlQ fA q=>h h' lQ fA keep q.1 q.2.1 (q.2.2.trans (D7 aS))⟩)⟩
include bb
theorem agj {x:Nat} {o:X} (dM:bc prog w Γ k S sc env o):bc prog w Γ k S sc env (.uO x o):=
 .val ay rfl (λp hp {_ _ _ _ _ _} aw N h q=>zr (b3 hp).1 (dM.cX _ (b3 hp).2 aw N h λbS v av bk bi aT bl h=>ak (dp h) λd h=>ak h.2 λy h'=>by
  rw[Jq h.1] at bl
  refine c5 (bq.i bl) λa es n f=> ?_
  rw[f.1]
  have len:=f.2.2.2.2.length
  rw[eg] at len
  refine Lz ay f.2.1 (aT.aY.bE _ _ f.2.2.1) f.2.2.2.1 (by rw[<-len,gj];exact pW h'.2.1) λaC lQ fA keep g1 ja v1=> ?_
  have bR:aX Γ bS {bk with heap:=aC}:=aT.grow keep rfl rfl
  exact bR.adopt (zx h'.1) (a:=bk.heap.objs.size) (ao:= .dict d.1 (d.2.map .f)) aT.fresh (λ_=>rfl) (λax U dN oi eA=> ⟨lQ,fA,⟨f.2.1.1,by rw[eA];exact OU (aT.CC bb)⟩,by rw[eA];exact g1,ja,bC.QP (R:=λa v=>ec bS.aP ax U a v/\glob a=aa) (by
    rw[v1]
    exact f.2.2.2.2.to.EQ λa v h=> ⟨h,rfl⟩)⟩) λa5 e cR be i3 _=>q a5 _ (.aq y) _ (bi.trans be) cR i3 (by rw[e];exact h'.2.2))) (λ_ _=>rfl) rfl rfl
theorem agi {o:X} (dM:bc prog w Γ k S sc env o):bc prog w Γ k S sc env (.uN o):=
 .val ay rfl (λp hp {_ _ _ _ _ _} aw N h q=>zr (b3 hp).1 (dM.cX _ (b3 hp).2 aw N h λbS v av bk bi aT bl h=>ak (dp h) λd h=>ak h.2 λfs h'=>ak (uR aT bl h.1) λy c=>c5 c.2.2.2 λes n bY f7=>by
  rw[c.2.2.1]
  refine Lz ay bY f7.1 f7.2.1 (by rw[<-f7.2.2.length,gj];exact pW h'.2.1) λaC lQ fA keep g2 ja v1=> ?_
  have bR:aX Γ bS {bk with heap:=aC}:=aT.grow keep rfl rfl
  have b2:=aT.fresh
  have dU:=bR.fast g2 b2.bE b2.fr b2.L b2.cell
  refine(q.ex (bi.trans dU.2)).fr dU.1 (.ek (n:=fA) (es:=lQ) ⟨bY.1,OU (aT.CC bb)⟩ (bh.gc _ _ _) ja ?_) h'.2.2
  rw[v1]
  exact(nf (R:=bq _) (bC.vals (R:=λa v=>ec bS.aP bS.ax bS.U a v/\glob a=aa) f7.2.2) (λv x h=>bq.mono dU.2.bE h.1) h'.1).lS)) (λ_ _=>rfl) rfl rfl
end
end
section
variable [WP]
theorem ag0 {prog:cO} {w:ba} {ks:List (List Nat)} {es:List cT} (aS:gi ks es): ∀{vs:List ah},vs.length=(kvs ks es).length->
  (∀(j:Nat) (v:ah),vs[j]? =ab v-> ∃k x,(kvs ks es)[j]? =ab (k,x)/\(BL prog w).is k v=aa)->Bk vs (ks.map aK):=by
 induction aS with
 |nil=>exact λ{vs} h _=>by cases vs with
  |nil=>exact .nil
  |cons _ _=>cases h
 | @cons k e ks es _ _ ai=>exact λ{vs} aA h=>by cases vs with
  |nil=>cases aA
  |cons v vs=>
   refine bT (h 0 v rfl) λkb x i=> ?_
   have e1:(aK k,e.val)=(kb,x):=bQ i.1
   have e2:Br (aK k) v=aa:=by rw[(t4 e1).1];exact i.2
   refine ak (Iq e2) λu q=> ?_
   rw[q]
   exact .cons _ _ (ai (Bh aA) λj v aW=>h (j+1) v aW)
section
variable {prog:cO} {w:ba} {A:c2} {E:ah->az->Prop} {s:az} {Γ:bM} {T:bG} {env:dm} {sc:cC} {S:cM} {Kf:bZ} {k:Nat}
variable (ay:WP.P=w.params) (Ev:dk sc env Γ S) (bb:Top Kf Γ.base S)
include ay
theorem agX {a v:aR} {ks:List (List Nat)} {es:List cT} {n:Nat} {Q:ah->az->Prop} (aw:A.handled=af) (aW:KdlKeysView s.heap v a) (bY:(ks.Nodup/\ ∀k∈ks,k.length<=d0)/\(a==lJ)=ac)
  (aE:s.heap.get? a=ab (eD es n)) (aS:gi ks es) (ux:sf ks=aa) (Yd:ks.length<=60)
  (h: ∀b h' cq vs m,(∀b o,s.heap.get? b=ab o->h'.get? b=ab o)->h'.get? b=ab (lobj vs m)->(∀o,s.heap.get? b≠ab o)->Bk vs (ks.map aK)->Q (.ref b) {s with heap:=h',toks:=cq}):
  bg (bp prog w) A (iB (.builtin "sorted") [.ref v]) Q E s:=by
 have D:=so (prog:=prog) ay aE bY.1.1 aS
 have dx:(kvs ks es).length=ks.length:=(n4 aS).trans aS.length.symm
 have nl:(kvs ks es).length<=d0:=by rw[gj,dx];exact bf Yd (cS rfl)
 refine call_function_entry kind_sorted plain_sorted entry_sorted (args_sorted1 _) ?_
 unfold Builtin.«sorted»
 refine bz (m:=checkCount "sorted" 1 1 _) (dc ?_)
 refine bz (kdu_collect (A:=A.in1) (kdl_keys (knd:=BL prog w) (kvs:=kvs ks es) (ep:=n)) aw ⟨aW,D⟩ nl λfG cq acc ja yL=> ?_)
 have al:acc.toList.length=(kvs ks es).length:=yL.1
 have BZ:Bk acc.toList (ks.map aK):=ag0 (prog:=prog) (w:=w) aS al λj v e=>yL.2 j v (by rw[<-Array.getElem?_toList];exact e)
 refine bz (wpAny_newList ?_ (by rw[al];exact nl))
 have DN:(fG.push (seqObj "list" acc.toList.toArray 0)).get? fG.objs.size=ab (seqObj "list" acc.toList.toArray 0):=ju _ rfl
 refine bz (gk (wpAny_call_entry slot_list_sort ⟨_,DN,rfl⟩ entry_list_sort (list_sort_treeK strKind_oneLt DN BZ.keysOf (λajx aik rest e=>keyKind_strs (by rw[<-e];exact BZ)) (by rw[al,dx];omega) λQh a1 a2=> ⟨_,rfl, ?_⟩) (args_list_sort _)))
 refine ak (sorted_out_str BZ a1 a2) λajr b=> ?_
 have b1:=b.1
 rw[agW ux b.2.1 b.2.2] at b1
 refine ak (sortedHeap_at (out:=(arrOf Qh).map (·.2)) DN) λe he=>dc ⟨_,rfl,h fG.objs.size _ _ ((arrOf Qh).map (·.2)).toList e (λb o q=> ?_) ?_ ?_ b1⟩
 ·have lt:=oP (ja b o q)
  rw[sortedHeap_old (mu lt) (by rw[SG];exact Se lt)]
  exact t5 _ (ja b o q)
 ·exact he.trans (congrArg (λx=>ab (seqObj "list" x e)) (Array.toArray_toList).symm)
 ·exact λo q=>H0 _ (oP (ja _ _ q))
include Ev bb
theorem agQ {a:X} (br:bc prog w Γ k S sc env a):bc prog w Γ k S sc env (.tp a):=by
 refine .val ay rfl (λp hp A E s T K Q aw N h q=>xq (vB (v:= .builtin "sorted") bb Ev (.tail _ (.tail _ (.tail _ (.tail _ (.tail _ (.head _)))))) (cU hp).1 N (Ll rfl rfl (Bn (zr (cU hp).2.1 (br.cX _ (cU hp).2.2 aw N h λbS v av bk bi aT bl h=>ak (dp h) λd h=> ?_)))))) (λ_ _=>rfl) rfl rfl
 rw[Jq h.1] at bl
 refine c5 (bq.i bl) λa es n f=> ?_
 have g:=b3 h.2.1
 have g1:=aT.aY.bE _ _ f.2.2.1
 rw[f.1]
 refine⟨"dict","dict.keys",Sr,Su,F.type_dict_keys,⟨_,g1,rfl⟩,noDict g1 rfl,Lm rfl (BF Su ⟨_,g1,rfl⟩ F.entry_dict_keys (F.args_dict_keys_1 _) (kdl_meets_keys (BL prog w) a f.2.1.2) ⟨⟨_,pb (prog:=prog) ay g1 f.2.1.1.1 f.2.2.2.1⟩,H9 ?_⟩)⟩
 have bR:=aT.push {cls:= .type "dict_keys",data:= .fields #[.ref a]}
 refine agX ay aw.2.2 (s:={bk with heap:=bk.heap.push {cls:= .type "dict_keys",data:= .fields #[.ref a]}}) ⟨_,ju _ rfl,rfl,rfl⟩ f.2.1 (bR.aY.bE _ _ f.2.2.1) f.2.2.2.1 g.1 (cS g.2) λb h' cq vs m keep lT Xi sa=> ?_
 have b2:=bR.apart Xi
 have fN:=(bR.grow (s':={bk with heap:=h',toks:=cq}) keep rfl rfl).fast lT b2.bE b2.fr b2.L b2.cell
 exact(q.ex (bi.trans fN.2)).fr fN.1 (.lst (bh.gc _ _ _) (ag1 sa f.2.1.1.2)) h.2.2
end
end
section
noncomputable abbrev HA:aZ:=⟨#[37,37,89,65,77,76,32,37,115]⟩
noncomputable abbrev HB:aZ:=⟨#[37,100,46,37,100]⟩
set_option maxHeartbeats 1000000 in
theorem Xp (t u:Tok): ∀z:aZ,z.length<=1000000->Meets (Builtin.«str.__mod__» ⟨[.str HA t,.str z u],[]⟩) (λ_ R s=> ∀dR k,R (.ok (.ret (.str (cF "%" ++cF "YAML " ++z) dR))) {s with toks:=k}):=by
 kpc_run_s
set_option maxHeartbeats 1000000 in
theorem Xr (t t1 jP:Tok) (b:aR) (i j:Int) (bj:0<=i) (j6:0<=j) (yR:i<10 ^ 10) (ajb:j<10 ^ 10) (ap:i.natAbs.log2<1920) (aC:j.natAbs.log2<1920):Meets (Builtin.«str.__mod__» ⟨[.str HB t,.ref b],[]⟩)
  (λ_ R s=>IsTup s.heap b #[.int i t1,.int j jP]/\ ∀dR k,R (.ok (.ret (.str (cF (qn i)++cF "." ++cF (qn j)) dR))) {s with toks:=k}):=by
 kpt_run
theorem tq (x y:List Nat):aK x++aK y=aK (x++y):=congrArg rV (HG x y)
theorem N1 {n:Nat} (h:n<100):(c1 n).natAbs.log2<1920:=w3 (Sb n) (by omega)
theorem NH (a b:List Nat):a.length<=(a++b).length:=by rw[bL];exact gH _ _
theorem aij (i j:Nat) (bj:i<100) (j6:j<100):cF (qn (c1 i))++cF "." ++cF (qn (c1 j))=aK (dv i++(46::dv j)):=by
 rw[show cF (qn (c1 i))=aK (dv i) from C2 i bj,show cF (qn (c1 j))=aK (dv j) from C2 j j6,show cF "." =aK [46] by decide+kernel,tq,tq,bt]
 rfl
theorem aif (i j:Nat):(dv i++(46::dv j)).length<=16777216:=by
 rw[bL,du]
 exact bf (fX (C1 i) (iY (C1 j))) (cS rfl)
variable [WP]
section
variable {prog:cO} {w:ba} {A:c2} {E:ah->az->Prop} {s:az} {Γ:bM} {T:bG} {env:dm} {sc:cC} {S:cM} {Kf:bZ} {k:Nat}
theorem abZ {t:Tok} {b:aR} {vs:List ah} {n:Nat} {X R:aZ} {Q:ah->az->Prop} (cj:s.heap.get? b=ab (md vs n))
  (hm:Meets (Builtin.«str.__mod__» ⟨[.str X t,.ref b],[]⟩) (λ_ Tu s=>IsTup s.heap b vs.toArray/\ ∀dR k,Tu (.ok (.ret (.str R dR))) {s with toks:=k}))
  (h: ∀dR k,Q (.str R dR) {s with toks:=k}):bg (bp prog w) A (qf .Mod (.str X t) (.ref b)) Q E s:=
 KPt.bin_left (T:= "str") (U:= "tuple") (op:= .Mod) (by decide) (xp s X t) ⟨_,cj,rfl⟩ F.fills_str_mod KPt.fills_tuple SA
  (IE SA (xp s X t) F.entry_str_mod (F.args_str_mod_2 _ _) hm ⟨⟨_,cj,rfl,n,rfl⟩,λdR k=> ⟨nofun,h dR k⟩⟩)
theorem Xs {j:Nat} {cq:Tok} {v:aj} {x:ah} {K:ae->St->aB} {Q:ah->az->Prop} (N:aX Γ T s) (aH:bq T.aP v x) (h:(cv (L3 j v) λr=> .dP r.1 (K (.f (.str r.2)) T.σ)).holds) (q:fx Γ T K Q):
  bg (bp prog w) A (qf .Mod (.str (Dk j) cq) x) Q E s:=by
 cases j with
 |zero=>
  cases v with
  |str y=>
   refine ak (fR aH) λu e=> ?_
   have cP:y.length<=1000:=h.1
   rw[e.1]
   refine KPc.mod_str (X':=HA) (by decide+kernel) (show(aK y).length<=1000000 by rw[show(aK y).length=y.length from hr ..];omega) (Xp cq u) λdR k=> ?_
   rw[show cF "%" ++cF "YAML " =aK [37,89,65,77,76,32] by decide+kernel,tq]
   exact q.fr (N.toks k) (.str _ _ (by rw[gj,bL];exact bf (iX cP 6) (cS rfl))) h.2
  |_=>exact h.elim
 |succ j=>cases j with
  |zero=>exact h.elim
  |succ j=>cases j with
   |succ j=>exact h.elim
   |zero=>
    cases v with
    |tup l=>cases l with
     |nil=>exact h.elim
     |cons a l=>cases a with
      |int i=>cases i with
       |negSucc _=>exact h.elim
       |ofNat i=>cases l with
        |nil=>exact h.elim
        |cons b l=>cases b with
         |int j=>cases j with
          |negSucc _=>exact h.elim
          |ofNat j=>cases l with
           |cons _ _=>exact h.elim
           |nil=>
            refine bT (bq.i aH) λa vs f=> ?_
            have cj:=N.aY.bE _ _ f.2.1
            refine bT f.2.2.cases λb4 Q5 g=>bT g.2.2.cases λHa mj g'=>ak (gK g.2.1) λu e=>ak (gK g'.2.1) λg5 cN=> ?_
            rw[g.1,g'.1,g'.2.2.q8,e,cN] at cj
            rw[f.1,show Dk 2=HB by decide+kernel]
            have cy:i<100/\j<100:=h.1
            refine abZ cj (Xr cq u g5 a (.ofNat i) (.ofNat j) (kV i) (kV j) (by show(i:Int)<_;omega) (by show(j:Int)<_;omega) (N1 cy.1) (N1 cy.2)) λdR k=> ?_
            rw[aij i j cy.1 cy.2]
            exact q.fr (N.toks k) (.str _ _ (by rw[gj];exact aif i j)) h.2
         |_=>exact h.elim
      |_=>exact h.elim
    |_=>exact h.elim
theorem XT {e:Expr} {pos:eu} {Q:ah->az->Prop} (h:bg (bp prog w) A (dz e env) (λv bk=> ∃x t,v= .str x t/\x.length<=d0/\ ∀dR cq,Q (.str x dR) {bk with toks:=cq}) E s):
  bg (bp prog w) A (dz (.FormattedValue e 115 af pos) env) Q E s:=by
 show bg _ A (do let v <-dz e env;xn pos;formatted pos (<-holding [v] (converted 115 v)) af) Q E s
 refine bz (h4 h (λv bk fG=>bT fG λx t fG=> ?_) λ_ _ x=>x)
 rw[fG.1]
 refine bz (gI ?_)
 show bg _ _ (do let lr <-holding [.str x t] (habitSame "fstring-hands-on-the-str" (.str x t));formatField lr Str.empty) Q E bk
 exact bz (gk (habitSame_str (λdR cq=>formatField_str (λag9 jQ=>fG.2.2 ag9 jQ) fG.2.1) fG.2.1))
theorem Pl {n:Nat} {x:List Nat} {p pos:eu} {Q:ah->az->Prop} (Ev:dk sc env Γ S) (aD:td sc n=aa) (N:aX Γ T s) (aW:gu n T.σ.loc=ab (.f (.str x))) (cH:x.length<=1000)
  (h: ∀dR cq,Q (.str (aK x) dR) {s with toks:=cq}):bg (bp prog w) A (dz (.FormattedValue (.Name (nm n) p) 115 af pos) env) Q E s:=
 XT (ub (ak N.lo.ns λm hm=>ak (hm.2 n _ aW) λv e=>BQ Ev.fn (Ev.is (b3 aD).2) (by rw[Ev.loc];exact hm.1) e.1 (ak (fR e.2) λu g=>
  ⟨aK x,u,g.1,by rw[gj,show(aK x).length=x.length from hr ..];exact bf cH (cS rfl),h⟩)) (jh (b3 aD).1))
theorem Xq {n m:Nat} {x y:List Nat} {K:ae->St->aB} {Q:ah->az->Prop} {e9 iP rd Fk Fl ado adp:eu} {ja n3:Nat} (Ev:dk sc env Γ S) (N:aX Γ T s) (bu:td sc n=aa) (d8:td sc m=aa) (aW:gu n T.σ.loc=ab (.f (.str x))) (DQ:gu m T.σ.loc=ab (.f (.str y)))
  (aH:x.length<=1000) (cP:y.length<=1000) (h:(K (.f (.str ([37,84,65,71,32]++(x++32::y)))) T.σ).holds) (q:fx Γ T K Q):
  bg (bp prog w) A (dz (.JoinedStr [.Constant (.str (cF "%TAG ")) ja e9,.FormattedValue (.Name (nm n) iP) 115 af rd,.Constant (.str (cF " ")) n3 Fk,.FormattedValue (.Name (nm m) Fl) 115 af ado] adp) env) Q E s:=by
 have zp:([37,84,65,71,32]++x++ [32]++y).length<=d0:=by
  rw[gj,bL,bL,bL]
  exact bf (fX (h2 (iX aH 5) 1) cP) (cS rfl)
 have pD:([37,84,65,71,32]++x++ [32]).length<=d0:=bf (NH _ y) zp
 have e3:([37,84,65,71,32]++x).length<=d0:=bf (NH _ [32]) pD
 have L: ∀z:List Nat,z.length<=d0->(aK z).length<=d0:=λz h=>by rw[show(aK z).length=z.length from hr ..];exact h
 refine JoinedStr_many (Bl (xr (show _/\_ from ?_)))
 rw[show Str.empty++cF "%TAG " =aK [37,84,65,71,32] by decide+kernel]
 refine⟨L _ (by rw[gj];exact cS rfl),Bl (Pl Ev bu (N.toks _) aW aH λt1 ja=>show _/\_ from ?_)⟩
 rw[tq]
 refine⟨L _ e3,Sn (Bl (xr (show _/\_ from ?_)))⟩
 rw[show cF " " =aK [32] by decide+kernel,tq]
 refine⟨L _ pD,Sn (Bl (Pl Ev d8 ((N.toks _).toks _) DQ cP λjP n3=>show _/\_ from ?_))⟩
 rw[tq]
 refine⟨L _ zp,joinParts_nil ?_ (L _ zp)⟩
 have e: [37,84,65,71,32]++x++ [32]++y= [37,84,65,71,32]++(x++32::y):=by rw[bt,bt];rfl
 exact q.fr ((((N.toks _).toks _).toks _).toks _|>.toks _) (.str _ _ zp) (by rw[e];exact h)
theorem agm {n m:Nat} (ay:WP.P=w.params) (Ev:dk sc env Γ S):bc prog w Γ k S sc env (.u2 n m):=
 have K: ∀{n x} {σ:St},(gu n σ.loc).bind ih=ab x->gu n σ.loc=ab (.f (.str x)):=λh=>ak (qb.mp h) λv h=>by rw[h.1,mF h.2]
 .val ay rfl (λp hp {_ _ _ _ _ _} aw N h q=>ak (dp h) λx h=>ak (dp h.2) λy h'=>Xq Ev N (b3 hp).1 (b3 hp).2 (K h.1) (K h'.1) h'.2.1.1 h'.2.1.2 h'.2.2 q) (λ_ _=>rfl) rfl rfl
theorem agn {j:Nat} {a:X} (ay:WP.P=w.params) (br:bc prog w Γ k S sc env a):bc prog w Γ k S sc env (.fmt j a):=
 .val ay rfl (λp hp {_ _ _ _ _ _} aw N h q=>wpAny_BinOp (xr (br.cX _ hp aw (N.toks _) h λfk v2 o5 dh cD bR dF h=>ak (dp h) λv h=>by
  rw[Ud h.1] at dF
  exact Xs bR dF h.2 (q.ex cD)))) (λ_ _=>rfl) rfl rfl
end
end
section
open AutoSeq1 (wpAny_loadPart')
open MeetsSeq MeetsSeq2 MeetsSeq3 SeqRoads2 SeqAt
variable [WP]
def oF (prog:cO) (w:ba) (A:c2) (s:az) (y x:ah):Prop:= ∀(E:ah->az->Prop) (Q:Bool->az->Prop),Q aa s->bg (bp prog w) A (eqBool y x) Q E s
section
variable {prog:cO} {w:ba}
theorem LR {A:c2} {s:az} {l b:aR} (h: ∀(E:ah->az->Prop) (Q:ah->az->Prop),Q (.bool aa) s->bg (bp prog w) A (richCompare .Eq (.ref l) (.ref b)) Q E s):oF prog w A s (.ref l) (.ref b):=λE Q dC=>by
 unfold eqBool
 refine gk ?_
 refine wpAny_ite_split (λsI=> ?_) (λ_=> ?_)
 ·exact bz (wpAny_rule (dc dC))
 ·exact bz (h E _ (ud dC))
theorem W5 (l b:aR) (items gd:Array ah) (n gN:Nat) (j7:items.size=gd.size) (k:Nat):
  ∀i:Nat,items.size-i=k->MeetsIn prog w (Builtin.«list.__eq__.loop» ⟨[.ref l,.ref b,rawInt i,rawInt 2],[]⟩)
   (λA R s=>s.heap.get? l=ab {cls:= .type "list",dict:=af,data:= .seq items n,slots:= #[]}/\s.heap.get? b=ab {cls:= .type "list",dict:=af,data:= .seq gd gN,slots:= #[]}/\
    (∀j (ap:j<items.size) (aC:j<gd.size),oF prog w A.in1 s items[j] gd[j])/\
    R (.ok (.ret (.bool aa))) s):=by
 induction k with
 |zero=>
  intro i aS A R s h
  obtain ⟨hp,g,d,cq,os⟩:=s;obtain ⟨aA,ag,he,h⟩:=h
  wp_walk using nC aA,nC ag
  have DG:items[((i:Nat):Int).toNat]? =af:=Rg (R9 aS)
  have yR:gd[((i:Nat):Int).toNat]? =af:=Rg (j7▸R9 aS)
  rw[DG,yR]
  wp_walk using nC aA,nC ag
  show R (.ok (.ret (.bool (items.size==gd.size)))) _
  rw[j7]
  simpa using h
 |succ k ai=>
  intro i aS A R s h
  obtain ⟨hp,g,d,cq,os⟩:=s;obtain ⟨aA,ag,he,h⟩:=h
  wp_walk using nC aA,nC ag
  have kF:i<items.size:=Nat.lt_of_sub_pos (aS▸w7 k)
  have MA:i<gd.size:=j7▸kF
  have DG:items[((i:Nat):Int).toNat]? =ab items[i]:=Rf kF
  have yR:gd[((i:Nat):Int).toNat]? =ab gd[i]:=Rf MA
  have aD:((i:Int)+1)=((i+1:Nat):Int):=rfl
  rw[DG,yR]
  refine bz (he i kF MA _ _ ?_)
  wp_walk
  rw[aD]
  exact⟨plainId_quiet plain_eq_loop _,S0 entry_eq_loop (by
   rw[So plain_eq_loop _]
   exact ai (i+1) (by rw[Nat.sub_add_eq,aS];rfl) A R _ ⟨aA,ag,he,h⟩)⟩
theorem W4 (l b:aR) (items gd:Array ah) (n gN:Nat) (j7:items.size=gd.size):
  MeetsIn prog w (Builtin.«list.__eq__» ⟨[.ref l,.ref b],[]⟩)
   (λA R s=>s.heap.get? l=ab {cls:= .type "list",dict:=af,data:= .seq items n,slots:= #[]}/\s.heap.get? b=ab {cls:= .type "list",dict:=af,data:= .seq gd gN,slots:= #[]}/\
    (∀j (ap:j<items.size) (aC:j<gd.size),oF prog w A.in1 s items[j] gd[j])/\
    R (.ok (.ret (.bool aa))) s):=by
 intro A R s h
 obtain ⟨hp,g,d,cq,os⟩:=s;obtain ⟨aA,ag,he,h⟩:=h
 have qH:=AutoSeq1.sub_list_list
 have pv: ¬(items.size !=gd.size)=aa:=by simp[j7]
 wp_walk using nC aA,nC ag
 exact⟨plainId_quiet plain_eq_loop _,S0 entry_eq_loop (by
  rw[So plain_eq_loop _]
  exact W5 l b items gd n gN j7 _ 0 rfl A R _ ⟨aA,ag,he,h⟩)⟩
theorem W6 (l b:aR) (items gd:Array ah) (n gN:Nat) (j7:items.size=gd.size):
  MeetsIn prog w (Builtin.«tuple.__eq__» ⟨[.ref l,.ref b],[]⟩)
   (λA R s=>s.heap.get? l=ab {cls:= .type "tuple",dict:=af,data:= .seq items n,slots:= #[]}/\s.heap.get? b=ab {cls:= .type "tuple",dict:=af,data:= .seq gd gN,slots:= #[]}/\
    (∀j (ap:j<items.size) (aC:j<gd.size),oF prog w A.in1 s items[j] gd[j])/\
    R (.ok (.ret (.bool aa))) s):=
 .of_wp λA R s h=>by
  obtain ⟨hp,g,d,cq,os⟩:=s;obtain ⟨aA,ag,he,h⟩:=h
  have f2:=AutoSeq1.sub_tuple_tuple
  have Yk:(items.toList.zip gd.toList).length=items.size:=by simp[j7]
  wp_walk using nC aA,nC ag,IM _ (λrest b s'=>b.1=af/\s'=⟨hp,g,d,cq,os⟩/\ ∃i,rest=(items.toList.zip gd.toList).drop i/\
   R (.ok (.ret (.bool aa))) ⟨hp,g,d,cq,os⟩) _
  case turn=>
   rintro ⟨y,x⟩ rest b s' ⟨DA,rfl,i,cH,eK⟩
   have kF:i< (items.toList.zip gd.toList).length:=by
    rcases Sd i (items.toList.zip gd.toList).length with h'|h'
    ·exact h'
    ·rw[HJ h'] at cH;cases cH
   have ap:i<items.size:=Yk▸kF
   have aC:i<gd.size:=j7▸ap
   rw[RP kF] at cH
   injection cH with ME YW
   have cP:y=items[i]:=by have:=congrArg H7 ME;simpa using this
   have aH:x=gd[i]:=by have:=congrArg Prod.snd ME;simpa using this
   subst cP aH
   refine bz (he i ap aC _ _ ?_)
   wp_walk
   exact⟨rfl,rfl,i+1,YW,eK⟩
  case fin=>
   rintro ⟨b1,ij⟩ s' ⟨DA,rfl,i,cH,eK⟩
   simp only at DA
   subst DA
   wp_walk
   exact⟨_,rfl,by simpa [aiY,j7] using eK⟩
  case h=>
   exact⟨rfl,rfl,0,rfl,h⟩
theorem yq {A:c2} {s:az} {x y:ah} (h:Il A s x y aa):oF prog w A s x y:=λE Q dC=>h prog w E Q dC
theorem yC {F:bh} {l:List aj} {vs:List ah} (h:bC (bq F) l vs) {j:Nat} (j6:j<vs.length): ∃v,v∈l/\l[j]? =ab v/\bq F v vs[j]:=by
 have lt:j<l.length:=h.length▸j6
 refine ak (qr h (nt lt)) λx e=> ⟨l[j],HP lt,nt lt, ?_⟩
 rw[nt j6] at e
 exact bQ e.1▸e.2
theorem LS {n:Nat} {l:List aj}:kE n l=aa-> ∀v∈l,sr n v=aa:=by
 induction l with
 |nil=>exact λ_ v h=>absurd h eI
 |cons a l ai=>
  intro g v h
  have g:sr n a=aa/\kE n l=aa:=fW.mp g
  cases h with
  |head=>exact g.1
  |tail _ h=>exact ai g.2 v h
theorem aie {ks:List (List Nat)}: ∀{vs:List ah} {i:Nat} {k:List Nat} {v:ah},ks.Nodup->ks[i]? =ab k->vs[i]? =ab v->r3 ((ks.map aK).zip vs) (aK k)=ab v:=by
 induction ks with
 |nil=>exact λ_ h=>a3 h
 |cons a ks ai=>
  intro vs i k v bY ap aC
  have bY:=p6.mp bY
  cases vs with
  |nil=>exact a3 aC
  |cons b vs=>
   unfold r3
   show H6 _ (HM _ ((aK a,b)::(ks.map aK).zip vs))=ab v
   rw[wX,yb]
   cases i with
   |zero=>
    rw[gM.mpr (bQ ap)]
    exact aC
   |succ i=>
    cases q:aM a k with
    |true=>exact absurd (show a∈ks by rw[gM.mp q];exact HT (i:=i) ap) bY.1
    |false=>exact ai bY.2 ap aC
theorem YF {A:c2} {s:az} {F:bh} {bF:List (aZ×ah)} {l:List aj}: ∀{ks:List (List Nat)} {as bs:List ah},Cf l=aa->bC (bq F) l as->bC (bq F) l bs->ks.length=l.length->
  (∀(i:Nat) (k:List Nat) (v:ah),ks[i]? =ab k->bs[i]? =ab v->r3 bF (aK k)=ab v)->KeqHits A s bF ((ks.map aK).zip as) aa:=by
 induction l with
 |nil=>exact λ{ks as bs} _ _ _ e _=>by rw[wW e];exact .nil
 |cons v l ai=>
  intro ks as bs h ap aC e aW
  cases ks with
  |nil=>cases e
  |cons k ks=>cases ap with
   |cons a1 t1=>cases aC with
    |cons a2 jP=>cases v with
     |str c=>
      refine ak (fR a1) λt e1=>ak (fR a2) λu e2=> ?_
      have f:=Io (A:=A) (s:=s) (aK c) t (aK c) u
      rw[beq_self_eq_true,<-e1.1,<-e2.1] at f
      exact KeqHits.hit (e:=aa) (b:=aa) (aW 0 k _ rfl rfl) f (ai (ks:=ks) h t1 jP (Bh e) λi k v a b=>aW (i+1) k v a b)
     |_=>exact cm h
theorem LV (ay:WP.P=w.params) {Z:bh} {s:az} (hx: ∀b o,Z b=ab o->s.heap.get? b=ab o) {n:Nat} {v:aj} {x y:ah} {A:c2} (h:sr n v=aa) (ap:bq Z v x) (aC:bq Z v y) (d3:A.units<9900)
  (tup: ∀l,v= .tup l->oF prog w A s x y):oF prog w A s x y:=by
 cases v with
 |none=>rw[k9 ap,k9 aC];exact yq (Im _)
 |bool b=>rw[ys ap,ys aC];exact yq (Im _)
 |int i=>
  refine ak (gK ap) λt e1=>ak (gK aC) λu e2=> ?_
  have f:=SM (A:=A) (s:=s) i t i u
  rw[beq_self_eq_true,<-e1,<-e2] at f
  exact yq f
 |str c=>
  refine ak (fR ap) λt e1=>ak (fR aC) λu e2=> ?_
  have f:=Io (A:=A) (s:=s) (aK c) t (aK c) u
  rw[beq_self_eq_true,<-e1.1,<-e2.1] at f
  exact yq f
 |ek ks l=>
  refine c5 (bq.i ap) λa es m f=>c5 (bq.i aC) λb fs aU g=> ?_
  rw[f.1,g.1]
  have len:=f.2.2.2.2.length
  have NF:=g.2.2.2.2.length
  have dx:=f.2.2.2.1.length
  rw[eg] at len NF
  refine LR λE Q dC=>keq_eq (r:=aa) f.2.1.2 g.2.1.2 (pb (prog:=prog) ay (hx _ _ f.2.2.1) f.2.1.1.1 f.2.2.2.1) (pb (prog:=prog) ay (hx _ _ g.2.2.1) g.2.1.1.1 g.2.2.2.1) d3
   (λ_=>YF (l:=l) (b3 h).2 f.2.2.2.2.to g.2.2.2.2.to (dx.trans len.symm) λi k v e1 e2=>aie f.2.1.1.1 e1 e2) ?_
  rw[n4 f.2.2.2.1,n4 g.2.2.2.1,<-len,<-NF,beq_self_eq_true]
  exact dC
 |tup l=>exact tup l rfl
 |_=>exact cm h
theorem W7 (ay:WP.P=w.params) {Z:bh} {s:az} (hx: ∀b o,Z b=ab o->s.heap.get? b=ab o) (n:Nat): ∀{v:aj} {x y:ah} {A:c2},sr n v=aa->bq Z v x->bq Z v y->A.units+n<9800->oF prog w A s x y:=by
 induction n with
 |zero=>exact λh ap aC d3=>LV ay hx h ap aC (qa d3 (cS rfl)) λl e=>by rw[e] at h;exact cm h
 |succ n ai=>
  intro v x y A h ap aC d3
  have aw:A.units<9900:=w3 (gH _ _) (qa d3 (cS rfl))
  refine LV ay hx h ap aC aw λl e=> ?_
  rw[e] at h ap aC
  refine bT (bq.i ap) λa vs f=>bT (bq.i aC) λb dN g=> ?_
  rw[f.1,g.1]
  have aE:=hx _ _ f.2.1
  have ag:=hx _ _ g.2.1
  refine LR λE Q dC=>To (op:= .Eq) ⟨_,aE,rfl⟩ ⟨_,ag,rfl⟩ SD (BF SD ⟨_,aE,rfl⟩ F.entry_tuple_eq (F.args_tuple_eq_2 _ _) (W6 a b vs.toArray dN.toArray 0 0 (f.2.2.length.symm.trans g.2.2.length)) ⟨aE,ag,λj vp vq=> ?_,⟨nofun,dC⟩⟩) aw
  refine ak (yC f.2.2.to (j:=j) vp) λv1 fZ=>ak (yC g.2.2.to (j:=j) vq) λv2 hE=> ?_
  have jN:=hE.2.2
  rw[<-bQ (fZ.2.1.symm.trans hE.2.1)] at jN
  exact ai (LS h v1 fZ.1) fZ.2.2 jN (by show A.units+1+n<9800;rw[p9,kW 1 n];exact d3)
end
section
variable {prog:cO} {w:ba} {A:c2} {E:ah->az->Prop} {s:az} {Γ:bM} {T:bG} {env:dm} {sc:cC} {S:cM} {Kf:bZ} {k:Nat}
theorem agk {a b:X} (ay:WP.P=w.params) (br:bc prog w Γ k S sc env a) (cV:bc prog w Γ k S sc env b):bc prog w Γ k S sc env (.uX a b):=by
 refine .of (λp hp A E s T K Q aw N h q=>Tc (br.cX _ (cU hp).2.1 aw N h λbS v av bk bi aT bl h=>cV.cX _ (cU hp).2.2 aw aT h λfk v2 o5 dh cD bR dF h=>
  ak (dp h) λl h=>ak (dp h.2) λm h'=>ak h'.2 λfs aC=>c5 (mY bR (bl.ex cD) h.1) λc vs n L=>c5 (mY bR dF h'.1) λd dN fA M=> ?_) (jh (cU hp).1))
  (λp hp {_ _ _ _ _ _} aw N h q=>h.elim) rfl rfl
 have e:=aC.2.1.1.1
 have w2:=M.2
 rw[e] at w2
 have f1:=nf (R:=bq fk.aP) L.2.all (λ_ _ h=>h.1) aC.1
 have f2:=nf (R:=bq fk.aP) w2.all (λ_ _ h=>h.1) aC.1
 have d3:=aw.2.1
 rw[L.1,M.1]
 refine To (op:= .Eq) ⟨_,L.2.at_,rfl⟩ ⟨_,w2.at_,rfl⟩ Sw (BF Sw ⟨_,L.2.at_,rfl⟩ F.entry_list_eq (F.args_list_eq_2 _ _) (W4 _ _ vs.toArray dN.toArray n fA (f1.length.symm.trans f2.length)) ⟨L.2.at_,w2.at_,λj vp vq=> ?_,⟨nofun,(q.ex (bi.trans cD)).fr bR (.bool aa) aC.2.2⟩⟩) (by show A.units<9900;omega)
 refine ak (yC f1 (j:=j) vp) λv1 fZ=>ak (yC f2 (j:=j) vq) λv2 hE=> ?_
 have jN:=hE.2.2
 rw[<-bQ (fZ.2.1.symm.trans hE.2.1)] at jN
 exact W7 ay bR.aY.bE 3 (LS aC.2.1.2 v1 fZ.1) fZ.2.2 jN (by show A.units+1+3<9800;omega)
end
end
section
theorem abb:S3 (.type "list") "add" aa=pure ac:=by
 unfold S3
 show(IJ (.type "list") (dunderI "add")>>=λL0=>pure (L0.isSome&& !isSeqSlot L0))=pure ac
 rw[Ie.lookup]
 kernel_rfl
theorem abc:fillsNumberSlot (.type "list") "add" =pure ac:=by kernel_rfl
theorem abd:seqSlot? (.type "list") (dunderI "add")=pure (ab (.builtin "list.__iadd__")):=by
 unfold seqSlot?
 rw[Ie.lookup]
 kernel_rfl
variable [WP]
section
variable {prog:cO} {w:ba} {A:c2} {E:ah->az->Prop} {s:az} {Γ:bM} {T:bG} {env:dm} {sc:cC} {S:cM} {Kf:bZ} {k:Nat}
theorem Zb {a b:ah} {Q:ah->az->Prop} (aE:s.TypeIs a "list") (ag:s.TypeIs b "list") (aD:bg (bp prog w) A (iB (.builtin "list.__iadd__") [a,b]) Q E s):bg (bp prog w) A (xk .Add a b) Q E s:=by
 unfold xk
 refine gk (bz (wpAny_typeOf aE (bz (wpAny_of_eq abb ?_))))
 show bg _ A (if ac=aa then _ else _) Q E s
 exact tI oC (bz (wpAny_binaryOp1_none (nm:= "add") aE ag abc (bz (wpAny_of_eq abd (bz (wpAny_rule aD))))))
variable (ay:WP.P=w.params) (Ev:dk sc env Γ S) (bb:Top Kf Γ.base S)
include Ev
theorem aeM {n:Nat} {x:X} (co:bc prog w Γ k S sc env x):ew prog w Γ k S sc env (.si n x):=by
 refine .of (λp hp A E s T K Q aw N h q=>ak (dp h) λd h=>Ta (Ew (K:=λd σ=> (ev S x).x σ λv σ=>cv (ib σ d) λl=>cv (se v) λm=> .dP (cn l=aa/\cn m=aa) (putK σ (idOf d) (.list (l++m.map .f)) λσ=>stK σ n d (K .aQ))) Ev (b3 hp).1 N h.1 h.2 λbS v av bk bi aT bl h=>
  co.cX _ (b3 hp).2 aw aT h λfk v2 o5 dh cD bR dF h=>ak (dp h) λl h=>ak (dp h.2) λm h'=>c5 (mY bR (bl.ex cD) h.1) λa vs kc L=> ?_)) rfl
 have bl:=bl.ex cD
 rw[xG h'.1] at dF
 rw[L.1] at bl⊢
 refine c5 (bq.i dF) λb ws gN f=> ?_
 rw[f.1]
 have lT:=bR.aY.bE _ _ f.2.1
 have z:=L.2.kO h'.2.1.1
 have mj:ws.length<=1000000:=by rw[<-f.2.2.length];exact pV h'.2.1.2
 have wA:vs.length+ws.length<=d0:=bf (iX mj _) (pG z).1
 refine Zb ⟨_,L.2.at_,rfl⟩ ⟨_,lT,rfl⟩ (IE Ie ⟨_,L.2.at_,rfl⟩ F.entry_list_iadd (F.args_list_iadd_2 _ _) (AutoSeq1.list___iadd___list_list_0 _ vs.toArray kc b ws.toArray gN ?_ (pG z).2 (tV wA)) ⟨L.2.at_,lT,
  L.2.turn (vs':=vs++ws) (f:=λxs=>xs++ws.toArray) (HG _ _) (L.2.all.cG (f.2.2.to.EQ λ_ _ h=> ⟨h,rfl⟩)) h'.2.2 λi2 fV eX dU h=>pX (K:=K .aQ) Ev (b3 hp).1 dU (bl.ex eX) h (q.aQ.ex ((bi.trans cD).trans eX))⟩)
 rw[show Sp (vs.toArray.size+ws.toArray.size)=ac from decide_eq_false (mv.mpr wA),hq]
 exact oC
include ay bb
theorem aeT {n:Nat} {x:X} {b:Q7.S} (co:bc prog w Γ k S sc env x) (cV: ∀dY:bM,dk sc env dY S->dY.base=Γ.base->ew prog w dY k S sc env b):ew prog w Γ k S sc env (.u4 n x b):=by
 refine .of (λp hp A E s T K Q aw N h q=>BO (qw ay Ev bb (f:= .type "list") (.tail _ (.tail _ (.tail _ (.tail _ (.tail _ (.tail _ (.head _))))))) rfl (i4 (i4 (fl hp).2.1 (fl hp).2.2.1) (fl hp).2.2.2.1) co aw N h λbS v av bk bi aT bl h=> ?_) (λx=>rfl)) rfl
 refine ak (dp h) λd h=>ak (uR aT bl h.1) λy c=>c5 c.2.2.2 λes m bY f7=> ?_
 have g:=gr h.2
 rw[c.2.2.1]
 have z:(kvs d.1 es).length=0:=by rw[n4 f7.2.1,<-f7.2.1.length,HQ.mp g.1];rfl
 refine kdl_call (kdl_dict (knd:=BL prog w) (kvs:=kvs d.1 es) (ep:=m) bY.2) aw.2.2 (so (prog:=prog) ay f7.1 bY.1.1 f7.2.1) (bf (fi z) (fw _)) λh' cq acc c keep dI yL=> ?_
 rw[Array.eq_empty_of_size_eq_zero (yL.1.trans z)] at dI
 have b2:=aT.fresh
 have dU:=(aT.grow (s':={bk with heap:=h',toks:=cq}) keep rfl rfl).fast dI b2.bE b2.fr b2.L b2.cell
 exact BS (s:={bk with heap:=h',toks:=cq}) (items:= #[]) ⟨_,dI,rfl,c,rfl⟩ (u3 (y9 (prog:=prog) (w:=w) _ bk.heap.objs.size c [] []) Ev (fl hp).1 (λo hf=> (cV (Γ.hold _ o) (Ev.hold hf) rfl).b _ (fl hp).2.2.2.2) aw (dU.1.push _) dU.1.fresh (ju _ rfl) (l:= []) ⟨0,rfl,rfl,rfl,bh.gc _ _ _,.nil⟩ g.2 (q.ex (bi.trans dU.2)))
end
end
section
variable [WP]
section
variable {prog:cO} {w:ba} {A:c2} {E:ah->az->Prop} {s:az} {Γ:bM} {T:bG} {env:dm} {sc:cC} {S:cM} {Kf:bZ} {k:Nat}
theorem aX.Ql {a b:aR} {h':cw} {t:Nat} (N:aX Γ T s) (xA:Apart Γ T a) (qq:Apart Γ T b) (k: ∀c o,c∉ [a,b]->s.heap.get? c=ab o->h'.get? c=ab o):aX Γ T {s with heap:=h',toks:=t}:=by
 have no: ∀c,c≠a->c≠b->c∉ [a,b]:=λc aE ag m=> (e6.mp m).elim aE λm=>ag (jU.mp m)
 have K: ∀c o,c≠a->c≠b->s.heap.get? c=ab o->h'.get? c=ab o:=λc o aE ag=>k c o (no c aE ag)
 exact⟨⟨λc o e=>K c o (λq=>by rw[q,xA.bE] at e;exact a3 e) (λq=>by rw[q,qq.bE] at e;exact a3 e) (N.aY.bE c o e),λc o e=> ⟨K c o (λq=>by rw[q,xA.fr] at e;exact a3 e) (λq=>by rw[q,qq.fr] at e;exact a3 e) (N.aY.fr c o e).1,(N.aY.fr c o e).2⟩,
  λx ao e=>ix (dT.refl _) (λ_ h=>h) (λ_ _=>rfl) (λc aD=>ak (lM (N.aY.cell x ao e) c aD) λo ap=>ap.trans (K c o (λq=>xA.cell x ao e (by rw[<-q];exact aD)) (λq=>qq.cell x ao e (by rw[<-q];exact aD)) ap).symm) rfl rfl (N.aY.cell x ao e),N.aY.ca,N.aY.gn⟩,
  ⟨ak N.lo.ns λm h=> ⟨m,c5 h.1 λo es ep h=> ⟨o,es,ep,K _ _ (iZ xA.L) (iZ qq.L) h.1,h.2⟩,h.2⟩,N.lo.free,N.lo.b2,N.lo.lu⟩,N.base,N.gens,N.os,N.pin⟩
theorem Apart.hold {a b:aR} {o:bX} (b2:Apart Γ T a) (ne:a≠b):Apart (Γ.hold b o) T a:=⟨b2.bE,(bh.gb _ _ ne).trans b2.fr,b2.L,b2.cell⟩
structure Hx (Γ:bM) (T:bG) (s:az) (e it:aR) (oX:Nat->cw->Prop) (L:Nat->St->Prop) (z j i:Nat) (a5:bG):Prop where
 bj:i<=z
 j6:j=z-i
 x:T.dS a5
 N:aX Γ a5 s
 e:Apart Γ a5 e
 it:Apart Γ a5 it
 st:oX i s.heap
 h:L i a5.σ
theorem L5 {e it:aR} {x:List Nat} {oX:Nat->cw->Prop} {hJ:Nat->aR->cw->Prop} {n m:Nat} {b:Q7.S} {body:List ct} {e1 e2:Expr} {rd:eu} {h8:Nat}
  (W:WalksT prog w A e (e:: [it]) [e,it] (aK x).cps.size (λi vals=> ∃t v,(∃c u,(aK x).cps[i]? =ab c/\v= .str ⟨#[c]⟩ u)/\vals= #[.int i t,v]) oX hJ) (ne:e≠it)
  (alive: ∀i h,oX i h->(∃o,h.get? e=ab o)/\ ∃o,h.get? it=ab o)
  (Ev:dk sc env Γ S) (aA: ∀k∈ [n,m],fH sc (nm k)=aa)
  (cV: ∀dY:bM,dk sc env dY S->dY.base=Γ.base->qj prog w dY k (bN S b) (nB body env)) {K:cE->St->aB} (aw:fu A k) (N:aX Γ T s) (xB:Apart Γ T e) (nH:Apart Γ T it)
  (st:oX 0 s.heap) (h:pg n m (bN S b) (pe 0 x) T.σ λf σ=> (K f σ).holds)
  {R:ny->az->Prop} (q:nD Γ T K λf=>R (.ok f)):nA (bp prog w) A (.forLoop (.Tuple (ir [n,m] [e1,e2]) h8 rd) (.ref e) body [] env) R s:=by
 have kO:(aK x).cps.size=x.length:=hr ..
 refine codeAny_forLoop_any (λj s=> ∃i a5,Hx Γ T s e it oX (λi σ=>pg n m (bN S b) (pe i (x.drop i)) σ λf σ=> (K f σ).holds) x.length j i a5) (λj bk I=>bT I λi bS I=> ?_) (x.length-0)
  ⟨0,T,fw _,rfl,.refl T,N,xB,nH,st,h⟩
 by_cases kF:i<x.length
 ·have h:=I.h
  rw[RP kF] at h
  refine W.item i bk _ _ (by rw[kO];exact kF) I.st λd4 vals fG jQ aW MD M5 mid k₁=>bT aW λt v aW=>bT aW.1 λc u aD=> ?_
  have nV:x[i]=c:=bQ ((nt kF).symm.trans (lD.symm.trans aD.1))
  rw[nV] at h
  rw[aW.2,aD.2] at M5
  refine W.go _ _ _ i d4 {bk with heap:=fG,toks:=jQ} _ _ mid λkG FQ Np=> ?_
  have bR:aX Γ bS {bk with heap:=kG,toks:=jQ}:=I.N.Ql I.e I.it λb o ag q=>Np b o ag (k₁ b o ag q)
  have ZC:kG.IsTuple d4 #[.int i t,.str ⟨#[c]⟩ u]:=ak M5 λo r=> ⟨o,Np _ _ (W.apart i d4 _ mid) r.1,r.2⟩
  show bg _ _ (do xn rd;unpack (.ref d4) (oU (ir [n,m] [e1,e2]) env)) _ _ _
  refine bz (gI (IS aw.2.2 ZC rfl rfl λiH hs=> ?_))
  refine ak (alive _ _ FQ).1 λhT g1=>ak (alive _ _ FQ).2 λiO g2=> ?_
  have old: ∀b o,kG.get? b=ab o->iH.get? b=ab o:=λb o q=>hs b o (mu (oP q)) q
  have dU:aX Γ bS {bk with heap:=iH,toks:=jQ}:=bR.grow (s':={bk with heap:=iH,toks:=jQ}) old rfl rfl
  have ag2:oX (i+1) iH:=W.frame _ _ _ FQ λb _ o q=>old b o q
  have Cc:=I.it.hold (o:=hT) (iZ ne)
  have Hz:dk sc env ((Γ.hold e hT).hold it iO) S:=(Ev.hold I.e.fr).hold Cc.fr
  refine Jv (fs:= [.int (.ofNat i),.str [c]]) (K:=λσ=>bN S b σ (cq (q1 (λσ=>pg n m (bN S b) (pe (i+1) (x.drop (i+1))) σ λf σ=> (K f σ).holds) λf σ=> (K f σ).holds))) Hz aA ((dU.hold I.e (old _ _ g1)).hold Cc (old _ _ g2)) (.cons (.int _ _) (.cons (.str [c] u (by show 1<=d0;decide)) .nil))
   (by show(stK _ n _ λσ=>stK σ m _ _).holds;rw[v8,v8];exact h) λTQ ru G9 gR h=>cV _ Hz rfl aw gR h λI7 g f Qs aiK nv hf h=> ?_
  have tZ:=nv.loose Cc.fr
  have t2:=tZ.1.loose I.e.fr
  have be:=(I.x.trans G9).trans aiK
  have on:(q1 (λσ=>pg n m (bN S b) (pe (i+1) (x.drop (i+1))) σ λf σ=> (K f σ).holds) (λf σ=> (K f σ).holds) af I7.σ)-> ∃Na,Na<j/\ ∃i a5,Hx Γ T Qs e it oX (λi σ=>pg n m (bN S b) (pe i (x.drop i)) σ λf σ=> (K f σ).holds) x.length Na i a5:=λh=>
   ⟨x.length- (i+1),by rw[I.j6];exact Nat.sub_lt_sub_left kF (nu i),i+1,I7,kF,rfl,be,t2.1,t2.2.1,⟨tZ.2.1.bE,I.it.fr,tZ.2.1.L,tZ.2.1.cell⟩,W.frame _ _ _ ag2 λb ag o q=> (e6.mp ag).elim (λz=>by
    rw[z] at q⊢
    rw[old _ _ g1] at q
    exact bQ q▸t2.2.2) λz=>by
    rw[jU.mp z] at q⊢
    rw[old _ _ g2] at q
    exact bQ q▸tZ.2.2,h⟩
  cases g with
  |aQ=>rw[hf];exact on h
  |df=>rw[hf];exact on h
  |c0=>rw[hf];exact q.aQ _ _ be t2.1 h
  |hG v=>exact ak hf λy e=>by rw[e.1];exact q _ (.hG v) _ _ be t2.1 ⟨y,rfl,e.2⟩ h
 ·have bj:=Nat.le_antisymm I.bj (mv.mp kF)
  have h:=I.h
  have st:=I.st
  rw[bj,List.drop_length] at h
  rw[bj,<-kO] at st
  exact W.done bk _ _ st λh' _ aS=>uc (q.aQ _ _ I.x (I.N.Ql I.e I.it aS) h)
variable (ay:WP.P=w.params) (Ev:dk sc env Γ S) (bb:Top Kf Γ.base S)
include ay Ev bb
theorem aeS {n m:Nat} {x:X} {b:Q7.S} (co:bc prog w Γ k S sc env x) (cV: ∀dY:bM,dk sc env dY S->dY.base=Γ.base->ew prog w dY k S sc env b):ew prog w Γ k S sc env (.sD n m x b):=by
 refine .of (λp hp A E s T K Q aw N h q=>BO (qw ay Ev bb (f:= .type "enumerate") (.tail _ (.tail _ (.tail _ (.tail _ (.tail _ (.tail _ (.tail _ (.tail _ (.head _))))))))) rfl (i4 (i4 (k2 hp).2.2.1 (k2 hp).2.2.2.1) (k2 hp).2.2.2.2.1) co aw N h λbS v av bk bi aT bl h=> ?_) (λx=>rfl)) rfl
 refine ak (dp h) λz h=> ?_
 rw[mF h.1] at bl
 refine ak (fR bl) λt e=> ?_
 rw[e.1]
 refine call_enumerate_str λh' he hit j7 keep=>wpAny_pyIter_enum he ?_
 have bR:aX Γ bS {bk with heap:=h'}:=aT.grow keep rfl rfl
 have xB:Apart Γ bS (bk.heap.objs.size+1):=aT.apart (zA (ky _))
 have aA: ∀k∈ [n,m],fH sc (nm k)=aa:=wY.mpr ⟨(k2 hp).1,wY.mpr ⟨(k2 hp).2.1,λ_ h=>absurd h eI⟩⟩
 have MG: ∀dY:bM,dk sc env dY S->dY.base=Γ.base->qj prog w dY k (bN S b) (nB ((dH sc b).b0 (jr p)) env):=λdY e1 e2=> (cV dY e1 e2).b _ (k2 hp).2.2.2.2.2
 have ne:bk.heap.objs.size+1≠bk.heap.objs.size:=Si _
 unfold r2 at hit
 by_cases c:(aK z).cps.all (· <128)=aa
 ·rw[if_pos c] at hit
  exact L5 (e1:=h0 (xs (ef p))) (e2:=ap (xs (ef p))) (SU (Draws.strAscii (A:=A.in1) aw.2.2 bk.heap.objs.size (aK z) t) (bk.heap.objs.size+1) ne (by simp) (by simp)) ne (λi h q=> ⟨ak q.1 λold r=> ⟨_,r⟩,ak q.2 λo r=> ⟨o,r.1⟩⟩) Ev aA MG aw bR xB aT.fresh ⟨⟨_,he⟩,hit⟩ h.2.2 (q.ex bi)
 ·rw[if_neg c] at hit
  exact L5 (e1:=h0 (xs (ef p))) (e2:=ap (xs (ef p))) (SU (Draws.strWide (A:=A.in1) aw.2.2 bk.heap.objs.size (aK z) t) (bk.heap.objs.size+1) ne (by simp) (by simp)) ne (λi h q=> ⟨ak q.1 λold r=> ⟨_,r⟩,ak q.2 λo r=> ⟨o,r.1⟩⟩) Ev aA MG aw bR xB aT.fresh ⟨⟨_,he⟩,hit⟩ h.2.2 (q.ex bi)
end
end
noncomputable def y5:mx->Bool
 | .free=>aa
 |_=>ac
noncomputable def qC (cells:List (aZ×aR)):List (aZ×mx)->List (aZ×aR)->List (aZ×aR)
 | [],acc=>acc
 |p::r,acc=>qC cells r (cond (y5 p.2) ((p.1,(cells.lookup p.1).getD 0)::acc) acc)
theorem Zo {k:mx} (h:y5 k=aa):k= .free:=by
 cases k with
 |free=>rfl
 |_=>exact cm h
theorem U7 {cells:List (aZ×aR)} {n:aZ} {names:List (aZ×mx)}: ∀{acc:List (aZ×aR)},(∀n,(n,jv)∈names->(cells.lookup n).isSome=aa)->((n,jv)∈names\/acc.lookup n=cells.lookup n)->(qC cells names acc).lookup n=cells.lookup n:=by
 induction names with
 |nil=>exact λ_ h=>h.elim (λh=>absurd h eI) id
 |cons p r ai=>
  intro acc hf h
  cases p with|mk a k=>
  refine ai (λm hm=>hf m (eZ _ hm)) ?_
  show _\/(cond (y5 k) ((a,(cells.lookup a).getD 0)::acc) acc).lookup n=cells.lookup n
  cases e:y5 k with
  |true=>
   rw[Zo e] at h hf
   show _\/((a,(cells.lookup a).getD 0)::acc).lookup n=cells.lookup n
   rw[mq]
   cases q:n==a with
   |true=>
    rw[beq_iff_eq.mp q]
    exact .inr (ak (w8.mp (hf a et)) λc aD=>by rw[aD];rfl)
   |false=>exact h.elim (λh=> (e6.mp h).elim (λe=>absurd (t4 e).1 (beq_eq_false_iff_ne.mp q)) .inl) .inr
  |false=>exact h.elim (λh=> (e6.mp h).elim (λz=>cm (by rw[<-(t4 z).2] at e;exact e.symm)) .inl) .inr
theorem U8 {env:dm} {names:List (aZ×mx)}: ∀{acc:List (aZ×aR)},(∀n,(n,jv)∈names->(env.cells.lookup n).isSome=aa)->
   (wR names acc λ(x:aZ×mx) (r:List (aZ×aR))=> (if(x.2==jv)=aa then do let c <-BG env x.1;pure (rP ((x.1,c)::r)) else pure (rP r):hK (ForInStep (List (aZ×aR)))))=pure (qC env.cells names acc):=by
 induction names with
 |nil=>exact λ_=>rfl
 |cons x names ai=>
  intro acc h
  cases x with|mk n k=>
  have i:=λacc=>ai (acc:=acc) λm hm=>h m (eZ _ hm)
  rw[List.forIn_cons]
  cases k with
  |free=>
   refine ak (w8.mp (h n et)) λc aD=> ?_
   show((BG env n>>=λc=>pure (rP ((n,c)::acc)))>>=_)=_
   rw[show BG env n=pure c by unfold BG;rw[aD],pure_bind,pure_bind]
   refine(i _).trans ?_
   show _=pure (qC env.cells names ((n,(env.cells.lookup n).getD 0)::acc))
   rw[aD];rfl
  |_=>exact i acc
theorem CO {scope:cC} {env:dm} (hf: ∀n,(n,jv)∈scope.names->(env.cells.lookup n).isSome=aa):IF scope env=pure (qC env.cells scope.names []):=by
 unfold IF
 rw[bind_pure]
 exact U8 hf
section
variable [WP]
abbrev bM.sub (Γ:bM) (C:aR) (oL:bX):bM:={Γ with L:=C,Fr:=Γ.Fr.ins Γ.L oL}
noncomputable abbrev bG.at (T:bG) (loc:List (Nat×Option ae)):bG:=⟨T.aP,T.ax,⟨loc,T.σ.hp,T.σ.lh,T.σ.lu⟩⟩
section
variable {prog:cO} {w:ba} {A:c2} {E:ah->az->Prop} {s:az} {Γ:bM} {T:bG} {env:dm} {sc:cC} {S:cM} {Kf:bZ} {k:Nat}
theorem aX.sub (N:aX Γ T s) {C:aR} (b2:Apart Γ T C) {m:aZ->Option ah} (ar:s.heap.Ns C m) {loc:List (Nat×Option ae)} (hm: ∀n av,gu n loc=ab av-> ∃v,m (nm n)=ab v/\T.A av v):
  ∃oL,s.heap.get? Γ.L=ab oL/\aX (Γ.sub C oL) (T.at loc) s:=
 ak N.lo.ns λEO h=>c5 h.1 λoL es ep h=> ⟨oL,h.1,
  have cR:=N.aY
  ⟨⟨cR.bE,λb o e=>by
   by_cases q:b=Γ.L
   ·rw[q] at e⊢
    exact⟨bQ ((bh.gc _ _ _).symm.trans e)▸h.1,N.lo.free.1⟩
   ·exact cR.fr b o ((bh.gb _ _ q).symm.trans e),cR.cell,λx ao e b ag=> ⟨(cR.ca x ao e b ag).1,(bh.gb _ _ λq=>N.lo.b2 x ao e (by rw[<-q];exact ag)).trans (cR.ca x ao e b ag).2⟩,cR.gn⟩,
   ⟨⟨m,ar,hm⟩,⟨b2.bE,(bh.gb _ _ b2.L).trans b2.fr⟩,b2.cell,N.lo.lu⟩,N.base,N.gens,N.os,N.pin⟩⟩
theorem aX.ah9 (N:aX Γ T s) {C:aR} (Ua:Γ.Fr C=af) (ne:C≠Γ.L) {oL:bX} (d9:s.heap.get? Γ.L=ab oL) {loc:List (Nat×Option ae)} {a5:bG} {s':az} (x:(T.at loc).dS a5) (cR:aX (Γ.sub C oL) a5 s'):
  aX Γ (a5.at T.σ.loc) s'/\T.dS (a5.at T.σ.loc)/\Apart Γ (a5.at T.σ.loc) C/\ ∃m,s'.heap.Ns C m:=by
 have pF:=cR.aY.fr Γ.L oL (bh.gc _ _ _)
 have ex:T.dS (a5.at T.σ.loc):=⟨x.bE,x.dN,x.ax⟩
 have ns: ∃m,s'.heap.Ns Γ.L m/\ ∀n av,gu n T.σ.loc=ab av-> ∃v,m (nm n)=ab v/\bG.A (a5.at T.σ.loc) av v:=ak N.lo.ns λEO h=> ⟨EO,c5 h.1 λo es ep h=> ⟨o,es,ep,bQ (d9.symm.trans h.1)▸pF.1,h.2⟩,λn av e=>ak (h.2 n av e) λv a=> ⟨v,a.1,a.2.ex ex⟩⟩
 exact⟨⟨⟨cR.aY.bE,λb o e=>cR.aY.fr b o (y0 N.lo.free.2 e),cR.aY.cell,λx ao e b ag=> ⟨(cR.aY.ca x ao e b ag).1,(sS (cR.aY.ca x ao e b ag).2).2⟩,cR.aY.gn⟩,
  ⟨ns,⟨pF.2,N.lo.free.2⟩,λx ao e ag=> (sS (cR.aY.ca x ao e _ ag).2).1 rfl,cR.lo.lu⟩,cR.base,cR.gens,cR.os,cR.pin⟩,
  ex,⟨cR.lo.free.1,Ua,ne,cR.lo.b2⟩,ak cR.lo.ns λm h=> ⟨m,h.1⟩⟩
theorem aiB {D:aR} {vs:List ah} {n:Nat} {x:ah} {Q:ah->az->Prop} (dI:s.heap.get? D=ab (lobj vs n)) (cH:vs.length<=d0)
  (h:Q .none {s with heap:=s.heap.update D (Bq λxs=>xs.push x)}):bg (bp prog w) A (iB (.builtin "list.append") [.ref D,x]) Q E s:=
 IE Sv ⟨_,dI,rfl⟩ F.entry_list_append (F.args_list_append_2 _ _) (list_append D vs.toArray n x cH) ⟨dI,h⟩
def TP (Γ:bM) (T:bG) (C:aR) (K:Option ae->St->aB) (Q:ah->az->Prop):Prop:= ∀a5 u y aU s',T.dS a5->aX Γ a5 s'->Apart Γ a5 C->s'.heap.Ns C aU->a5.A u y->(K (ab u) a5.σ).holds->Q y s'
def TO (Γ:bM) (T:bG) (C:aR) (K:Option ae->St->aB) (Q:az->Prop):Prop:= ∀a5 aU s',T.dS a5->aX Γ a5 s'->Apart Γ a5 C->s'.heap.Ns C aU->(K af a5.σ).holds->Q s'
def TurnOk (prog:cO) (w:ba) (k:Nat) (S:cM) (sc:cC) (env:dm) (base:cw) (L:aR) (target elt:Expr) (ifs:List Expr) (ce:aR->dm) (b:ae->St->(Option ae->St->aB)->aB):Prop:=
 ∀{Γ:bM} {A:c2} {E:ah->az->Prop} {s:az} {T:bG} {C:aR} {m:aZ->Option ah} {v:ae} {x:ah} {K:Option ae->St->aB} {xt:ah->az->Prop} {xu:az->Prop},dk sc env Γ S->Γ.base=base->Γ.L=L->fu A k->aX Γ T s->Apart Γ T C->s.heap.Ns C m->T.A v x->(b v T.σ K).holds->
  TP Γ T C K xt->TO Γ T C K xu->bg (bp prog w) A (assign target (ce C) x) (λ_ dh=>
   bg (bp prog w) A (wR ifs aa λc r=>if r=aa then do let ok <-isTrue c (ce C) (dz c (ce C));pure (rP ok) else pure (rP r)) (λok fV=>
    if ok=aa then bg (bp prog w) A (dz elt (ce C)) xt E fV else xu fV) E dh) E s
theorem Vi {R:ny->az->Prop} {elt target iter:Expr} {ifs:List Expr} {scope:cC} {pos:eu} {it acc:ah} (I:Nat->az->Prop)
  (turn: ∀n s,I n s->bg (bp prog w) A (pyNext it) (λr bk=>match r with
   |none=>R (.ok .next) bk
   |some v=>bg (bp prog w) A (IH target it v) (λ_ Qr=>bg (bp prog w) A (assign target env v) (λ_ dh=>
     bg (bp prog w) A (wR ifs aa λc r=>if r=aa then do let ok <-isTrue c env (dz c env);pure (rP ok) else pure (rP r)) (λok fV=>
      if ok=aa then bg (bp prog w) A (dz elt env) (λx iS=>
       bg (bp prog w) A (iB (.builtin "list.append") [acc,x]) (λ_ ru=> ∃m,m<n/\I m ru) (ua (bp prog w) A env λe s'=>R (.error e) s') iS) (ua (bp prog w) A env λe s'=>R (.error e) s') fV
      else∃m,m<n/\I m fV) (ua (bp prog w) A env λe s'=>R (.error e) s') dh) (ua (bp prog w) A env λe s'=>R (.error e) s') Qr) (ua (bp prog w) A env λe s'=>R (.error e) s') bk) (ua (bp prog w) A env λe s'=>R (.error e) s') s)
  (n:Nat) (h:I n s):nA (bp prog w) A (.compLoop (.ListComp elt [⟨target,iter,ifs,0⟩] scope pos) 0 it acc env) R s:=by
 refine codeAny_loop rfl I (λn s yJ=> ?_) n h
 show bg _ A ((compTurn (.ListComp elt [⟨target,iter,ifs,0⟩] scope pos) 0 it acc env).onRaise (λx=>do noteFrame x env;theTreesLotGoes x)) _ _ s
 refine wpAny_noted ?_
 rw[compTurn_list]
 refine bz (gI (bz (h4 (turn n s yJ) (λr bk fG=> ?_) λ_ _ h'=>h')))
 cases r with
 |none=>exact dc fG
 |some v=>
  refine bz (h4 fG (λ_ Qr fG=> ?_) λ_ _ h'=>h')
  refine bz (h4 fG (λ_ dh kG=>bz (h4 kG (λok fV iH=> ?_) λ_ _ h'=>h')) λ_ _ h'=>h')
  cases ok with
  |false=>exact dc ⟨rfl,iH⟩
  |true=>
   exact bz (bz (h4 iH (λx iS Y6=>bz (h4 Y6 (λ_ ru Y7=>dc (dc ⟨rfl,Y7⟩)) λ_ _ h'=>h')) λ_ _ h'=>h'))
structure Rn (Γ:bM) (T:bG) (s:az) (it D C:aR) (J:List ae->bX->bh->Prop) (L:List ae->List ae->St->Prop) (z j:Nat) (l acc:List ae) (a5:bG) (o:bX) (vs:List ah) (n:Nat) (m:aZ->Option ah):Prop where
 len:l.length=j
 le:acc.length+l.length<=z
 x:T.dS a5
 N:aX Γ a5 s
 nH:Apart Γ a5 it
 iC:Apart Γ a5 D
 jY:Apart Γ a5 C
 bW:s.heap.get? it=ab o
 J:J l o a5.aP
 dI:s.heap.get? D=ab (lobj vs n)
 f9:s.heap.Ns C m
 all:bC (λa v=>a5.A a v/\glob a=aa) acc vs
 h:L l acc a5.σ
def Hp (Γ:bM) (T:bG) (D C:aR) (z:Nat) (K:List ae->St->Prop) (R:az->Prop):Prop:= ∀a5 s' vs n as m,T.dS a5->aX Γ a5 s'->Apart Γ a5 D->Apart Γ a5 C->s'.heap.get? D=ab (lobj vs n)->s'.heap.Ns C m->bC (λa v=>a5.A a v/\glob a=aa) as vs->as.length<=z->K as a5.σ->R s'
theorem Vk {target elt iter:Expr} {ifs:List Expr} {scope:cC} {pos:eu} {ce:aR->dm} {b:ae->St->(Option ae->St->aB)->aB} (Ev:dk sc env Γ S)
  (turn:TurnOk prog w k S sc env Γ.base Γ.L target elt ifs ce b) {it D C:aR} {J:List ae->bX->bh->Prop} (I:Iter prog w it J) {l:List ae} {o:bX} {K:List ae->St->Prop} {m:aZ->Option ah} (aw:fu A k) (N:aX Γ T s)
  (nH:Apart Γ T it) (iC:Apart Γ T D) (jY:Apart Γ T C) (kc:it≠D) (gN:it≠C) (pH:D≠C) (bW:s.heap.get? it=ab o) (h7:J l o T.aP) (dI:s.heap.get? D=ab (lobj [] 0)) (f9:s.heap.Ns C m) (cH:l.length<=1000000)
  (cj: ∀(A:c2) (E:ah->az->Prop) (s:az) (Q:Unit->az->Prop) (l:List ae) (o:bX) (F:bh) (v:ah),J l o F->s.heap.get? it=ab o->Q () s->bg (bp prog w) A (IH target (.ref it) v) Q E s) (h:jD b l [] T.σ K) {R:ny->az->Prop}
  (eK:Hp Γ T D C l.length K (R (.ok .next))):nA (bp prog w) A (.compLoop (.ListComp elt [⟨target,iter,ifs,0⟩] scope pos) 0 (.ref it) (.ref D) (ce C)) R s:=by
 refine Vi (λj s=> ∃cA acc a5 o vs n m,Rn Γ T s it D C J (λl acc σ=>jD b l acc σ K) l.length j cA acc a5 o vs n m) (λj bk c8=>aiI c8 λcA acc bS o vs n m c8=> ?_) l.length
  ⟨l,[],T,o,[],0,m,rfl,fi (jt _),.refl T,N,nH,iC,jY,bW,h7,dI,f9,.nil,h⟩
 cases cA with
 |nil=>exact I.stop A _ o bS.aP bk _ aw.2.2 c8.N.aY.bE c8.bW c8.J λh' dR aS=>eK bS _ vs n acc m c8.x (c8.N.step (t:=dR) c8.nH aS) c8.iC c8.jY (aS _ _ (iZ kc) c8.dI) (c8.f9.at' λo e=>aS _ o (iZ gN) e) c8.all c8.le c8.h
 |cons v cA=>
  refine I.next A _ v cA o bS.aP bk _ aw.2.2 c8.N.aY.bE c8.bW c8.J λh' dR x eh aH aS yT u7=> ?_
  have Ye:=aS _ _ (iZ kc) c8.dI
  have B8:=c8.iC.hold (o:=eh) (iZ kc)
  refine cj A _ _ _ cA eh bS.aP x u7 yT ?_
  have B: ∀{a5:bG} {s':az},aX ((Γ.hold it eh).hold D (lobj vs n)) a5 s'->Apart ((Γ.hold it eh).hold D (lobj vs n)) a5 C->aX Γ a5 s'/\Apart Γ a5 it/\Apart Γ a5 D/\Apart Γ a5 C/\s'.heap.get? it=ab eh/\s'.heap.get? D=ab (lobj vs n):=λcR i3=>
   have gR:=cR.loose B8.fr
   have nv:=gR.1.loose c8.nH.fr
   ⟨nv.1,nv.2.1,⟨gR.2.1.bE,c8.iC.fr,gR.2.1.L,gR.2.1.cell⟩,⟨i3.bE,c8.jY.fr,i3.L,i3.cell⟩,nv.2.2,gR.2.2⟩
  have lt:cA.length<j:=c8.len▸nu _
  refine turn ((Ev.hold c8.nH.fr).hold B8.fr) rfl rfl aw (((c8.N.step (t:=dR) c8.nH aS).hold c8.nH yT).hold B8 Ye) ((c8.jY.hold (iZ gN)).hold (iZ pH)) (c8.f9.at' λo e=>aS _ o (iZ gN) e) (aH _ _) c8.h (λkZ u y EZ iS g7 fN k3 CX d3 ci=> ?_) λkZ EZ iS g7 fN k3 CX ci=> ?_
  ·have b:=B fN k3
   have z:=bf (bf (gH _ _) c8.le) cH
   rw[c8.all.length] at z
   refine aiB b.2.2.2.2.2 (pG z).2 ?_
   have up:=SH (h:=iS.heap) (l:=D) (items:=vs.toArray) (n:=n) b.2.2.2.2.2 λxs=>xs.push y
   rw[R0] at up
   have Fi: ∀b o,b≠D->iS.heap.get? b=ab o->(iS.heap.update D (Bq λxs=>xs.push y)).get? b=ab o:=λb o ag e=> (Heap.get?_update_ne _ _ _ _ ag).trans e
   exact⟨cA.length,lt,cA,acc++ [u],kZ,eh,vs++ [y],_,EZ,rfl,by rw[bL,p9,List.length_singleton,kW 1];exact c8.le,c8.x.trans g7,b.1.step (t:=iS.toks) b.2.2.1 Fi,b.2.1,b.2.2.1,b.2.2.2.1,Fi _ _ kc b.2.2.2.2.1,I.up _ _ _ _ g7.bE u7,up,CX.at' λo e=>Fi _ o (iZ pH) e,(c8.all.mono λa v q=> ⟨q.1.ex g7,q.2⟩).snoc ⟨d3,ci.1⟩,ci.2⟩
  ·have b:=B fN k3
   exact⟨cA.length,lt,cA,acc,kZ,eh,vs,n,EZ,rfl,bf (ky _) c8.le,c8.x.trans g7,b.1,b.2.1,b.2.2.1,b.2.2.2.1,b.2.2.2.2.1,I.up _ _ _ _ g7.bE u7,b.2.2.2.2.2,CX,c8.all.mono λa v q=> ⟨q.1.ex g7,q.2⟩,ci⟩
end
end
section
theorem L1 {fr:List Nat} {l:List (Nat×ae)}:x5 fr l=aa-> ∀n v,aL n l=ab v->n∈fr:=by
 induction l with
 |nil=>exact λ_ n v h=>a3 h
 |cons p r ai=>
  intro h n v e
  have h:=b3 h
  have e:(match bA p.1 n with
   |true=>ab p.2
   |false=>aL n r)=ab v:=e
  cases q:bA p.1 n with
  |true=>exact fh q▸OI h.1
  |false=>rw[q] at e;exact ai h.2 n v e
theorem Yo {l:List (Nat×ae)} {fr:List Nat}:uL l fr=aa-> ∀n∈fr,∃v,aL n l=ab v:=by
 induction fr with
 |nil=>exact λ_ n h=>absurd h eI
 |cons a r ai=>
  intro h n ar
  have h:=b3 h
  cases ar with
  |head=>
   have g:=h.1
   cases q:aL a l with
   |some v=>exact⟨v,rfl⟩
   |none=>rw[q] at g;exact cm g
  |tail _ ar=>exact ai h.2 n ar
structure AP (scope:cC) (n:Nat) (fr:List Nat):Prop where
 loc:fH scope (nm n)=aa
 kind:scope.kind= .function
 E7: ∀y∈scope.names,y.2= .local->scope.names.lookup y.1=ab .local
 zB: ∀y∈scope.names,y.2≠ .cell
 lS: ∀s,(s,jv)∈scope.names-> ∃m∈fr,nm m=s
 sA: ∀m∈fr,(nm m,jv)∈scope.names
theorem XJ {fr:List Nat} {names:List (aZ×mx)}:Dn fr names=aa->(∀y∈names,y.2≠ .cell)/\ ∀s,(s,jv)∈names-> ∃m∈fr,nm m=s:=by
 induction names with
 |nil=>exact λ_=> ⟨λy h=>absurd h eI,λs h=>absurd h eI⟩
 |cons p r ai=>
  intro h
  cases p with|mk a b=>
  have h:=b3 h
  have i:=ai h.2
  refine⟨λy cP=> (e6.mp cP).elim (λe q=> ?_) (i.1 y),λs hs=> (e6.mp hs).elim (λe=> ?_) (i.2 s)⟩
  ·rw[e] at q
   have q:b= .cell:=q
   rw[q] at h
   exact cm h.1
  ·have e:=t4 e
   rw[<-e.2] at h
   exact ak (RK.mp h.1) λm q=> ⟨m,q.1,(seq_eq q.2).trans e.1.symm⟩
theorem XI {sc scope:cC} {fr:List Nat}:Dm sc scope fr=aa-> ∀m∈fr,(nm m,jv)∈scope.names:=by
 induction fr with
 |nil=>exact λ_ m h=>absurd h eI
 |cons a r ai=>
  intro h m hm
  have h:=cU h
  cases hm with
  |head=>exact mem_of_lookup (beq_iff_eq.mp h.1)
  |tail _ hm=>exact ai h.2.2 m hm
theorem CS {scope sc:cC} {n:Nat} {fr:List Nat} (h:x6 scope sc n fr=aa):AP scope n fr:=
 have h:=fl h
 have f:=XJ h.2.2.2.1
 ⟨h.1,beq_iff_eq.mp h.2.1,λy cP q=>by
  have z:=fM.mp h.2.2.1 y cP
  rw[q] at z
  exact beq_iff_eq.mp z,f.1,f.2,XI h.2.2.2.2⟩
variable [WP]
section
variable {prog:cO} {w:ba} {A:c2} {E:ah->az->Prop} {s:az} {Γ:bM} {T:bG} {env:dm} {sc:cC} {S:cM} {Kf:bZ} {k:Nat}
structure RD (prog:cO) (w:ba) (Γ:bM) (s:az) (target:Expr) (b:ae->St->(Option ae->St->aB)->aB) (K:List ae->St->Prop) (R:ah->aR->az->Prop) (T:bG) (I:aR) (J:List ae->bX->bh->Prop) (l:List ae) (o:bX):Prop where
 N:aX Γ T s
 a:Apart Γ T I
 bW:s.heap.get? I=ab o
 it:Iter prog w I J
 j6:J l o T.aP
 own: ∀(A:c2) (E:ah->az->Prop) (s:az) (Q:Unit->az->Prop) (l:List ae) (o:bX) (F:bh) (v:ah),J l o F->s.heap.get? I=ab o->Q () s->bg (bp prog w) A (IH target (.ref I) v) Q E s
 self: ∀(A:c2) (E:ah->az->Prop) (s:az) (Q:ah->az->Prop),s.heap.get? I=ab o->Q (.ref I) s->bg (bp prog w) A (pyIter (.ref I)) Q E s
 len:l.length<=1000000
 h:jD b l [] T.σ K
 fin: ∀D C,D≠C->Hp Γ T D C l.length K (R (.ref D) C)
theorem CT {target elt iter:Expr} {ifs:List Expr} {scope:cC} {cl:List (aZ×aR)} {pos pp:eu} {first:hK ah} {use:Option (ah->hK Unit)} {Q:ah->az->Prop} {b:ae->St->(Option ae->St->aB)->aB} {n:Nat} {fr:List Nat} (Ev:dk sc env Γ S) (aw:fu A k)
  (hs: ∀x,S4 iter env x=pure x) (Ys:IF scope env=pure cl) (cB:AP scope n fr)
  (turn:TurnOk prog w k S sc env Γ.base Γ.L target elt ifs (λC=>jw scope cl C env) b)
  (h:bg (bp prog w) A first (λAI bk=>bg (bp prog w) A (pyIter AI) (λit dh=> ∃bS I J l o K,it= .ref I/\RD prog w Γ dh target b K (λD C s'=>compPost (bp prog w) A E use Q D C (.ok .next) s') bS I J l o) E bk) E s):
  bg (bp prog w) A (comprehension (.ListComp elt [⟨target,iter,ifs,0⟩] scope pos) scope env pp (newList []) ac first use) Q E s:=by
 refine wpAny_comprehension_free (cl:=cl) rfl hs Ys cB.kind cB.E7 (h4 h (λAI bk fG=>h4 fG (λit dh kG=>QZ kG λbS I J l o aiU h=> ?_) λ_ _ e=>e) λ_ _ e=>e)
 rw[h.1]
 have h:=h.2
 refine wpAny_newObj_type ?_
 have kO:(dh.heap.push (lobj [] 0)).objs.size=dh.heap.objs.size+1:=SG ..
 have Nu:=oP h.bW
 have kc:I≠dh.heap.objs.size:=mu Nu
 have gN:I≠(dh.heap.push (lobj [] 0)).objs.size:=by rw[kO];exact mu (Se Nu)
 have pH:dh.heap.objs.size≠(dh.heap.push (lobj [] 0)).objs.size:=by rw[kO];exact mu (nu _)
 refine wpAny_newFunctionEnv cB.zB (λy cP=>absurd cP eI) (λfG YM YX=> ?_) cB.kind
 have keep: ∀b o,b≠(dh.heap.push (lobj [] 0)).objs.size->(dh.heap.push (lobj [] 0)).get? b=ab o->fG.get? b=ab o:=λb o ag e=> (YX.2 b ag).trans (t5 _ e)
 have aT:=h.N.push (lobj [] 0)
 have Mb:fG.get? I=ab o:=keep _ _ gN (t5 _ h.bW)
 have loop:nA (bp prog w) A (.compLoop (.ListComp elt [⟨target,iter,ifs,0⟩] scope pos) 0 (.ref I) (.ref dh.heap.objs.size) (jw scope cl (dh.heap.push (lobj [] 0)).objs.size env))
   (compPost (bp prog w) A E use Q (.ref dh.heap.objs.size) (dh.heap.push (lobj [] 0)).objs.size) {dh with heap:=fG,toks:=dh.toks+([]:List (aZ×ah)).length}:=
  Vk (ce:=λC=>jw scope cl C env) Ev turn h.it aw (aT.step (t:=dh.toks+([]:List (aZ×ah)).length) aT.fresh keep) h.a h.N.fresh aT.fresh kc gN pH Mb h.j6 (keep _ _ pH (ju _ rfl)) YM h.len h.own h.h (h.fin _ _ pH)
 exact codeAny_compStart_list loop (h.self _ _ _ _ Mb loop)
theorem Vj {scope:cC} {C:aR} {oL:bX} (Ev:dk sc env Γ S) (aS:scope.kind= .function) (hf: ∀n,(n,jv)∈scope.names->(env.cells.lookup n).isSome=aa)
  (sA: ∀n v,aL n S.clo=ab v->(nm n,jv)∈scope.names) (d9:Γ.Fr Γ.L=af):dk (l8 scope sc) (jw scope (qC env.cells scope.names []) C env) (Γ.sub C oL) S where
 scope:=by
  show relabel scope env=l8 scope sc
  unfold relabel l8 Ic
  rw[Ev.scope]
 kind:=aS
 loc:=rfl
 i8:=Ev.i8
 blt:=Ev.blt
 clo:=λn v e=>c5 (Ev.clo n v e) λc o x h=> ⟨c,o,x,(U7 hf (.inl (sA n v e))).trans h.1,y0 d9 h.2.1,h.2.2⟩
theorem Ly {scope:cC} {cl:List (aZ×aR)} {C:aR} (aS:scope.kind= .function):(((jw scope cl C env).scope.kind== .class) || ((jw scope cl C env).scope.kind== .module&&(jw scope cl C env).locals !=(jw scope cl C env).globals))=ac:=by
 show((scope.kind== .class) || (scope.kind== .module&&_))=ac
 rw[aS];rfl
theorem Qx {n:Nat} {fr:List Nat} {e:X} {elt:Expr} {l6:eu} {scope:cC} {base:cw} {L:aR} (cB:AP scope n fr) (hf: ∀n,(n,jv)∈scope.names->(env.cells.lookup n).isSome=aa)
  (sA: ∀n v,aL n S.clo=ab v->(nm n,jv)∈scope.names) (he:(au (l8 scope sc) e).x elt=aa)
  (n2: ∀(dY:bM) (j4:dm),dk (l8 scope sc) j4 dY S->dY.base=base->bc prog w dY k S (l8 scope sc) j4 e):
  TurnOk prog w k S sc env base L (.Name (nm n) l6) ((au (l8 scope sc) e).e elt) [] (λC=>jw scope (qC env.cells scope.names []) C env) (pZ n (ev S e).x):=by
 intro Γ A E s T C m v x K xt xu Ev b0 Wm aw N b2 ar aH h Fv pP
 refine qe (BU (m:=m) (S7 (env:=env) (beq_iff_eq.mp cB.loc)) ar (λh' yS hs=>dc ?_) (Ly cB.kind))
 rw[if_pos rfl]
 have aT:aX Γ T {s with heap:=h',toks:=s.toks+1}:=N.step (t:=s.toks+1) b2 λb o ag e=> (hs.2 b ag).trans e
 have hm: ∀fA av,gu fA [(n,ab v)]=ab av-> ∃u,(if nm fA=nm n then ab x else m (nm fA))=ab u/\T.A av u:=λfA av e=>by
  have e:cond (bA n fA) (ab v) (gu fA [])=ab av:=Er.symm.trans e
  cases q:bA n fA with
  |true=>rw[q] at e;exact⟨x,if_pos (by rw[fh q]),bQ e▸aH⟩
  |false=>rw[q] at e;exact a3 e
 refine ak (aT.sub b2 yS (loc:= [(n,ab v)]) hm) λoL bR=> ?_
 refine(n2 _ _ (Vj (C:=C) (oL:=oL) Ev cB.kind hf sA N.lo.free.2) b0).cX _ he aw (T:=T.at [(n,ab v)]) bR.2 h λi2 y u fV eX dU mH ci=> ?_
 have U:=aT.ah9 b2.fr b2.L bR.1 eX dU
 exact ak U.2.2.2 λq5 mK=>Fv _ u _ q5 _ U.2.1 U.1 U.2.2.1 mK mH ci
theorem L9 {fr:List Nat} {scope:cC} (Ev:dk sc env Γ S) (cy:uL S.clo fr=aa) (h: ∀s,(s,jv)∈scope.names-> ∃m∈fr,nm m=s): ∀n,(n,jv)∈scope.names->(env.cells.lookup n).isSome=aa:=λn ar=>
 ak (h n ar) λm hm=>ak (Yo cy m hm.1) λv aW=>c5 (Ev.clo m v aW) λc o x e=>by rw[<-hm.2,e.1];rfl
end
end
section
theorem acO (m:Nat): ∀a:Int,(ob a m).length=m:=by
 induction m with
 |zero=>exact λ_=>rfl
 |succ m ai=>exact λa=>congrArg tY (ai (a+1))
theorem acd {i:Int} (h:i<=1000000):i.toNat<=1000000:=by omega
variable [WP]
section
variable {prog:cO} {w:ba} {A:c2} {E:ah->az->Prop} {s:az} {Γ:bM} {T:bG} {env:dm} {sc:cC} {S:cM} {Kf:bZ} {k:Nat}
variable (ay:WP.P=w.params) (Ev:dk sc env Γ S) (bb:Top Kf Γ.base S)
include ay Ev
theorem agB {x n:Nat} {fr:List Nat} {e i:X} (fT:bc prog w Γ k S sc env i) (n2: ∀(dY:bM) (j4:dm) (ro:cC),dk ro j4 dY S->dY.base=Γ.base->bc prog w dY k S ro j4 e):bc prog w Γ k S sc env (.hC x n fr e i):=by
 refine .val ay rfl (λp hp A E s T K Q aw N h q=> ?_) (λ_ _=>rfl) rfl rfl
 have c:=CS (d1 hp).1
 have g:=gr h
 have hf:=L9 Ev (b3 g.1).2 c.lS
 show bg _ _ (dz (.ListComp _ [⟨.Name (nm n) _,(au sc i).e (fK p).iter,[],0⟩] _ _) env) _ _ _
 rw[eval_ListComp]
 refine CT (use:=af) Ev aw (λ_=>E9 (d1 hp).2.1) (CO hf) c (Qx c hf (λm v e=>c.sA m (L1 (b3 g.1).1 m v e)) (d1 hp).2.2.1 λdY j4 js b0=>n2 dY j4 _ js b0)
  (fT.cX _ (d1 hp).2.2.2 aw N g.2 λbS v av bk bi aT bl h=>ak (dp h) λl h=> ?_)
 rw[xG h.1] at bl
 refine c5 (bq.i bl) λa vs m f=> ?_
 rw[f.1]
 refine BS ⟨_,aT.aY.bE _ _ f.2.1,rfl,m,rfl⟩ ⟨bS,_,_,l.map .f,_,_,rfl,aT.push _,aT.fresh,ju _ rfl,y9 _ a m vs l,⟨0,rfl,rfl,rfl,f.2.1,f.2.2.to⟩,λrH nq s' oW cA eh g9 lr _ _ q=>dc q,λrH nq s' oW g q=>Ti (l:=a) (i:=0) ⟨_,g,rfl,rfl⟩ q,by rw[eg];exact pV h.2.1,h.2.2,
  λD C vH a5 s' ws aU as q5 be cR iC jY u5 mK al le ci=>ak ci λy ci=> ⟨q5,mK,λh' hs=> ?_⟩⟩
 exact(cR.step (t:=s'.toks) jY λb o ag e=> (hs.2 b ag).trans e).adopt (zx ci.1) (a:=D) (ao:= .list as) iC (λ_=>rfl) (λax U dN oi eA=> ⟨ws,aU,by rw[eA];exact(hs.2 D vH).trans u5,al.mono λa v q=> ⟨q.1.mono (dT.refl _) dN oi,q.2⟩⟩)
  λfk e bR cD dF _=>q _ _ (.aq y) _ ((bi.trans be).trans cD) bR dF (by rw[e];exact ci.2)
include bb
theorem agC {n:Nat} {fr:List Nat} {e i:X} (fT:bc prog w Γ k S sc env i) (n2: ∀(dY:bM) (j4:dm) (ro:cC),dk ro j4 dY S->dY.base=Γ.base->bc prog w dY k S ro j4 e):bc prog w Γ k S sc env (.vw n fr e i):=by
 refine .val ay rfl (λp hp A E s T K Q aw N h q=> ?_) (λ_ _=>rfl) rfl rfl
 have c:=CS (fl hp).1
 have g:=gr h
 have hf:=L9 Ev (b3 g.1).2 c.lS
 show bg _ _ (dz (.ListComp _ [⟨.Name (nm n) _,jZ "range" [_] _,[],0⟩] _ _) env) _ _ _
 rw[eval_ListComp]
 refine CT (use:=af) Ev aw (λ_=>rfl) (CO hf) c (Qx c hf (λm v e=>c.sA m (L1 (b3 g.1).1 m v e)) (fl hp).2.2.2.1 λdY j4 js b0=>n2 dY j4 _ js b0)
  (qw ay Ev bb (f:= .type "range") (.tail _ (.tail _ (.tail _ (.tail _ (.tail _ (.tail _ (.tail _ (.head _)))))))) rfl (i4 (i4 (fl hp).2.1 (fl hp).2.2.1) (fl hp).2.2.2.2) fT aw N g.2 λbS v av bk bi aT bl h=>ak (dp h) λi h=> ?_)
 rw[o4 h.1] at bl
 refine ak (gK bl) λt e=> ?_
 rw[e]
 refine call_range_1 (Tj (SI ..) (small_one (by decide) (by decide) (by have:=h.2.1;omega) (by have:=h.2.1;omega)) ?_)
 rw[PA]
 have bR:=(aT.push {cls:= .type "range",data:= .fields #[.int 0 bk.toks,.int i t,.int 1 (bk.toks+1)]}).toks (bk.toks+1+1)
 refine⟨bS,_,_,ob 0 i.toNat,_,_,rfl,bR.push _,bR.fresh,ju _ rfl,M4 _,⟨0,i.toNat,λh e=>e,rfl⟩,λrH nq s' oW cA eh g9 lr _ _ q=>dc q,λrH nq s' oW g q=>wpAny_pyIter_rangeiter (x:=0) (left:=(i.toNat:Int)) (step:=1) g q,by rw[acO];exact acd h.2.1.2,h.2.2,
  λD C vH a5 s' ws aU as q5 be cR iC jY u5 mK al le ci=>ak ci λfs ci=> ⟨q5,mK,λh' hs=> ?_⟩⟩
 have fN:=(cR.step (t:=s'.toks) jY λb o ag e=> (hs.2 b ag).trans e).fast (a:=D) ((hs.2 D vH).trans u5) iC.bE iC.fr iC.L iC.cell
 exact(q.ex ((bi.trans be).trans fN.2)).fr fN.1 (.lst (bh.gc _ _ _) (nf (R:=bq _) al (λv x h=>bq.mono fN.2.bE h.1) ci.1).lS) ci.2
end
end
section
noncomputable def M1:aj->Bool
 | .tup [.str _,_]=>aa
 |_=>ac
theorem M2 {G:Prop} {v:aj} (h:M1 v=aa) (k: ∀a b,v= .tup [.str a,b]->G):G:=by
 cases v with
 |tup t=>cases t with
  |nil=>exact cm h
  |cons a t=>cases a with
   |str a=>cases t with
    |nil=>exact cm h
    |cons b t=>cases t with
     |nil=>exact k a b rfl
     |cons _ _=>exact cm h
   |_=>exact cm h
 |_=>exact cm h
theorem aaL {v:aj} {l r:List aj} (h:lZ (v::l)=ab r):M1 v=aa:=by
 cases v with
 |tup t=>cases t with
  |nil=>exact a3 h
  |cons a t=>cases a with
   |str a=>cases t with
    |nil=>exact a3 h
    |cons b t=>cases t with
     |nil=>rfl
     |cons _ _=>exact a3 h
   |_=>exact a3 h
 |_=>exact a3 h
theorem aaJ {G:Prop} {v:aj} {l r:List aj} (h:lZ (v::l)=ab r) (k: ∀a b cA,v= .tup [.str a,b]->lZ l=ab cA->r=(match a with
  | []=>cA
  |_::_=> .str a::cA)->G):G:=M2 (aaL h) λa b e=>by
 rw[e] at h
 have h:(match lZ l with
  |some l=>match(generalizing:=false) a with
   | []=>ab l
   |_::_=>ab (.str a::l)
  |none=>af)=ab r:=h
 revert h
 cases cN:lZ l with
 |none=>exact λh=>a3 h
 |some cA=>cases a with
  |nil=>exact λh=>k _ b cA e cN (bQ h).symm
  |cons c z=>exact λh=>k _ b cA e cN (bQ h).symm
theorem ah8 (r:List aj):eN (r.map .f)=ab r:=by
 induction r with
 |nil=>rfl
 |cons a r ai=>
  show(match eN (r.map .f) with
   |some l=>ab (a::l)
   |none=>af)=_
  rw[ai]
theorem ahw {G:Prop} {v:ae} {σ:St} {K:Option ae->St->aB} (h:(wc v σ K).holds) (k: ∀a b,v= .f (.tup [.str a,b])->G):G:=by
 cases v with
 |f v=>exact M2 (v:=v) (by
   cases v with
   |tup t=>cases t with
    |nil=>exact h.elim
    |cons a t=>cases a with
     |str a=>cases t with
      |nil=>exact h.elim
      |cons b t=>cases t with
       |nil=>rfl
       |cons _ _=>exact h.elim
     |_=>exact h.elim
   |_=>exact h.elim) λa b e=>k a b (congrArg ae.f e)
 |_=>exact h.elim
theorem aaK {σ:St} {K:List ae->St->Prop} {l:List aj}: ∀{r:List aj} {acc:List ae},lZ l=ab r->K (acc++r.map .f) σ->jD wc (l.map .f) acc σ K:=by
 induction l with
 |nil=>
  intro r acc e h
  rw[<-bQ e,List.map_nil,dj] at h
  exact h
 |cons v l ai=>
  intro r acc e h
  refine aaJ e λa b cA ev cN gJ=> ?_
  rw[ev]
  rw[gJ] at h
  cases a with
  |nil=>exact ai cN h
  |cons c z=>exact⟨rfl,show jD wc (l.map .f) (acc++ [.f (.str (c::z))]) σ K from ai cN (by rw[bt];exact h)⟩
variable [WP]
section
variable {prog:cO} {w:ba} {A:c2} {E:ah->az->Prop} {s:az} {Γ:bM} {T:bG} {env:dm} {sc:cC} {S:cM} {Kf:bZ} {k:Nat}
theorem ahx {n m:Nat} {e9 iP rd Fk Fl:eu} {h8:Nat} {scope:cC} {base:cw} {L:aR} {cl:List (aZ×aR)} (ay:WP.P=w.params) (aS:scope.kind= .function) (aA:fH scope (nm n)=aa) (DI:fH scope (nm m)=aa) (hd:ta (nm n)=aa) (ne:n≠m):
  TurnOk prog w k S sc env base L (.Tuple [.Name (nm n) e9,.Name (nm m) iP] h8 rd) (.Name (nm n) Fk) [.Name (nm n) Fl] (λC=>jw scope cl C env) wc:=by
 intro Γ A E s T C m₀ v x K xt xu Ev b0 Wm aw N b2 ar aH h Fv pP
 have fz: ∀{j:Nat},fH scope (nm j)=aa->(jw scope cl C env).kindOf (nm j)=ab .local:=λaA=>S7 (env:=env) (beq_iff_eq.mp aA)
 have cls:=Ly (env:=env) (cl:=cl) (C:=C) aS
 refine ahw h λa b e=> ?_
 rw[e] at h aH
 refine bT (bq.i aH) λd4 vs f=> ?_
 have cj:=N.aY.bE _ _ f.2.1
 refine bT f.2.2.cases λQV Q5 g=>bT g.2.2.cases λG6 mj g'=> ?_
 rw[g.1,g'.1,g'.2.2.q8] at cj
 rw[f.1]
 show bg _ _ (do xn rd;unpack (.ref d4) (oU [.Name (nm n) e9,.Name (nm m) iP] (jw scope cl C env))) _ _ _
 refine bz (gI (IS aw.2.2 ⟨_,cj,rfl,_,rfl⟩ rfl rfl λfG hs=> ?_))
 have old: ∀b o,s.heap.get? b=ab o->fG.get? b=ab o:=λb o q=>hs b o (mu (oP q)) q
 have aT:aX Γ T {s with heap:=fG}:=N.grow old rfl rfl
 show bg _ _ (do holding [G6] (assign (.Name (nm n) e9) (jw scope cl C env) QV);assignInOrder ((oU [.Name (nm m) iP] (jw scope cl C env)).map (·.2)) [G6]) _ _ _
 refine bz (gk (qe (BU (m:=m₀) (fz aA) (ar.keeps old) (λkG YN YZ=> ?_) cls)))
 have bR:aX Γ T {s with heap:=kG,toks:=s.toks+1}:=aT.step (t:=s.toks+1) b2 λb o ag e=> (YZ.2 b ag).trans e
 show bg _ _ (do holding [] (assign (.Name (nm m) iP) (jw scope cl C env) G6);pure ()) _ _ _
 refine bz (gk (qe (BU (fz DI) YN (λiH DM Y0=>dc (wpAny_tests_one ?_)) cls)))
 have dU:aX Γ T {s with heap:=iH,toks:=s.toks+1+1}:=bR.step (t:=s.toks+1+1) b2 λb o ag e=> (Y0.2 b ag).trans e
 have Fw: ∀{s':az} {Q:ah->az->Prop} {nq:ah->az->Prop} {l6:eu},s'.heap=iH->Q QV s'->bg (bp prog w) A (dz (.Name (nm n) l6) (jw scope cl C env)) Q nq s':=λ{s' Q nq l6} e q=>
  ub (BQ aS (fz aA) (by rw[e];exact DM) ((if_neg λq=>ne (n9 _ _ q)).trans (if_pos rfl)) q) (jh hd)
 rw[M3 rfl]
 refine bz (Fw rfl (bz (gI (gk ?_))))
 have hw:=g.2.1
 refine ak (fR hw) λt1 e1=> ?_
 rw[e1.1] at hw Fw⊢
 have len:(aK a).length=a.length:=hr ..
 have kO:=e1.2
 rw[gj] at kO
 refine SK (by rw[len];omega) ?_
 have fN:aX Γ T {s with heap:=iH,toks:=s.toks+1+1+1+1}:=dU.toks _
 rw[len]
 cases a with
 |nil=>
  show(if((0:Int) !=0)=aa then _ else _)
  rw[if_neg (by decide)]
  exact pP _ _ _ (.refl T) fN b2 DM h
 |cons c r=>
  rw[if_pos (show((((c::r).length:Nat):Int) !=0)=aa from bne_iff_ne.mpr (RB (RA.mpr (w7 _))))]
  exact Fw rfl (Fv T (.f (.str (c::r))) _ _ _ (.refl T) fN b2 DM hw h)
variable (ay:WP.P=w.params) (Ev:dk sc env Γ S) (bb:Top Kf Γ.base S)
include ay Ev
theorem aeI {t n m:Nat} {i:X} (fT:bc prog w Γ k S sc env i):ew prog w Γ k S sc env (.uy t n m i):=by
 refine .of (λp hp A E s T K Q aw N h q=> ?_) rfl
 have hp:=k2 hp
 have aC:=b3 hp.1
 have sG:=b3 hp.2.2.2.2.1
 have Mj:=b3 hp.2.2.2.2.2
 have c:=CS hp.2.2.1
 have ne:n≠m:=λq=>by
  have z:=sG.2
  rw[q,Bf] at z
  exact cm z
 have YY:xo (.ListComp (jg n (ck (b4 p))) [⟨.Tuple [jg n (h0 (xs (fK (b4 p)).target)),jg m (ap (xs (fK (b4 p)).target))] (jq (fK (b4 p)).target) (fK (b4 p)).target.pos,((au sc i).e (fK (b4 p)).iter),[jg n (h0 (fK (b4 p)).ifs)],0⟩] (jp sc (b4 p)) (b4 p).pos) (ab (.Name (nm t) (ef p).pos)) p.pos.line env=pure aa:=by
  show(pure (env.blockKind== .function&&env.kindOf (nm t)==ab .local&&(ef p).pos.line==(b4 p).pos.line&& !((jp sc (b4 p)).names.any λx=>x.1==nm t&&(x.2== .local||x.2== .cell))):hK Bool)=pure aa
  rw[Ev.is aC.1,hp.2.1,aC.2,show env.blockKind= .function by unfold Env.blockKind;rw[Ev.fn];rfl]
  rfl
 have hf: ∀s,(s,jv)∈(jp sc (b4 p)).names->(env.cells.lookup s).isSome=aa:=λs hs=>ak (c.lS s hs) λm hm=>absurd hm.1 eI
 show bg _ _ (qh (.Assign [.Name (nm t) (ef p).pos] (.ListComp (jg n (ck (b4 p))) [⟨.Tuple [jg n (h0 (xs (fK (b4 p)).target)),jg m (ap (xs (fK (b4 p)).target))] (jq (fK (b4 p)).target) (fK (b4 p)).target.pos,(au sc i).e (fK (b4 p)).iter,[jg n (h0 (fK (b4 p)).ifs)],0⟩] (jp sc (b4 p)) (b4 p).pos) p.pos) env) _ _ _
 rw[exec_Assign_Name_used _ _ _ _ YY]
 refine bz (gI (bz (bz (h4 (CT (b:=wc) (use:=ab (assign (.Name (nm t) (ef p).pos) env)) (Q:=λ_ s'=>Q .next s') Ev aw (λ_=>E9 Mj.1) (CO hf) c (ahx ay c.kind c.loc hp.2.2.2.1 sG.1 ne)
  (fT.cX _ Mj.2 aw N h λbS v av bk bi aT bl h=>ak (dp h) λl h=>ak h.2 λr h'=> ?_)) (λ_ s' dC=>dc (dc dC)) λ_ _ e=>e))))
 rw[xG h.1] at bl
 refine c5 (bq.i bl) λa vs aU f=> ?_
 rw[f.1]
 refine BS ⟨_,aT.aY.bE _ _ f.2.1,rfl,aU,rfl⟩ ⟨bS,_,_,l.map .f,_,λas σ=>as=r.map .f/\(stK σ t (.f (.lst r)) (K .aQ)).holds,rfl,aT.push _,aT.fresh,ju _ rfl,y9 _ a aU vs l,⟨0,rfl,rfl,rfl,f.2.1,f.2.2.to⟩,λrH nq s' oW cA eh g9 lr j6 g q=>ak j6 λj j6=> ?_,λrH nq s' oW g q=>Ti (l:=a) (i:=0) ⟨_,g,rfl,rfl⟩ q,by rw[eg];exact pV h'.2.1,aaK h'.1 ⟨rfl,h'.2.2⟩,
  λD C vH a5 s' ws fA as q5 be cR iC jY u5 mK al le ci=>c5 mK λPe es ep mK=> ?_⟩
 ·cases lr with
  |ref y=>exact wpAny_letOwnedTupleGo_listiter ⟨_,g,j6.1,j6.2.1⟩ q
  |_=>exact dc q
 ·rw[ci.1] at al
  have bR:=cR.fast (a:=D) u5 iC.bE iC.fr iC.L iC.cell
  have B7:Apart Γ ⟨a5.aP.ins D (lobj ws fA),a5.ax,a5.σ⟩ C:=⟨(bh.gb _ _ (iZ vH)).trans jY.bE,jY.fr,jY.L,jY.cell⟩
  exact qe (pX (K:=K .aQ) (Γ:=Γ.hold C Pe) (Ev.hold B7.fr) aC.1 (bR.1.hold B7 mK.1) (v:= .f (.lst r)) (bq.lst (bh.gc _ _ _) (nf (R:=bq _) al (λv x h=>bq.mono bR.2.bE h.1) (ah8 r)).lS) ci.2 λkZ iS g7 fN h=>
   have gR:=fN.loose B7.fr
   ⟨q5,⟨Pe,es,ep,gR.2.2,mK.2⟩,λh' hs=>q.aQ _ _ (((bi.trans be).trans bR.2).trans g7) (gR.1.step (t:=iS.toks) gR.2.1 λb o ag e=> (hs.2 b ag).trans e) h⟩)
end
end
section
variable [WP]
section
variable {prog:cO} {w:ba} {S:cM} {Kf:bZ} {k:Nat} {base:cw}
theorem agK {x:X} {Γ:bM} {env:dm} {sc:cC} (h:au sc x= .no):bc prog w Γ k S sc env x:=
 .of (λp hp=>cm (by rw[h] at hp;exact hp)) (λp hp=>cm (by rw[h] at hp;exact hp)) (by rw[h];rfl) (by rw[h];rfl)
variable (ay:WP.P=w.params) (bb:Top Kf base S) (F:iz prog w Kf S base k)
include ay bb F
theorem FK (x:X): ∀(Γ:bM) (env:dm) (sc:cC),Γ.base=base->dk sc env Γ S->bc prog w Γ k S sc env x:=by
 induction x with
 |cu=>intro Γ env sc e Ev;exact agz ay
 |bF b=>intro Γ env sc e Ev;exact agw ay b
 |a6 i=>intro Γ env sc e Ev;exact agy ay i
 |ks s=>intro Γ env sc e Ev;exact agA ay s
 |lo n=>intro Γ env sc e Ev;exact agE ay Ev n
 |gl n=>intro Γ env sc e Ev;cases e;exact agp ay Ev bb n
 |«at» o n dM=>intro Γ env sc e Ev;cases e;exact aga ay bb (dM _ _ _ rfl Ev)
 |co o i dM fT=>intro Γ env sc e Ev;exact agu ay (dM _ _ _ e Ev) (fT _ _ _ e Ev)
 |aK o a b dM br cV=>intro Γ env sc e Ev;exact agP ay (dM _ _ _ e Ev) (br _ _ _ e Ev) (cV _ _ _ e Ev)
 |no=>intro Γ env sc e Ev;exact agJ ay
 |bin op a b br cV=>intro Γ env sc e Ev;exact agb ay (br _ _ _ e Ev) (cV _ _ _ e Ev)
 |cmp op a b br cV=>intro Γ env sc e Ev;exact agg ay (br _ _ _ e Ev) (cV _ _ _ e Ev)
 |fy hT iO a b c br cV iI=>intro Γ env sc e Ev;exact agh ay (br _ _ _ e Ev) (cV _ _ _ e Ev) (iI _ _ _ e Ev)
 |and l gY=>intro Γ env sc e Ev;exact snd_and ay (gY _ _ _ e Ev)
 |or l gY=>intro Γ env sc e Ev;exact agM ay (gY _ _ _ e Ev)
 |not a br=>intro Γ env sc e Ev;exact agL ay (br _ _ _ e Ev)
 |neg a br=>intro Γ env sc e Ev;exact agI ay (br _ _ _ e Ev)
 |j8 c a b iI br cV=>intro Γ env sc e Ev;exact agq ay (iI _ _ _ e Ev) (br _ _ _ e Ev) (cV _ _ _ e Ev)
 |tup l gY=>intro Γ env sc e Ev;exact agT ay (gY _ _ _ e Ev)
 |lst l gY=>intro Γ env sc e Ev;exact agF ay (gY _ _ _ e Ev)
 |cell x l gY=>intro Γ env sc e Ev;cases e;exact age ay bb (gY _ _ _ rfl Ev)
 |o8 x=>intro Γ env sc e Ev;cases e;exact agd ay bb
 |call f args kws sO br iK=>intro Γ env sc e Ev;cases e;exact agc ay bb F (sO _ _ _ rfl Ev) (br _ _ _ rfl Ev) (iK _ _ _ rfl Ev)
 |aG o n args kws dM br iK=>intro Γ env sc e Ev;cases e;exact agG ay bb F (dM _ _ _ rfl Ev) (br _ _ _ rfl Ev) (iK _ _ _ rfl Ev)
 |mc c f args br=>intro Γ env sc e Ev;exact agK rfl
 |len a br=>intro Γ env sc e Ev;cases e;exact agD ay Ev bb (br _ _ _ rfl Ev)
 |gz a c br iI=>intro Γ env sc e Ev;cases e;exact ags ay Ev bb (br _ _ _ rfl Ev) (iI _ _ _ rfl Ev)
 |vo a br=>intro Γ env sc e Ev;cases e;exact agt ay Ev bb (br _ _ _ rfl Ev)
 |rq a br=>intro Γ env sc e Ev;cases e;exact agR ay Ev bb (br _ _ _ rfl Ev)
 |sT a br=>intro Γ env sc e Ev;cases e;exact agr ay Ev bb (br _ _ _ rfl Ev)
 |tp a br=>intro Γ env sc e Ev;cases e;exact agQ ay Ev bb (br _ _ _ rfl Ev)
 |mZ a b br cV=>intro Γ env sc e Ev;cases e;exact agH ay Ev bb (br _ _ _ rfl Ev) (cV _ _ _ rfl Ev)
 |clo n=>intro Γ env sc e Ev;exact agf ay Ev n
 |fmt j a br=>intro Γ env sc e Ev;exact agn ay (br _ _ _ e Ev)
 |u2 n m=>intro Γ env sc e Ev;exact agm ay Ev
 |cG o a dM br=>intro Γ env sc e Ev;exact af9 ay (dM _ _ _ e Ev) (br _ _ _ e Ev)
 |ext o a dM br=>intro Γ env sc e Ev;exact agl ay (dM _ _ _ e Ev) (br _ _ _ e Ev)
 |ri o dM=>intro Γ env sc e Ev;exact agN ay (dM _ _ _ e Ev)
 |rj o dM=>intro Γ env sc e Ev;exact agO ay (dM _ _ _ e Ev)
 |join s l is gY=>intro Γ env sc e Ev;exact agv ay (is _ _ _ e Ev) (gY _ _ _ e Ev)
 |tr a b br cV=>intro Γ env sc e Ev;exact agS ay (br _ _ _ e Ev) (cV _ _ _ e Ev)
 |uN o dM=>intro Γ env sc e Ev;cases e;exact agi ay bb (dM _ _ _ rfl Ev)
 |uO x o dM=>intro Γ env sc e Ev;cases e;exact agj ay bb (dM _ _ _ rfl Ev)
 |ph a br=>intro Γ env sc e Ev;exact ago ay (br _ _ _ e Ev)
 |uX a b br cV=>intro Γ env sc e Ev;exact agk ay (br _ _ _ e Ev) (cV _ _ _ e Ev)
 |hC x n fr e i n2 fT=>intro Γ env sc b0 Ev;exact agB ay Ev (fT _ _ _ b0 Ev) λdY j4 ro js Df=>n2 _ _ _ (Df.trans b0) js
 |vw n fr e i n2 fT=>intro Γ env sc b0 Ev;subst b0;exact agC ay Ev bb (fT _ _ _ rfl Ev) λdY j4 ro js Df=>n2 _ _ _ Df js
 |nil=>intro Γ env sc e Ev;exact Aa ay
 |cons a r br hA=>intro Γ env sc e Ev;exact z9 ay (br _ _ _ e Ev) (hA _ _ _ e Ev)
 |e0 n a r br hA=>intro Γ env sc e Ev;exact agx ay (br _ _ _ e Ev) (hA _ _ _ e Ev)
theorem FJ (b:Q7.S): ∀(Γ:bM) (env:dm) (sc:cC),Γ.base=base->dk sc env Γ S->ew prog w Γ k S sc env b:=by
 have X:=λx=>FK (prog:=prog) (w:=w) (S:=S) (Kf:=Kf) (k:=k) (base:=base) ay bb F x
 induction b with
 |exp x=>intro Γ env sc e Ev;exact aeQ Ev (X x _ _ _ e Ev)
 |aN n x=>intro Γ env sc e Ev;exact aeH Ev (X x _ _ _ e Ev)
 |jB ns x=>intro Γ env sc e Ev;exact aeG Ev (X x _ _ _ e Ev)
 |a9 o n x=>intro Γ env sc e Ev;cases e;exact aeE Ev bb (X o _ _ _ rfl Ev) (X x _ _ _ rfl Ev)
 |qs o i x=>intro Γ env sc e Ev;exact aeF ay (X o _ _ _ e Ev) (X i _ _ _ e Ev) (X x _ _ _ e Ev)
 |ast ns x=>intro Γ env sc e Ev;exact aeK Ev (X x _ _ _ e Ev)
 |si n x=>intro Γ env sc e Ev;exact aeM Ev (X x _ _ _ e Ev)
 |gT n op x=>intro Γ env sc e Ev;exact aeN Ev (X x _ _ _ e Ev)
 |kA o n op x=>intro Γ env sc e Ev;cases e;exact aeL Ev bb (X o _ _ _ rfl Ev) (X x _ _ _ rfl Ev)
 |ite c b o cV dM=>intro Γ env sc e Ev;exact aeV (X c _ _ _ e Ev) (cV _ _ _ e Ev) (dM _ _ _ e Ev)
 |eT c b cV=>intro Γ env sc e Ev;exact ae2 (X c _ _ _ e Ev) (cV _ _ _ e Ev)
 |fr n x b cV=>intro Γ env sc e Ev;exact aeR ay Ev (X x _ _ _ e Ev) λdY js b0=>cV _ _ _ (b0.trans e) js
 |qM n x b cV=>intro Γ env sc e Ev;cases e;exact aeU ay Ev bb (X x _ _ _ rfl Ev) λdY js b0=>cV _ _ _ b0 js
 |sD n m x b cV=>intro Γ env sc e Ev;cases e;exact aeS ay Ev bb (X x _ _ _ rfl Ev) λdY js b0=>cV _ _ _ b0 js
 |u4 n x b cV=>intro Γ env sc e Ev;cases e;exact aeT ay Ev bb (X x _ _ _ rfl Ev) λdY js b0=>cV _ _ _ b0 js
 |ret x=>intro Γ env sc e Ev;exact aeY (X x _ _ _ e Ev)
 |rl=>intro Γ env sc e Ev;exact aeZ
 |te=>intro Γ env sc e Ev;exact aeX
 |brk=>intro Γ env sc e Ev;exact aeO
 |bK=>intro Γ env sc e Ev;exact ae0
 |«try» b cV=>intro Γ env sc e Ev;exact ae1 (cV _ _ _ e Ev)
 |sg x=>intro Γ env sc e Ev;exact aeJ (X x _ _ _ e Ev)
 |uy n a m i=>intro Γ env sc e Ev;exact aeI ay Ev (X i _ _ _ e Ev)
 |nil=>intro Γ env sc e Ev;exact aeW
 |cons a r br hA=>intro Γ env sc e Ev;exact aeP (br _ _ _ e Ev) (hA _ _ _ e Ev)
end
end
section
theorem UP {σ:St} {v:ae} {c:Nat} {G:Prop} {i:Nat×List Nat×List ae} (h:(aY σ v).bind xE=ab i) (aD:bA i.1 c=aa) (k: ∀x,v= .aq x->σ.g x=ab (.inst c i.2.1 i.2.2)->G):G:=by
 cases v with
 |aq x=>
  have h:(σ.g x).bind xE=ab i:=h
  cases e:σ.g x with
  |none=>rw[e] at h;exact a3 h
  |some ao=>
   rw[e] at h
   cases ao with
   |inst d ns l=>
    have h:(d,ns,l)=i:=bQ h
    rw[<-h] at aD
    exact k x rfl (by rw[<-h,<-fh aD];exact e)
   |_=>exact a3 h
 |_=>exact a3 h
theorem Ls {Kf:bZ} {D:aR} {cd:ClassData} (h:mz Kf D=ab cd): ∃o,Kf.lookup D=ab o/\o.data= .cls cd:=by
 unfold mz at h
 revert h
 cases Kf.lookup D with
 |none=>exact a3
 |some o=>cases o with|mk a b c d=>cases c with
  |cls cd=>exact λh=> ⟨_,rfl,congrArg Data.cls (bQ h)⟩
  |_=>exact a3
variable [WP]
structure I3 (prog:cO) (K:bZ) (base:cw) (c f:Nat) (fd:jV) (args:List iA):Prop where
 hd: ∃f6 r,args=f6::r/\f6.arg=nm 37
 hl:fd.scope.names.lookup (cF "super")=ab .globalImplicit
 au:fd.scope.names.lookup (cF "__class__")=ab .free
 cd: ∃qz zI vs file cK,fd.code= .ref qz/\base.get? qz=ab zI/\zI.data= .fields vs/\vs[2]? =ab (.str file cK)/\((prog.main.file:aZ)==file)=aa
 top:(prog.main.scope.names.lookup (cF "super")).isSome=ac
 cl: ∃hc o D x4,fd.closure.lookup (cF "__class__")=ab hc/\base.get? hc=ab o/\o.data= .cell (ab (.ref D))/\mz K D=ab x4/\mroIn K c (.ref D)=ab aa/\
  ∃cd,mz K c=ab cd/\alongIn K "__init__" ((cd.mro.dropWhile (· != .ref D)).drop 1)=ab (ab (.ref f))
 fn:oT K (.ref f)=ab (.type "function")
 op:nsIn K xi "thirdparty.any" =ab af
structure I2 (prog:cO) (K:bZ) (base:cw) (c f:Nat) (fd:jV) (args:List iA) (xs:X) (r:Q7.S) (c7 e9 iP b2 pos:eu) (as:List Expr) (rest:List ct):Prop where
 D:I3 prog K base c f fd args
 loc:fH fd.scope (nm 37)=aa
 l:(Q7.au fd.scope xs).l as=aa
 line:(b2.endLine==pos.line)=aa
 qK:qK ((Q7.au fd.scope xs).dw as) []=aa
 b:(dH fd.scope r).b rest=aa
abbrev Qq (sc:cC) (xs:X) (c7 e9 b2 pos:eu) (as:List Expr):Expr:= .Call (.Attribute (.Call (.Name (cF "super") c7) [] [] e9) (cF "__init__") b2) ((au sc xs).dw as) [] pos
structure tN (prog:cO) (K:bZ) (base:cw) (a:Nat) (p:List Nat×List (Nat×aj)) (c f:Nat) (xs:X) (r:Q7.S):Prop where
 bY:p.1.Nodup
 fd: ∃o fd args dflt fz items c7 e9 iP b2 pos as rest,oG base a p o fd args dflt fz (.Expr (Qq fd.scope xs c7 e9 b2 pos as) iP::(dH fd.scope r).b0 rest) items/\I2 prog K base c f fd args xs r c7 e9 iP b2 pos as rest
section
variable {prog:cO} {w:ba} {A:c2} {E:ah->az->Prop} {s:az} {Γ:bM} {T:bG} {S:cM} {Kf:bZ} {k:Nat}
theorem ag7 (ay:WP.P=w.params) (bb:Top Kf Γ.base S) (F:iz prog w Kf S Γ.base k) {fd:jV} {a:aR} {p:List Nat×List (Nat×aj)} {body bd:List ct} {args:List iA} {c f:Nat} {dflt:List Expr} {fz:List (Option Expr)} {o:bX} {items:List ah} {xs:X} {r:Q7.S} {c7 e9 iP b2 pos:eu} {as:List Expr} {rest:List ct}
  (rN:oG Γ.base a p o fd args dflt fz bd items) (B:I2 prog Kf Γ.base c f fd args xs r c7 e9 iP b2 pos as rest)
  (Ev:dk fd.scope (jW fd Γ.L a) Γ S) (aw:fu A k) (N:aX Γ T s) {K:ae->St->aB} {Q:ah->az->Prop} (h:((ev S (.mc c f xs)).x T.σ K).holds) (q:fx Γ T K Q):
  _root_.PySem.wpAt (bp prog w) A (.func body (jW fd Γ.L a)) (dz (Qq fd.scope xs c7 e9 b2 pos as) (jW fd Γ.L a)) Q E s:=by
 have X:=N.gZ bb.toKnown
 have br:=FK (prog:=prog) (w:=w) ay bb F xs Γ (jW fd Γ.L a) fd.scope rfl Ev
 have iK:=Aa (prog:=prog) (w:=w) (Γ:=Γ) (k:=k) (S:=S) (sc:=fd.scope) (env:=jW fd Γ.L a) ay
 refine bT B.D.hd λf6 rs H=>wy B.D.cd λqz zI vs file cK C=>
  ni B.D.cl λhc ajl D x4 Z=>ak Z.2.2.2.2.2 λcd B6=>
  ak (dp h) λv h=>ak (dp h.2) λi aC=>UP aC.1 (gr aC.2).1 λx aW cJ=> ?_
 have bu:=(gr aC.2).2
 have aH:=h.1
 rw[aW] at bu aH
 refine ak N.lo.ns λEO ar=>ak (ar.2 37 _ aH) λAI hm=>bT (y1 N cJ) λes n i=>bT (bb.dd (cF "super",.type "super") (List.elem_iff.mp rfl)) λl2 n8 b=> ?_
 have ip:(jW fd Γ.L a).kindOf (cF "super")=ab .globalImplicit:=B.D.hl
 have Nf:(jW fd Γ.L a).kindOf (cF "__class__")=ab .free:=B.D.au
 have ZU:(jW fd Γ.L a).kindOf f6.arg=ab .local:=by rw[H.2];exact beq_iff_eq.mp B.loc
 have U:=hm.2.1
 have aiG:AI= .ref (T.ax (2*x)):=hm.2.2
 have hm:=hm.1
 rw[aiG] at hm
 refine ak (Ls Z.2.2.2.1) λajj dI=> ?_
 have Mk:=X _ _ dI.1
 show _root_.PySem.wpAt _ _ _ (dz (.Call _ _ _ _) _) _ _ _
 rw[arm_eval_Call]
 refine _root_.PySem.wpAt_bind (ks_wpAt_super_base (f:=a) ip Nf (by decide) rfl (N.keeps _ _ rN.at_) rN.data (by rw[rN.rf,H.1];rfl) C.1 (N.keeps _ _ C.2.1) C.2.2.1 C.2.2.2.1 C.2.2.2.2 B.D.top ?_)
 refine Iz rN.kind ip (H8 (by rw[Ev.i8];exact b.1.keeps N.keeps) b.2.1 (by rw[Ev.blt];exact b.2.2.1.keeps N.keeps) b.2.2.2 ⟨rfl, ?_⟩)
 refine wpAny_loadName_free rN.kind Nf Z.1 ⟨_,N.keeps _ _ Z.2.1,Z.2.2.1⟩ ?_
 rw[H.2]
 refine BQ rN.kind (by rw[<-H.2];exact ZU) ar.1 hm ?_
 refine ks_wpAny_isType_cls Mk dI.2 ⟨rfl, ?_⟩
 refine ks_wpAny_call_super Mk dI.2 i.I.1 rfl (λc e=>Ib e) (looks_mroIn X Z.2.2.2.2.1) λh' agU Nj=> ?_
 refine _root_.PySem.wpAt_of_wpAny (bz (gI ?_))
 have aT:aX Γ T {s with heap:=h'}:=N.grow Nj rfl rfl
 have xy:Kf.In h':=λa o e=>Nj _ _ (X a o e)
 have mp:BK aa (.Call (.Name (cF "super") c7) [] [] e9) (jW fd Γ.L a) b2 pos=pure pos:=by unfold BK;rw[B.line];rfl
 unfold methodCall
 rw[show II (((au fd.scope xs).dw as).length+([]:List mw).length) (i0 pos (h3 ((au fd.scope xs).dw as) (jW fd Γ.L a))) (mA pos (mB [] (jW fd Γ.L a)))=aa from LZ (args:=xs) (kws:= .nil) (br.st as pos B.l) (iK.hl [] pos rfl) B.qK,mp]
 refine bz (gk ?_)
 refine ak (Ls B6.1) λajk aD=> ?_
 have yU: ∃of,h'.get? f=ab of/\of.cls= .type "function" :=by
  have t:(Kf.lookup f).map (·.cls)=ab (.type "function"):=B.D.fn
  exact ak (qc.mp t) λof z=> ⟨of,xy _ _ z.1,z.2⟩
 refine ak yU λof yU=>ks_wpAny_getMethod_super agU (looks_opaque xy B.D.op) (l₀:=cd.mro) (λA Q E s k q=>bz ((looks_clsIn xy B6.1) A _ E s k (dc q))) rfl xy B6.2 yU.1 yU.2 (λe=> ?_) (by decide) ?_
 ·have g:=X _ _ aD.1
  rw[<-e,i.I.1] at g
  rw[<-bQ g] at aD
  exact Ib aD.2
 ·have bR:=aT.vS (xd (.ref f) (.ref (T.ax (2*x)))) rfl
  exact bz (dc (x3 (f:= .dy x f) (pre:= []) (kws:= .nil) (ks:= []) br iK bb F B.l rfl aw (bR.1.toks _) ⟨bR.2.dN _ U,_,rfl,bh.gc _ _ _⟩ .nil (λ_ _ _ h=>h) bu (q.ex bR.2)))
end
section
variable {prog:cO} {w:ba} {S fF:cM} {Kf:bZ} {k:Nat} {base:cw}
theorem XA {a:Nat} {ex:List Nat} {c f:Nat} {xs:X} {r:Q7.S} {p:List Nat×List (Nat×aj)} {pt:a4} (D:tN prog Kf base a p c f xs r) (ay:WP.P=w.params) (bb:Top Kf base S) (F:iz prog w Kf S base k) (aD:S.clo= []) (nZ:aL a fF.a8=ab p) (n1:aL a fF.pt=ab pt) (mS: ∀full hp K,pt full hp K->bH S p.1 ex (.cons (.exp (.mc c f xs)) r) full hp K):
  lC prog w fF base (k+1) a:=by
 intro rc zS e1 e2
 cases bQ (nZ.symm.trans e1)
 cases bQ (n1.symm.trans e2)
 intro A s aP Fr ax hp pos vs kw kvs full K R aw C ag aW aS hz i9 g1 g2 h back
 have keep: ∀b o,base.get? b=ab o->s.heap.get? b=ab o:=λb o e=>C.bE b o (ag b o e)
 refine aiH D.fd λo fd args dflt fz items c7 e9 iP b2 pos as rest g9=> ?_
 have G:=g9.1
 have Ev:dk fd.scope (jW fd s.heap.objs.size a) ⟨Fr,s.heap.objs.size,base,s.gens,s.os,λ_=>af⟩ S:=⟨rfl,G.kind,rfl,G.i8,G.blt,λn v e=>by rw[aD] at e;exact a3 e⟩
 exact ak (G.binds D.bY (s:=s) keep (λx v q=>bq.mono ag q) aW aS hz i9) λbI uH=>ks_codeAny_call_defAt aw.room (keep _ _ G.at_) G.data (bb.lim.keeps keep) (G.code.keeps keep) G.jC uH.2 G.zB G.locs (λh₀ vf DH=>
  ks_wpAt_execs_cons (ks_wpAt_Expr_any (ag7 ay bb F G g9.2 Ev aw.body (aX.begin (ex:=ex) C ag uH.1 D.bY vf DH) (mS full hp K h) λbS v av bk bi aT bl h=>
   _root_.PySem.wpAt_of_wpAny ((FJ (prog:=prog) (w:=w) ay bb F r _ (jW fd s.heap.objs.size a) fd.scope rfl Ev).b rest g9.2.b aw.body aT h λa5 g f s' x cR hf ci=>by cases f<;>exact NE cR (bi.trans x) ci back hf)) (O4 Ev) rfl)) G.cB G.gen G.kind
end
end
noncomputable def dX:List (Nat×aj):= [(20,(.st 53)),(21,(.st 834)),(74,(.st 2029)),(100,(.st 799)),(112,(.st 1121)),(126,(.st 2050)),(127,(.st 2062)),(128,(.st 2069)),(139,(.st 260)),(140,(.st 1083)),(143,(.st 2057)),(161,(.st 1102)),(164,(.st 280)),(165,(.st 1141)),(166,(.lst [(.str [97]),(.str [10]),(.str [32,98]),(.str [99,32,100]),(.str [10,10]),(.str [45,45,45]),(.str [32,32,32,101]),(.str [35]),(.str [10]),(.str [102,58,32,103]),(.str [46,46,46]),(.str [124]),(.str [8232]),(.str [233])])),(183,(.st 2039)),(184,(.lst [.none,.none,(.ek [[33,101,33]] [(.str [33,120])]),(.ek [[33],[33,101,33]] [(.str [33,121]),(.str [116])]),(.ek [[33,101,33]] [(.str [33,120])])])),(197,(.st 1176)),(206,(.st 876)),(208,(.st 359)),(209,(.st 208)),(210,(.st 932)),(221,(.st 1052)),(237,(.st 248)),(238,(.st 900)),(240,(.st 196)),(241,(.st 920)),(253,(.st 316)),(259,(.st 176)),(260,(.st 228)),(261,(.st 888)),(262,(.st 292)),(286,(.st 164))]
noncomputable def jm:List (Nat×List (Nat×At)):= [(53,[(30,.no),(33,.no),(55,.no),(79,.no),(82,.no),(109,.no),(113,.fn 35)]),
 (196,[(113,.fn 193),(116,.no),(117,.no),(158,.no)]),
 (208,[(113,.fn 112),(117,.no),(158,.no)]),
 (228,[(39,.no),(110,.no),(113,.fn 225),(117,.no),(118,.no),(158,.no)]),
 (248,[(113,.fn 245),(117,.no),(118,.no),(158,.no)]),
 (280,[(19,.no),(68,.no),(71,.no),(76,.no),(113,.fn 277),(117,.no),(120,.no),(158,.no)]),
 (359,[(49,.no),(92,.no),(113,.fn 356),(138,.no),(167,.no),(242,.no),(254,.no),(278,.no),(279,.no)]),
 (799,[(25,.fn 393),(30,.no),(50,.no),(67,.no),(68,.no),(82,.no),(84,.no),(88,.no),(96,.no),(97,.no),(107,.no),(113,.fn 379),(114,.no),(116,.no),(129,.no),(136,.no),(144,.no),(145,.no),(151,.no),(160,.no),(168,.no),(172,.fn 466),(175,.fn 407),(177,.fn 636),(186,.fn 699),(187,.no),(188,.no),(190,.no),(193,.fn 781),(194,.fn 728),(198,.no),(200,.fn 480),(205,.fn 788),(211,.fn 692),(212,.fn 429),(215,.fn 629),(216,.fn 650),(224,.no),(229,.fn 415),(230,.no),(232,.fn 657),(233,.no),(236,.fn 721),(247,.fn 400),(250,.no),(251,.fn 736),(252,.fn 713),(269,.fn 664),(270,.fn 671),(273,.no),(276,.fn 706),(280,.fn 643),(281,.fn 451),(282,.fn 422),(285,.fn 750),(287,.val (.ek [[33],[116,97,103,58,121,97,109,108,46,111,114,103,44,50,48,48,50,58]] [(.str [33]),(.str [33,33])])),(290,.fn 615),(291,.fn 458),(296,.fn 774),(297,.fn 444),(304,.fn 743),(315,.fn 436)]),
 (834,[(36,.no),(41,.fn 831),(73,.fn 824),(113,.fn 817)]),
 (876,[(7,.val (.str [60,100,105,114,101,99,116,105,118,101,62])),(33,.no),(71,.no),(113,.fn 873),(117,.no),(158,.no)]),
 (888,[(7,.val (.str [60,100,111,99,117,109,101,110,116,32,115,116,97,114,116,62])),(113,.fn 852),(117,.no),(158,.no)]),
 (900,[(7,.val (.str [60,100,111,99,117,109,101,110,116,32,101,110,100,62])),(113,.fn 852),(117,.no),(158,.no)]),
 (920,[(7,.val (.str [60,115,116,114,101,97,109,32,115,116,97,114,116,62])),(113,.fn 917),(116,.no),(117,.no),(158,.no)]),
 (932,[(7,.val (.str [60,115,116,114,101,97,109,32,101,110,100,62])),(113,.fn 852),(117,.no),(158,.no)]),
 (1141,[(7,.val (.str [60,115,99,97,108,97,114,62])),(63,.no),(68,.no),(71,.no),(113,.fn 1138),(117,.no),(158,.no)]),
 (2029,[(10,.no),(24,.no),(30,.no),(33,.no),(34,.fn 1198),(55,.no),(60,.no),(67,.no),(79,.no),(82,.no),(88,.no),(91,.fn 1206),(96,.no),(97,.no),(98,.no),(99,.fn 1235),(104,.fn 1214),(107,.no),(109,.no),(113,.fn 1820),(116,.no),(119,.fn 1221),(133,.fn 1841),(134,.fn 1314),(145,.no),(152,.fn 1912),(153,.fn 1834),(154,.fn 1307),(155,.no),(156,.no),(170,.fn 1300),(179,.no),(180,.val (.ek [[33],[33,33]] [(.str [33]),(.str [116,97,103,58,121,97,109,108,46,111,114,103,44,50,48,48,50,58])])),(185,.fn 1517),(189,.fn 1772),(191,.no),(195,.no),(199,.no),(201,.fn 1510),(204,.fn 1363),(217,.fn 1615),(218,.no),(225,.fn 1559),(226,.fn 1228),(227,.fn 1391),(234,.fn 1786),(235,.fn 1765),(243,.no),(245,.fn 1384),(248,.fn 1321),(249,.fn 1890),(256,.fn 1328),(258,.fn 1685),(263,.fn 1573),(264,.fn 1524),(265,.fn 1405),(266,.fn 1377),(267,.fn 1869),(268,.fn 1848),(271,.fn 1883),(272,.fn 1608),(284,.fn 1622),(289,.fn 1566),(292,.fn 1398),(293,.fn 1862),(294,.no),(301,.fn 1876),(305,.fn 1412),(306,.fn 1335),(307,.fn 1713),(308,.fn 1643),(309,.fn 1650),(310,.fn 1657),(311,.fn 1629),(312,.fn 1356),(313,.fn 1636),(314,.fn 1342),(316,.fn 1664),(317,.fn 1692),(318,.fn 1855),(319,.fn 1706),(320,.fn 1699)])]
noncomputable def mb:List (Nat×List (Nat×Bool)):= [(196,[(260,ac),(176,ac),(164,ac),(248,ac),(228,ac),(316,ac),(280,ac),(292,ac),(208,ac),(196,aa)]),
 (208,[(260,ac),(176,ac),(164,ac),(248,ac),(228,ac),(316,ac),(280,ac),(292,ac),(208,aa),(196,ac)]),
 (228,[(260,ac),(176,ac),(164,ac),(248,ac),(228,aa),(316,ac),(280,ac),(292,ac),(208,ac),(196,ac)]),
 (248,[(260,ac),(176,ac),(164,ac),(248,aa),(228,ac),(316,ac),(280,ac),(292,ac),(208,ac),(196,ac)]),
 (280,[(260,ac),(176,ac),(164,ac),(248,ac),(228,ac),(316,ac),(280,aa),(292,ac),(208,ac),(196,ac)])]
noncomputable def om:List (Nat×List (Nat×aj)):= [(1083,[(7,(.str [60,97,108,105,97,115,62]))]),(1102,[(7,(.str [60,97,110,99,104,111,114,62]))]),(1052,[(7,(.str [45]))]),(956,[(7,(.str [60,98,108,111,99,107,32,109,97,112,112,105,110,103,32,115,116,97,114,116,62]))]),(944,[(7,(.str [60,98,108,111,99,107,32,115,101,113,117,101,110,99,101,32,115,116,97,114,116,62]))]),(876,[(7,(.str [60,100,105,114,101,99,116,105,118,101,62]))]),(900,[(7,(.str [60,100,111,99,117,109,101,110,116,32,101,110,100,62]))]),(888,[(7,(.str [60,100,111,99,117,109,101,110,116,32,115,116,97,114,116,62]))]),(992,[(7,(.str [123]))]),(980,[(7,(.str [91]))]),(1141,[(7,(.str [60,115,99,97,108,97,114,62]))]),(932,[(7,(.str [60,115,116,114,101,97,109,32,101,110,100,62]))]),(1121,[(7,(.str [60,116,97,103,62]))])]
noncomputable def gD:List (Nat×(List Nat×List (Nat×aj))):= [(35,([37,33,55,30,82,79,109],[])),
 (112,([37,158,117],[(158,.none),(117,.none)])),
 (193,([37,158,117,116],[(158,.none),(117,.none),(116,.none)])),
 (225,([37,158,117,118,110,39],[(158,.none),(117,.none),(118,.none),(110,.none),(39,.none)])),
 (245,([37,158,117,118],[(158,.none),(117,.none),(118,.none)])),
 (277,([37,76,19,120,71,158,117,68],[(158,.none),(117,.none),(68,.none)])),
 (356,([37,92,49,138,242,254,279,278,167],[])),
 (379,([37,97,129,88,72,198,148],[(129,.none),(88,.none),(72,.none),(198,.none),(148,.none)])),
 (393,([37,50],[])),
 (400,([37],[])),
 (407,([37,48],[])),
 (415,([37,26,146],[(26,(.bool ac)),(146,(.bool ac))])),
 (422,([37],[])),
 (436,([37],[])),
 (444,([37,51],[(51,(.bool ac))])),
 (451,([37],[])),
 (458,([37],[])),
 (466,([37,35,121,108,157],[(35,(.bool ac)),(121,(.bool ac)),(108,(.bool ac)),(157,(.bool ac))])),
 (480,([37],[])),
 (615,([37],[])),
 (629,([37,137],[])),
 (636,([37],[])),
 (643,([37],[])),
 (650,([37],[])),
 (657,([37,110],[])),
 (664,([37,87],[])),
 (671,([37,91],[])),
 (692,([37,92],[])),
 (699,([37],[])),
 (706,([37],[])),
 (713,([37],[])),
 (721,([37,137,231,160,136],[(160,(.bool ac)),(136,(.bool ac))])),
 (728,([37],[])),
 (736,([37,23],[(23,.none)])),
 (743,([37,192],[])),
 (750,([37,173,176],[])),
 (774,([37,41],[])),
 (781,([37,41],[])),
 (788,([37,41],[])),
 (817,([37],[])),
 (824,([37,23],[])),
 (831,([37],[])),
 (852,([37,158,117],[])),
 (873,([37,33,71,158,117],[])),
 (917,([37,158,117,116],[(158,.none),(117,.none),(116,.none)])),
 (1138,([37,71,63,158,117,68],[(68,.none)])),
 (1176,([6],[])),
 (1190,([37,97],[])),
 (1198,([37,55],[(55,(.int 0))])),
 (1206,([37,89],[(89,(.int 1))])),
 (1214,([37,89],[(89,(.int 1))])),
 (1221,([37],[])),
 (1228,([37,23],[])),
 (1235,([37,89],[])),
 (1291,([37,97],[])),
 (1300,([37,102],[(102,(.tup []))])),
 (1307,([37],[])),
 (1314,([37],[])),
 (1321,([37],[])),
 (1328,([37],[])),
 (1335,([37],[])),
 (1342,([37],[])),
 (1356,([37],[])),
 (1363,([37,82],[])),
 (1377,([37],[])),
 (1384,([37],[])),
 (1391,([37],[])),
 (1398,([37],[])),
 (1405,([37],[])),
 (1412,([37,141],[])),
 (1510,([37],[])),
 (1517,([37],[])),
 (1524,([37,68],[])),
 (1559,([37],[])),
 (1566,([37],[])),
 (1573,([37],[])),
 (1608,([37],[])),
 (1615,([37],[])),
 (1622,([37,158],[])),
 (1629,([37,158],[])),
 (1636,([37,158],[])),
 (1643,([37,158],[])),
 (1650,([37,158],[])),
 (1657,([37,158],[])),
 (1664,([37,158],[])),
 (1685,([37,68],[])),
 (1692,([37,158],[])),
 (1699,([37,158],[])),
 (1706,([37],[])),
 (1713,([37,88],[])),
 (1765,([37,33,158],[])),
 (1772,([37,33,158],[])),
 (1786,([37],[])),
 (1820,([37,97],[])),
 (1834,([37],[])),
 (1841,([37],[])),
 (1848,([37],[])),
 (1855,([37],[])),
 (1862,([37],[])),
 (1869,([37],[])),
 (1876,([37],[])),
 (1883,([37],[])),
 (1890,([37],[])),
 (1912,([37,47,283],[(47,(.bool ac)),(283,(.bool ac))])),
 (2039,([],[])),
 (2050,([40],[])),
 (2057,([71],[])),
 (2062,([27,68,58,38,83],[])),
 (2069,([50],[])),
 (53,([33,55,30,82,79,109],[])),
 (196,([158,117,116],[(158,.none),(117,.none),(116,.none)])),
 (208,([158,117],[(158,.none),(117,.none)])),
 (228,([158,117,118,110,39],[(158,.none),(117,.none),(118,.none),(110,.none),(39,.none)])),
 (248,([158,117,118],[(158,.none),(117,.none),(118,.none)])),
 (280,([76,19,120,71,158,117,68],[(158,.none),(117,.none),(68,.none)])),
 (359,([92,49,138,242,254,279,278,167],[])),
 (799,([97,129,88,72,198,148],[(129,.none),(88,.none),(72,.none),(198,.none),(148,.none)])),
 (834,([],[])),
 (876,([33,71,158,117],[])),
 (888,([158,117],[])),
 (900,([158,117],[])),
 (920,([158,117,116],[(158,.none),(117,.none),(116,.none)])),
 (932,([158,117],[])),
 (1141,([71,63,158,117,68],[(68,.none)])),
 (2029,([97],[]))]
noncomputable def J7:S:=(.cons (.a9 (.lo 37) 33 (.lo 33))
 (.cons (.a9 (.lo 37) 55 (.lo 55))
 (.cons (.a9 (.lo 37) 30 (.lo 30))
 (.cons (.a9 (.lo 37) 82 (.lo 82))
 (.cons (.a9 (.lo 37) 79 (.lo 79))
 (.cons (.a9 (.lo 37) 109 (.lo 109))
 .nil))))))
noncomputable def J6:S:=(.cons (.a9 (.lo 37) 158 (.lo 158))
 (.cons (.a9 (.lo 37) 117 (.lo 117))
 .nil))
noncomputable def KV:S:=(.cons (.a9 (.lo 37) 158 (.lo 158))
 (.cons (.a9 (.lo 37) 117 (.lo 117))
 (.cons (.a9 (.lo 37) 116 (.lo 116))
 .nil)))
noncomputable def JH:S:=(.cons (.a9 (.lo 37) 158 (.lo 158))
 (.cons (.a9 (.lo 37) 117 (.lo 117))
 (.cons (.a9 (.lo 37) 118 (.lo 118))
 (.cons (.a9 (.lo 37) 110 (.lo 110))
 (.cons (.a9 (.lo 37) 39 (.lo 39))
 .nil)))))
noncomputable def JG:S:=(.cons (.a9 (.lo 37) 158 (.lo 158))
 (.cons (.a9 (.lo 37) 117 (.lo 117))
 (.cons (.a9 (.lo 37) 118 (.lo 118))
 .nil)))
noncomputable def Kq:S:=(.cons (.a9 (.lo 37) 76 (.lo 76))
 (.cons (.a9 (.lo 37) 19 (.lo 19))
 (.cons (.a9 (.lo 37) 120 (.lo 120))
 (.cons (.a9 (.lo 37) 71 (.lo 71))
 (.cons (.a9 (.lo 37) 158 (.lo 158))
 (.cons (.a9 (.lo 37) 117 (.lo 117))
 (.cons (.a9 (.lo 37) 68 (.lo 68))
 .nil)))))))
noncomputable def Kp:S:=(.cons (.a9 (.lo 37) 92 (.lo 92))
 (.cons (.a9 (.lo 37) 49 (.lo 49))
 (.cons (.a9 (.lo 37) 138 (.lo 138))
 (.cons (.a9 (.lo 37) 242 (.lo 242))
 (.cons (.a9 (.lo 37) 254 (.lo 254))
 (.cons (.a9 (.lo 37) 279 (.lo 279))
 (.cons (.a9 (.lo 37) 278 (.lo 278))
 (.cons (.a9 (.lo 37) 167 (.lo 167))
 .nil))))))))
noncomputable def xJ:S:=(.cons (.a9 (.lo 37) 97 (.lo 97))
 (.cons (.a9 (.lo 37) 116 .cu)
 (.cons (.a9 (.lo 37) 96 (.cell 11 .nil))
 (.cons (.a9 (.lo 37) 67 (.at (.lo 37) 282))
 (.cons (.a9 (.lo 37) 84 (.cell 12 .nil))
 (.cons (.a9 (.lo 37) 50 .cu)
 (.cons (.a9 (.lo 37) 107 (.cell 13 .nil))
 (.cons (.a9 (.lo 37) 88 .cu)
 (.cons (.a9 (.lo 37) 145 (.a6 0))
 (.cons (.a9 (.lo 37) 188 (.bF ac))
 (.cons (.a9 (.lo 37) 250 (.bF ac))
 (.cons (.a9 (.lo 37) 230 (.bF ac))
 (.cons (.a9 (.lo 37) 273 (.bF ac))
 (.cons (.a9 (.lo 37) 30 (.a6 0))
 (.cons (.a9 (.lo 37) 82 (.a6 0))
 (.cons (.a9 (.lo 37) 160 (.bF aa))
 (.cons (.a9 (.lo 37) 136 (.bF aa))
 (.cons (.a9 (.lo 37) 151 (.bF ac))
 (.cons (.a9 (.lo 37) 129 (.lo 129))
 (.cons (.a9 (.lo 37) 198 (.lo 198))
 (.cons (.a9 (.lo 37) 168 (.a6 2))
 (.cons (.ite (.and (.cons (.lo 88) (.cons (.fy .Lt .Lt (.a6 1) (.lo 88) (.a6 10)) .nil))) (.cons (.a9 (.lo 37) 168 (.lo 88))
 .nil) .nil)
 (.cons (.a9 (.lo 37) 144 (.a6 80))
 (.cons (.ite (.and (.cons (.lo 72) (.cons (.cmp .Gt (.lo 72) (.bin .Mult (.at (.lo 37) 168) (.a6 2))) .nil))) .bK .nil)
 (.cons (.a9 (.lo 37) 224 (.ks [10]))
 (.cons (.ite (.cmp .In (.lo 148) (.lst (.cons (.ks [13]) (.cons (.ks [10]) (.cons (.ks [13,10]) .nil))))) (.cons (.a9 (.lo 37) 224 (.lo 148))
 .nil) .nil)
 (.cons (.a9 (.lo 37) 190 .cu)
 (.cons (.a9 (.lo 37) 233 .cu)
 (.cons (.a9 (.lo 37) 187 .cu)
 (.cons (.a9 (.lo 37) 114 .cu)
 (.cons (.a9 (.lo 37) 68 .cu)
 .nil)))))))))))))))))))))))))))))))
noncomputable def Cs:S:=(.cons (.exp (.cG (.at (.lo 37) 84) (.lo 50)))
 (.cons (.eT (.not (.aG (.lo 37) 247 .nil .nil)) (.cons (.a9 (.lo 37) 50 (.ri (.at (.lo 37) 84)))
 (.cons (.exp (.aG (.lo 37) 67 .nil .nil))
 (.cons (.a9 (.lo 37) 50 .cu)
 .nil))))
 .nil))
noncomputable def JT:S:=(.cons (.ite (.not (.at (.lo 37) 84)) (.cons (.ret (.bF aa))
 .nil) .nil)
 (.cons (.aN 50 (.co (.at (.lo 37) 84) (.a6 0)))
 (.cons (.ite (.gz (.lo 50) (.gl 260)) (.cons (.ret (.aG (.lo 37) 175 (.cons (.a6 1) .nil) .nil))
 .nil) (.cons (.ite (.gz (.lo 50) (.gl 262)) .bK (.cons (.ite (.gz (.lo 50) (.gl 253)) .bK (.cons (.ret (.bF ac))
 .nil))
 .nil))
 .nil))
 .nil)))
noncomputable def JS:S:=(.cons (.aN 57 (.a6 0))
 (.cons (.fr 50 (.aK (.at (.lo 37) 84) (.a6 1) .no) (.cons (.ite (.gz (.lo 50) (.tup (.cons (.gl 260) (.cons (.gl 286) .nil)))) .bK (.cons (.ite (.gz (.lo 50) (.tup (.cons (.gl 237) (.cons (.gl 259) .nil)))) .bK (.cons (.ite (.gz (.lo 50) (.gl 209)) .bK .nil)
 .nil))
 .nil))
 (.cons (.ite (.cmp .Lt (.lo 57) (.a6 0)) .bK .nil)
 .nil)))
 (.cons (.ret (.cmp .Lt (.len (.at (.lo 37) 84)) (.bin .Add (.lo 48) (.a6 1))))
 .nil)))
noncomputable def JR:S:=(.cons (.exp (.cG (.at (.lo 37) 107) (.at (.lo 37) 88)))
 (.cons (.ite (.cmp .Is (.at (.lo 37) 88) .cu) (.cons (.ite (.lo 26) (.cons (.a9 (.lo 37) 88 (.at (.lo 37) 168))
 .nil) .bK)
 .nil) .bK)
 .nil))
noncomputable def JP:S:=(.cons (.ite (.gz (.at (.lo 37) 50) (.gl 240)) (.cons (.exp (.aG (.lo 37) 276 .nil .nil))
 (.cons (.a9 (.lo 37) 67 (.at (.lo 37) 315))
 .nil)) .bK)
 .nil)
noncomputable def JM:S:=(.cons (.ret (.aG (.lo 37) 297 .nil (.e0 51 (.bF aa) .nil)))
 .nil)
noncomputable def Ct:S:=(.cons (.ite (.gz (.at (.lo 37) 50) (.gl 260)) (.cons (.ite (.and (.cons (.or (.cons (.at (.at (.lo 37) 50) 110) (.cons (.at (.at (.lo 37) 50) 39) .nil))) (.cons (.at (.lo 37) 151) .nil))) (.cons (.exp (.aG (.lo 37) 236 (.cons (.ks [46,46,46]) (.cons (.bF aa) .nil)) .nil))
 (.cons (.exp (.aG (.lo 37) 194 .nil .nil))
 .nil)) .nil)
 (.cons (.ite (.at (.at (.lo 37) 50) 110) (.cons (.aN 192 (.aG (.lo 37) 232 (.cons (.at (.at (.lo 37) 50) 110) .nil) .nil))
 (.cons (.exp (.aG (.lo 37) 304 (.cons (.lo 192) .nil) .nil))
 .nil)) .nil)
 (.cons (.a9 (.lo 37) 190 (.uO 16 (.at (.lo 37) 287)))
 (.cons (.ite (.at (.at (.lo 37) 50) 39) (.cons (.aN 105 (.tp (.at (.at (.lo 37) 50) 39)))
 (.cons (.fr 87 (.lo 105) (.cons (.aN 91 (.co (.at (.at (.lo 37) 50) 39) (.lo 87)))
 (.cons (.qs (.at (.lo 37) 190) (.lo 91) (.lo 87))
 (.cons (.aN 173 (.aG (.lo 37) 269 (.cons (.lo 87) .nil) .nil))
 (.cons (.aN 176 (.aG (.lo 37) 270 (.cons (.lo 91) .nil) .nil))
 (.cons (.exp (.aG (.lo 37) 285 (.cons (.lo 173) (.cons (.lo 176) .nil)) .nil))
 .nil))))))
 .nil)) .nil)
 (.cons (.aN 120 (.and (.cons (.lo 51) (.cons (.not (.at (.at (.lo 37) 50) 118)) (.cons (.not (.at (.lo 37) 129)) (.cons (.not (.at (.at (.lo 37) 50) 110)) (.cons (.not (.at (.at (.lo 37) 50) 39)) (.cons (.not (.aG (.lo 37) 290 .nil .nil)) .nil))))))))
 (.cons (.ite (.not (.lo 120)) (.cons (.exp (.aG (.lo 37) 194 .nil .nil))
 (.cons (.exp (.aG (.lo 37) 236 (.cons (.ks [45,45,45]) (.cons (.bF aa) .nil)) .nil))
 (.cons (.ite (.at (.lo 37) 129) .bK .nil)
 .nil))) .nil)
 (.cons (.a9 (.lo 37) 67 (.at (.lo 37) 291))
 .nil))))))) (.cons (.ite (.gz (.at (.lo 37) 50) (.gl 209)) (.cons (.ite (.at (.lo 37) 151) (.cons (.exp (.aG (.lo 37) 236 (.cons (.ks [46,46,46]) (.cons (.bF aa) .nil)) .nil))
 (.cons (.exp (.aG (.lo 37) 194 .nil .nil))
 .nil)) .nil)
 (.cons (.exp (.aG (.lo 37) 252 .nil .nil))
 (.cons (.a9 (.lo 37) 67 (.at (.lo 37) 212))
 .nil))) .bK)
 .nil))
 .nil)
noncomputable def JK:S:=(.cons (.ite (.gz (.at (.lo 37) 50) (.gl 237)) (.cons (.exp (.aG (.lo 37) 194 .nil .nil))
 (.cons (.ite (.at (.at (.lo 37) 50) 118) (.cons (.exp (.aG (.lo 37) 236 (.cons (.ks [46,46,46]) (.cons (.bF aa) .nil)) .nil))
 (.cons (.exp (.aG (.lo 37) 194 .nil .nil))
 .nil)) .nil)
 (.cons (.exp (.aG (.lo 37) 186 .nil .nil))
 (.cons (.a9 (.lo 37) 67 (.at (.lo 37) 297))
 .nil)))) .bK)
 .nil)
noncomputable def JL:S:=(.cons (.exp (.cG (.at (.lo 37) 96) (.at (.lo 37) 281)))
 (.cons (.exp (.aG (.lo 37) 172 .nil (.e0 35 (.bF aa) .nil)))
 .nil))
noncomputable def JN:S:=(.cons (.a9 (.lo 37) 188 (.lo 35))
 (.cons (.a9 (.lo 37) 250 (.lo 121))
 (.cons (.a9 (.lo 37) 230 (.lo 108))
 (.cons (.a9 (.lo 37) 273 (.lo 157))
 (.cons (.ite (.gz (.at (.lo 37) 50) (.gl 139)) .bK (.cons (.ite (.gz (.at (.lo 37) 50) (.tup (.cons (.gl 164) (.cons (.gl 286) .nil)))) (.cons (.exp (.aG (.lo 37) 215 (.cons (.ks [38]) .nil) .nil))
 (.cons (.exp (.aG (.lo 37) 177 .nil .nil))
 (.cons (.ite (.gz (.at (.lo 37) 50) (.gl 164)) (.cons (.exp (.aG (.lo 37) 200 .nil .nil))
 .nil) .bK)
 .nil))) .bK)
 .nil))
 .nil)))))
noncomputable def JO:S:=(.cons (.exp (.aG (.lo 37) 229 .nil (.e0 26 (.bF aa) .nil)))
 (.cons (.exp (.aG (.lo 37) 216 .nil .nil))
 (.cons (.a9 (.lo 37) 88 (.rj (.at (.lo 37) 107)))
 (.cons (.a9 (.lo 37) 67 (.rj (.at (.lo 37) 96)))
 .nil))))
noncomputable def JI:S:=(.cons (.ite (.or (.cons (.not (.gz (.at (.lo 37) 50) (.gl 260))) (.cons (.not (.at (.lo 37) 84)) .nil))) .bK .nil)
 (.cons (.aN 50 (.co (.at (.lo 37) 84) (.a6 0)))
 (.cons (.ret (.and (.cons (.gz (.lo 50) (.gl 164)) (.cons (.cmp .Is (.at (.lo 50) 76) .cu) (.cons (.cmp .Is (.at (.lo 50) 19) .cu) (.cons (.at (.lo 50) 120) (.cons (.cmp .Eq (.at (.lo 50) 71) (.ks [])) .nil)))))))
 .nil)))
noncomputable def JW:S:=(.cons (.ite (.cmp .Is (.at (.at (.lo 37) 50) 76) .cu) (.cons (.a9 (.lo 37) 233 .cu)
 (.cons .rl
 .nil)) .nil)
 .bK)
noncomputable def JY:S:=(.cons (.aN 19 (.at (.at (.lo 37) 50) 19))
 (.cons (.ite (.gz (.at (.lo 37) 50) (.gl 164)) (.cons (.ite (.cmp .Is (.at (.lo 37) 68) .cu) (.cons (.a9 (.lo 37) 68 (.aG (.lo 37) 280 .nil .nil))
 .nil) .nil)
 (.cons (.ite (.and (.cons (.or (.cons (.not (.at (.lo 37) 129)) (.cons (.cmp .Is (.lo 19) .cu) .nil))) (.cons (.or (.cons (.and (.cons (.cmp .Eq (.at (.lo 37) 68) (.ks [])) (.cons (.co (.at (.at (.lo 37) 50) 120) (.a6 0)) .nil))) (.cons (.and (.cons (.cmp .NotEq (.at (.lo 37) 68) (.ks [])) (.cons (.co (.at (.at (.lo 37) 50) 120) (.a6 1)) .nil))) .nil))) .nil))) (.cons (.a9 (.lo 37) 187 .cu)
 (.cons .rl
 .nil)) .nil)
 .bK)) .bK)
 .bK))
noncomputable def JJ:S:=(.cons (.ite (.cmp .Is (.at (.lo 37) 114) .cu) (.cons (.a9 (.lo 37) 114 (.aG (.lo 37) 211 (.cons (.at (.at (.lo 37) 50) 71) .nil) .nil))
 .nil) .nil)
 (.cons (.ite (.or (.cons (.cmp .Eq (.at (.at (.lo 37) 50) 68) (.ks [34])) (.cons (.at (.lo 37) 129) .nil))) .bK .nil)
 (.cons (.ite (.and (.cons (.not (.at (.at (.lo 37) 50) 68)) (.cons (.co (.at (.at (.lo 37) 50) 120) (.a6 0)) .nil))) .bK .nil)
 (.cons (.ite (.and (.cons (.at (.at (.lo 37) 50) 68) (.cons (.cmp .In (.at (.at (.lo 37) 50) 68) (.ks [124,62])) .nil))) (.cons (.ite (.and (.cons (.not (.at (.lo 37) 145)) (.cons (.not (.at (.lo 37) 273)) (.cons (.at (.at (.lo 37) 114) 167) .nil)))) (.cons (.ret (.at (.at (.lo 37) 50) 68))
 .nil) .nil)
 .nil) .nil)
 .bK))))
noncomputable def JX:S:=(.cons (.ite (.cmp .Is (.at (.lo 37) 114) .cu) .bK .nil)
 (.cons (.ite (.cmp .Is (.at (.lo 37) 68) .cu) .bK .nil)
 (.cons (.aN 65 (.not (.at (.lo 37) 273)))
 (.cons (.ite (.cmp .Eq (.at (.lo 37) 68) (.ks [34])) .bK (.cons (.ite (.cmp .Eq (.at (.lo 37) 68) (.ks [39])) .bK (.cons (.ite (.cmp .Eq (.at (.lo 37) 68) (.ks [62])) (.cons (.exp (.aG (.lo 37) 193 (.cons (.at (.at (.lo 37) 114) 92) .nil) .nil))
 .nil) (.cons (.ite (.cmp .Eq (.at (.lo 37) 68) (.ks [124])) (.cons (.exp (.aG (.lo 37) 205 (.cons (.at (.at (.lo 37) 114) 92) .nil) .nil))
 .nil) .bK)
 .nil))
 .nil))
 .nil))
 (.cons (.a9 (.lo 37) 114 .cu)
 (.cons (.a9 (.lo 37) 68 .cu)
 .nil))))))
noncomputable def JV:S:=(.cons (.ast [59,61] (.lo 110))
 (.cons (.ite (.cmp .NotEq (.lo 59) (.a6 1)) .bK .nil)
 (.cons (.ret (.fmt 2 (.tup (.cons (.lo 59) (.cons (.lo 61) .nil)))))
 .nil)))
noncomputable def JU:S:=(.cons (.ite (.not (.lo 87)) .bK .nil)
 (.cons (.ite (.or (.cons (.cmp .NotEq (.co (.lo 87) (.a6 0)) (.ks [33])) (.cons (.cmp .NotEq (.co (.lo 87) (.neg (.a6 1))) (.ks [33])) .nil))) .bK .nil)
 (.cons (.fr 6 (.aK (.lo 87) (.a6 1) (.neg (.a6 1))) (.cons (.ite (.not (.or (.cons (.fy .LtE .LtE (.ks [48]) (.lo 6) (.ks [57])) (.cons (.fy .LtE .LtE (.ks [65]) (.lo 6) (.ks [90])) (.cons (.fy .LtE .LtE (.ks [97]) (.lo 6) (.ks [122])) (.cons (.cmp .In (.lo 6) (.ks [45,95])) .nil)))))) .bK .nil)
 .nil))
 (.cons (.ret (.lo 87))
 .nil))))
noncomputable def Cu:S:=(.cons (.ite (.not (.lo 91)) .bK .nil)
 (.cons (.aN 80 (.cell 100 .nil))
 (.cons (.jB [66,9] (.a6 0))
 (.cons (.ite (.cmp .Eq (.co (.lo 91) (.a6 0)) (.ks [33])) (.cons (.aN 9 (.a6 1))
 .nil) .nil)
 (.cons (.eT (.cmp .Lt (.lo 9) (.len (.lo 91))) (.cons (.aN 6 (.co (.lo 91) (.lo 9)))
 (.cons (.ite (.or (.cons (.fy .LtE .LtE (.ks [48]) (.lo 6) (.ks [57])) (.cons (.fy .LtE .LtE (.ks [65]) (.lo 6) (.ks [90])) (.cons (.fy .LtE .LtE (.ks [97]) (.lo 6) (.ks [122])) (.cons (.cmp .In (.lo 6) (.ks [45,59,47,63,33,58,64,38,61,43,36,44,95,46,126,42,39,40,41,91,93])) .nil))))) (.cons (.gT 9 .Add (.a6 1))
 .nil) .bK)
 .nil)))
 (.cons (.ite (.cmp .Lt (.lo 66) (.lo 9)) (.cons (.exp (.cG (.lo 80) (.aK (.lo 91) (.lo 66) (.lo 9))))
 .nil) .nil)
 (.cons (.ret (.join (.ks []) (.lo 80)))
 .nil)))))))
noncomputable def Cq:S:=(.cons (.ite (.not (.lo 92)) .bK .nil)
 (.cons (.aN 244 (.bF ac))
 (.cons (.aN 228 (.bF ac))
 (.cons (.aN 174 (.bF ac))
 (.cons (.aN 274 (.bF ac))
 (.cons (.aN 203 (.bF ac))
 (.cons (.aN 202 (.bF ac))
 (.cons (.aN 220 (.bF ac))
 (.cons (.aN 219 (.bF ac))
 (.cons (.aN 169 (.bF ac))
 (.cons (.aN 178 (.bF ac))
 (.cons (.ite (.or (.cons (.tr (.lo 92) (.ks [45,45,45])) (.cons (.tr (.lo 92) (.ks [46,46,46])) .nil))) (.cons (.aN 244 (.bF aa))
 (.cons (.aN 228 (.bF aa))
 .nil)) .nil)
 (.cons (.aN 302 (.bF aa))
 (.cons (.aN 300 (.or (.cons (.cmp .Eq (.len (.lo 92)) (.a6 1)) (.cons (.cmp .In (.co (.lo 92) (.a6 1)) (.ks [0,32,9,13,10,133,8232,8233])) .nil))))
 (.cons (.aN 214 (.bF ac))
 (.cons (.aN 213 (.bF ac))
 (.cons (.aN 55 (.a6 0))
 (.cons (.eT (.cmp .Lt (.lo 55) (.len (.lo 92))) (.cons (.aN 6 (.co (.lo 92) (.lo 55)))
 (.cons (.ite (.cmp .Eq (.lo 55) (.a6 0)) (.cons (.ite (.cmp .In (.lo 6) (.ks [35,44,91,93,123,125,38,42,33,124,62,39,34,37,64,96])) (.cons (.aN 228 (.bF aa))
 (.cons (.aN 244 (.bF aa))
 .nil)) .nil)
 (.cons (.ite (.cmp .In (.lo 6) (.ks [63,58])) .bK .nil)
 (.cons (.ite (.and (.cons (.cmp .Eq (.lo 6) (.ks [45])) (.cons (.lo 300) .nil))) .bK .nil)
 .nil))) (.cons (.ite (.cmp .In (.lo 6) (.ks [44,63,91,93,123,125])) .bK .nil)
 (.cons (.ite (.cmp .Eq (.lo 6) (.ks [58])) (.cons (.aN 228 (.bF aa))
 (.cons (.ite (.lo 300) (.cons (.aN 244 (.bF aa))
 .nil) .nil)
 .nil)) .nil)
 (.cons (.ite (.and (.cons (.cmp .Eq (.lo 6) (.ks [35])) (.cons (.lo 302) .nil))) (.cons (.aN 228 (.bF aa))
 (.cons (.aN 244 (.bF aa))
 .nil)) .nil)
 .nil))))
 (.cons (.ite (.cmp .In (.lo 6) (.ks [10,133,8232,8233])) (.cons (.aN 174 (.bF aa))
 .nil) .nil)
 (.cons (.ite (.not (.or (.cons (.cmp .Eq (.lo 6) (.ks [10])) (.cons (.fy .LtE .LtE (.ks [32]) (.lo 6) (.ks [126])) .nil)))) (.cons (.ite (.and (.cons (.or (.cons (.cmp .Eq (.lo 6) (.ks [133])) (.cons (.fy .LtE .LtE (.ks [160]) (.lo 6) (.ks [55295])) (.cons (.fy .LtE .LtE (.ks [57344]) (.lo 6) (.ks [65533])) (.cons (.fy .LtE .Lt (.ks [65536]) (.lo 6) (.ks [1114111])) .nil))))) (.cons (.cmp .NotEq (.lo 6) (.ks [65279])) .nil))) (.cons (.aN 275 (.bF aa))
 (.cons (.ite (.not (.at (.lo 37) 198)) .bK .nil)
 .nil)) .bK)
 .nil) .nil)
 (.cons (.ite (.cmp .Eq (.lo 6) (.ks [32])) (.cons (.ite (.cmp .Eq (.lo 55) (.a6 0)) (.cons (.aN 203 (.bF aa))
 .nil) .nil)
 (.cons (.ite (.cmp .Eq (.lo 55) (.bin .Sub (.len (.lo 92)) (.a6 1))) .bK .nil)
 (.cons (.ite (.lo 213) (.cons (.aN 169 (.bF aa))
 .nil) .nil)
 (.cons (.aN 214 (.bF aa))
 (.cons (.aN 213 (.bF ac))
 .nil))))) (.cons (.ite (.cmp .In (.lo 6) (.ks [10,133,8232,8233])) (.cons (.ite (.cmp .Eq (.lo 55) (.a6 0)) (.cons (.aN 202 (.bF aa))
 .nil) .nil)
 (.cons (.ite (.cmp .Eq (.lo 55) (.bin .Sub (.len (.lo 92)) (.a6 1))) (.cons (.aN 219 (.bF aa))
 .nil) .nil)
 (.cons (.ite (.lo 214) .bK .nil)
 (.cons (.aN 214 (.bF ac))
 (.cons (.aN 213 (.bF aa))
 .nil))))) (.cons (.aN 214 (.bF ac))
 (.cons (.aN 213 (.bF ac))
 .nil)))
 .nil))
 (.cons (.gT 55 .Add (.a6 1))
 (.cons (.aN 302 (.cmp .In (.lo 6) (.ks [0,32,9,13,10,133,8232,8233])))
 (.cons (.aN 300 (.or (.cons (.cmp .GtE (.bin .Add (.lo 55) (.a6 1)) (.len (.lo 92))) (.cons (.cmp .In (.co (.lo 92) (.bin .Add (.lo 55) (.a6 1))) (.ks [0,32,9,13,10,133,8232,8233])) .nil))))
 .nil)))))))))
 (.cons (.aN 242 (.bF aa))
 (.cons (.aN 254 (.bF aa))
 (.cons (.aN 279 (.bF aa))
 (.cons (.aN 278 (.bF aa))
 (.cons (.aN 167 (.bF aa))
 (.cons (.ite (.or (.cons (.lo 203) (.cons (.lo 202) (.cons (.lo 220) (.cons (.lo 219) .nil))))) (.cons (.jB [242,254] (.bF ac))
 .nil) .nil)
 (.cons (.ite (.lo 220) .bK .nil)
 (.cons (.ite (.lo 169) (.cons (.jB [242,254,279] (.bF ac))
 .nil) .nil)
 (.cons (.ite (.or (.cons (.lo 178) (.cons (.lo 274) .nil))) .bK .nil)
 (.cons (.ite (.lo 174) (.cons (.jB [242,254] (.bF ac))
 .nil) .nil)
 (.cons (.ite (.lo 228) (.cons (.aN 242 (.bF ac))
 .nil) .nil)
 (.cons (.ite (.lo 244) (.cons (.aN 254 (.bF ac))
 .nil) .nil)
 (.cons (.ret (.call (.gl 208) .nil (.e0 92 (.lo 92) (.e0 49 (.bF ac) (.e0 138 (.lo 174) (.e0 242 (.lo 242) (.e0 254 (.lo 254) (.e0 279 (.lo 279) (.e0 278 (.lo 278) (.e0 167 (.lo 167) .nil))))))))))
 .nil)))))))))))))))))))))))))))))))
noncomputable def JQ:S:=(.cons .te
 .nil)
noncomputable def J3:S:=(.cons .te
 .nil)
noncomputable def J2:S:=(.cons (.exp (.aG (.lo 37) 186 .nil .nil))
 .nil)
noncomputable def J0:S:=(.cons (.ite (.or (.cons (.at (.lo 37) 160) (.cons (.not (.lo 231)) .nil))) (.cons (.aN 23 (.lo 137))
 .nil) (.cons (.aN 23 (.bin .Add (.ks [32]) (.lo 137)))
 .nil))
 (.cons (.a9 (.lo 37) 160 (.lo 160))
 (.cons (.a9 (.lo 37) 136 (.and (.cons (.at (.lo 37) 136) (.cons (.lo 136) .nil))))
 (.cons (.kA (.lo 37) 82 .Add (.len (.lo 23)))
 (.cons (.a9 (.lo 37) 151 (.bF ac))
 (.cons (.exp (.aG (.at (.lo 37) 97) 73 (.cons (.lo 23) .nil) .nil))
 .nil))))))
noncomputable def JZ:S:=(.cons (.aN 88 (.or (.cons (.at (.lo 37) 88) (.cons (.a6 0) .nil))))
 (.cons (.ite (.or (.cons (.not (.at (.lo 37) 136)) (.cons (.cmp .Gt (.at (.lo 37) 82) (.lo 88)) (.cons (.and (.cons (.cmp .Eq (.at (.lo 37) 82) (.lo 88)) (.cons (.not (.at (.lo 37) 160)) .nil))) .nil)))) (.cons (.exp (.aG (.lo 37) 251 .nil .nil))
 .nil) .nil)
 (.cons (.ite (.cmp .Lt (.at (.lo 37) 82) (.lo 88)) (.cons (.a9 (.lo 37) 160 (.bF aa))
 (.cons (.aN 23 (.bin .Mult (.ks [32]) (.bin .Sub (.lo 88) (.at (.lo 37) 82))))
 (.cons (.a9 (.lo 37) 82 (.lo 88))
 (.cons (.exp (.aG (.at (.lo 37) 97) 73 (.cons (.lo 23) .nil) .nil))
 .nil)))) .nil)
 .nil)))
noncomputable def J1:S:=(.cons (.ite (.cmp .Is (.lo 23) .cu) (.cons (.aN 23 (.at (.lo 37) 224))
 .nil) .nil)
 (.cons (.a9 (.lo 37) 160 (.bF aa))
 (.cons (.a9 (.lo 37) 136 (.bF aa))
 (.cons (.kA (.lo 37) 30 .Add (.a6 1))
 (.cons (.a9 (.lo 37) 82 (.a6 0))
 (.cons (.exp (.aG (.at (.lo 37) 97) 73 (.cons (.lo 23) .nil) .nil))
 .nil))))))
noncomputable def J5:S:=(.cons (.aN 23 (.fmt 0 (.lo 192)))
 (.cons (.exp (.aG (.at (.lo 37) 97) 73 (.cons (.lo 23) .nil) .nil))
 (.cons (.exp (.aG (.lo 37) 251 .nil .nil))
 .nil)))
noncomputable def J4:S:=(.cons (.aN 23 (.u2 173 176))
 (.cons (.exp (.aG (.at (.lo 37) 97) 73 (.cons (.lo 23) .nil) .nil))
 (.cons (.exp (.aG (.lo 37) 251 .nil .nil))
 .nil)))
noncomputable def Cr:S:=(.cons (.aN 54 (.ks []))
 (.cons (.ite (.lo 41) (.cons (.ite (.cmp .In (.co (.lo 41) (.a6 0)) (.ks [32,10,133,8232,8233])) (.cons (.gT 54 .Add (.rq (.at (.lo 37) 168)))
 .nil) .nil)
 (.cons (.ite (.cmp .NotIn (.co (.lo 41) (.neg (.a6 1))) (.ks [10,133,8232,8233])) (.cons (.gT 54 .Add (.ks [45]))
 .nil) (.cons (.ite (.or (.cons (.cmp .Eq (.len (.lo 41)) (.a6 1)) (.cons (.cmp .In (.co (.lo 41) (.neg (.a6 2))) (.ks [10,133,8232,8233])) .nil))) (.cons (.gT 54 .Add (.ks [43]))
 .nil) .nil)
 .nil))
 .nil)) .nil)
 (.cons (.ret (.lo 54))
 .nil)))
noncomputable def Cv:S:=(.cons (.aN 54 (.aG (.lo 37) 296 (.cons (.lo 41) .nil) .nil))
 (.cons (.exp (.aG (.lo 37) 236 (.cons (.bin .Add (.ks [62]) (.lo 54)) (.cons (.bF aa) .nil)) .nil))
 (.cons (.ite (.cmp .Eq (.aK (.lo 54) (.neg (.a6 1)) .no) (.ks [43])) (.cons (.a9 (.lo 37) 151 (.bF aa))
 .nil) .nil)
 (.cons (.exp (.aG (.lo 37) 251 .nil .nil))
 (.cons (.aN 203 (.bF aa))
 (.cons (.aN 95 (.bF ac))
 (.cons (.aN 78 (.bF aa))
 (.cons (.jB [66,9] (.a6 0))
 (.cons (.eT (.cmp .LtE (.lo 9) (.len (.lo 41))) (.cons (.aN 6 .cu)
 (.cons (.ite (.cmp .Lt (.lo 9) (.len (.lo 41))) (.cons (.aN 6 (.co (.lo 41) (.lo 9)))
 .nil) .nil)
 (.cons (.ite (.lo 78) (.cons (.ite (.or (.cons (.cmp .Is (.lo 6) .cu) (.cons (.cmp .NotIn (.lo 6) (.ks [10,133,8232,8233])) .nil))) (.cons (.ite (.and (.cons (.not (.lo 203)) (.cons (.cmp .IsNot (.lo 6) .cu) (.cons (.cmp .NotEq (.lo 6) (.ks [32])) (.cons (.cmp .Eq (.co (.lo 41) (.lo 66)) (.ks [10])) .nil))))) (.cons (.exp (.aG (.lo 37) 251 .nil .nil))
 .nil) .nil)
 (.cons (.aN 203 (.cmp .Eq (.lo 6) (.ks [32])))
 (.cons (.fr 5 (.aK (.lo 41) (.lo 66) (.lo 9)) (.cons (.ite (.cmp .Eq (.lo 5) (.ks [10])) (.cons (.exp (.aG (.lo 37) 251 .nil .nil))
 .nil) (.cons (.exp (.aG (.lo 37) 251 (.cons (.lo 5) .nil) .nil))
 .nil))
 .nil))
 (.cons (.ite (.cmp .IsNot (.lo 6) .cu) (.cons (.exp (.aG (.lo 37) 194 .nil .nil))
 .nil) .nil)
 (.cons (.aN 66 (.lo 9))
 .nil))))) .nil)
 .nil) (.cons (.ite (.lo 95) (.cons (.ite (.cmp .NotEq (.lo 6) (.ks [32])) (.cons (.ite (.and (.cons (.cmp .Eq (.bin .Add (.lo 66) (.a6 1)) (.lo 9)) (.cons (.cmp .Gt (.at (.lo 37) 82) (.at (.lo 37) 144)) .nil))) .bK (.cons (.aN 23 (.aK (.lo 41) (.lo 66) (.lo 9)))
 (.cons (.kA (.lo 37) 82 .Add (.len (.lo 23)))
 (.cons (.exp (.aG (.at (.lo 37) 97) 73 (.cons (.lo 23) .nil) .nil))
 .nil))))
 (.cons (.aN 66 (.lo 9))
 .nil)) .nil)
 .nil) (.cons (.ite (.or (.cons (.cmp .Is (.lo 6) .cu) (.cons (.cmp .In (.lo 6) (.ks [32,10,133,8232,8233])) .nil))) (.cons (.aN 23 (.aK (.lo 41) (.lo 66) (.lo 9)))
 (.cons (.kA (.lo 37) 82 .Add (.len (.lo 23)))
 (.cons (.exp (.aG (.at (.lo 37) 97) 73 (.cons (.lo 23) .nil) .nil))
 (.cons (.ite (.cmp .Is (.lo 6) .cu) (.cons (.exp (.aG (.lo 37) 251 .nil .nil))
 .nil) .nil)
 (.cons (.aN 66 (.lo 9))
 .nil))))) .nil)
 .nil))
 .nil))
 (.cons (.ite (.cmp .IsNot (.lo 6) .cu) (.cons (.aN 78 (.cmp .In (.lo 6) (.ks [10,133,8232,8233])))
 (.cons (.aN 95 (.cmp .Eq (.lo 6) (.ks [32])))
 .nil)) .nil)
 (.cons (.gT 9 .Add (.a6 1))
 .nil))))))
 .nil)))))))))
noncomputable def Cw:S:=(.cons (.aN 54 (.aG (.lo 37) 296 (.cons (.lo 41) .nil) .nil))
 (.cons (.exp (.aG (.lo 37) 236 (.cons (.bin .Add (.ks [124]) (.lo 54)) (.cons (.bF aa) .nil)) .nil))
 (.cons (.ite (.cmp .Eq (.aK (.lo 54) (.neg (.a6 1)) .no) (.ks [43])) (.cons (.a9 (.lo 37) 151 (.bF aa))
 .nil) .nil)
 (.cons (.exp (.aG (.lo 37) 251 .nil .nil))
 (.cons (.aN 78 (.bF aa))
 (.cons (.jB [66,9] (.a6 0))
 (.cons (.eT (.cmp .LtE (.lo 9) (.len (.lo 41))) (.cons (.aN 6 .cu)
 (.cons (.ite (.cmp .Lt (.lo 9) (.len (.lo 41))) (.cons (.aN 6 (.co (.lo 41) (.lo 9)))
 .nil) .nil)
 (.cons (.ite (.lo 78) (.cons (.ite (.or (.cons (.cmp .Is (.lo 6) .cu) (.cons (.cmp .NotIn (.lo 6) (.ks [10,133,8232,8233])) .nil))) (.cons (.fr 5 (.aK (.lo 41) (.lo 66) (.lo 9)) (.cons (.ite (.cmp .Eq (.lo 5) (.ks [10])) (.cons (.exp (.aG (.lo 37) 251 .nil .nil))
 .nil) (.cons (.exp (.aG (.lo 37) 251 (.cons (.lo 5) .nil) .nil))
 .nil))
 .nil))
 (.cons (.ite (.cmp .IsNot (.lo 6) .cu) (.cons (.exp (.aG (.lo 37) 194 .nil .nil))
 .nil) .nil)
 (.cons (.aN 66 (.lo 9))
 .nil))) .nil)
 .nil) (.cons (.ite (.or (.cons (.cmp .Is (.lo 6) .cu) (.cons (.cmp .In (.lo 6) (.ks [10,133,8232,8233])) .nil))) (.cons (.aN 23 (.aK (.lo 41) (.lo 66) (.lo 9)))
 (.cons (.exp (.aG (.at (.lo 37) 97) 73 (.cons (.lo 23) .nil) .nil))
 (.cons (.ite (.cmp .Is (.lo 6) .cu) (.cons (.exp (.aG (.lo 37) 251 .nil .nil))
 .nil) .nil)
 (.cons (.aN 66 (.lo 9))
 .nil)))) .nil)
 .nil))
 (.cons (.ite (.cmp .IsNot (.lo 6) .cu) (.cons (.aN 78 (.cmp .In (.lo 6) (.ks [10,133,8232,8233])))
 .nil) .nil)
 (.cons (.gT 9 .Add (.a6 1))
 .nil))))))
 .nil)))))))
noncomputable def Km:S:=(.cons (.a9 (.lo 37) 36 (.cell 15 .nil))
 .nil)
noncomputable def Ko:S:=(.cons (.exp (.cG (.at (.lo 37) 36) (.lo 23)))
 .nil)
noncomputable def Kn:S:=(.cons (.ret (.join (.ks []) (.at (.lo 37) 36)))
 .nil)
noncomputable def KX:S:=(.cons (.a9 (.lo 37) 158 (.lo 158))
 (.cons (.a9 (.lo 37) 117 (.lo 117))
 .nil))
noncomputable def JF:S:=(.cons (.a9 (.lo 37) 33 (.lo 33))
 (.cons (.a9 (.lo 37) 71 (.lo 71))
 (.cons (.a9 (.lo 37) 158 (.lo 158))
 (.cons (.a9 (.lo 37) 117 (.lo 117))
 .nil))))
noncomputable def KW:S:=(.cons (.a9 (.lo 37) 158 (.lo 158))
 (.cons (.a9 (.lo 37) 117 (.lo 117))
 (.cons (.a9 (.lo 37) 116 (.lo 116))
 .nil)))
noncomputable def Kr:S:=(.cons (.a9 (.lo 37) 71 (.lo 71))
 (.cons (.a9 (.lo 37) 63 (.lo 63))
 (.cons (.a9 (.lo 37) 158 (.lo 158))
 (.cons (.a9 (.lo 37) 117 (.lo 117))
 (.cons (.a9 (.lo 37) 68 (.lo 68))
 .nil)))))
noncomputable def KY:S:=(.cons (.ret (.or (.cons (.cmp .In (.lo 6) (.ks [9,10,13,133])) (.cons (.fy .LtE .LtE (.ks [32]) (.lo 6) (.ks [126])) (.cons (.fy .LtE .LtE (.ks [160]) (.lo 6) (.ks [55295])) (.cons (.fy .LtE .LtE (.ks [57344]) (.lo 6) (.ks [65533])) (.cons (.fy .LtE .LtE (.ks [65536]) (.lo 6) (.ks [1114111])) .nil)))))))
 .nil)
noncomputable def Ki:S:=(.cons (.a9 (.lo 37) 33 .cu)
 (.cons (.a9 (.lo 37) 97 .cu)
 (.cons (.a9 (.lo 37) 218 (.a6 0))
 (.cons (.a9 (.lo 37) 10 (.bF aa))
 (.cons (.a9 (.lo 37) 79 (.ks []))
 (.cons (.a9 (.lo 37) 109 (.a6 0))
 (.cons (.a9 (.lo 37) 155 .cu)
 (.cons (.a9 (.lo 37) 156 .cu)
 (.cons (.a9 (.lo 37) 116 .cu)
 (.cons (.a9 (.lo 37) 55 (.a6 0))
 (.cons (.a9 (.lo 37) 30 (.a6 0))
 (.cons (.a9 (.lo 37) 82 (.a6 0))
 (.cons (.ite (.vo (.lo 97)) (.cons (.a9 (.lo 37) 33 (.ks [60,117,110,105,99,111,100,101,32,115,116,114,105,110,103,62]))
 (.cons (.exp (.aG (.lo 37) 226 (.cons (.lo 97) .nil) .nil))
 (.cons (.a9 (.lo 37) 79 (.bin .Add (.lo 97) (.ks [0])))
 .nil))) .nil)
 .nil)))))))))))))
noncomputable def Kj:S:=(.cons (.try (.cons (.ret (.co (.at (.lo 37) 79) (.bin .Add (.at (.lo 37) 109) (.lo 55))))
 .nil))
 .nil)
noncomputable def Kk:S:=(.cons (.ite (.cmp .GtE (.bin .Add (.at (.lo 37) 109) (.lo 89)) (.len (.at (.lo 37) 79))) (.cons (.exp (.aG (.lo 37) 99 (.cons (.lo 89) .nil) .nil))
 .nil) .nil)
 (.cons (.ret (.aK (.at (.lo 37) 79) (.at (.lo 37) 109) (.bin .Add (.at (.lo 37) 109) (.lo 89))))
 .nil))
noncomputable def Cz:S:=(.cons (.ite (.cmp .GtE (.bin .Add (.bin .Add (.at (.lo 37) 109) (.lo 89)) (.a6 1)) (.len (.at (.lo 37) 79))) (.cons (.exp (.aG (.lo 37) 99 (.cons (.bin .Add (.lo 89) (.a6 1)) .nil) .nil))
 .nil) .nil)
 (.cons (.eT (.lo 89) (.cons (.aN 6 (.co (.at (.lo 37) 79) (.at (.lo 37) 109)))
 (.cons (.kA (.lo 37) 109 .Add (.a6 1))
 (.cons (.kA (.lo 37) 55 .Add (.a6 1))
 (.cons (.ite (.or (.cons (.cmp .In (.lo 6) (.ks [10,133,8232,8233])) (.cons (.and (.cons (.cmp .Eq (.lo 6) (.ks [13])) (.cons (.cmp .NotEq (.co (.at (.lo 37) 79) (.at (.lo 37) 109)) (.ks [10])) .nil))) .nil))) (.cons (.kA (.lo 37) 30 .Add (.a6 1))
 (.cons (.a9 (.lo 37) 82 (.a6 0))
 .nil)) (.cons (.ite (.cmp .NotEq (.lo 6) (.ks [65279])) (.cons (.kA (.lo 37) 82 .Add (.a6 1))
 .nil) .nil)
 .nil))
 (.cons (.gT 89 .Sub (.a6 1))
 .nil))))))
 .nil))
noncomputable def Kh:S:=(.cons (.ite (.cmp .Is (.at (.lo 37) 97) .cu) (.cons (.ret (.call (.gl 20) (.cons (.at (.lo 37) 33) (.cons (.at (.lo 37) 55) (.cons (.at (.lo 37) 30) (.cons (.at (.lo 37) 82) (.cons (.at (.lo 37) 79) (.cons (.at (.lo 37) 109) .nil)))))) .nil))
 .nil) .bK)
 .nil)
noncomputable def Cy:S:=(.cons (.sD 66 130 (.lo 23) (.cons (.ite (.not (.call (.gl 197) (.cons (.lo 130) .nil) .nil)) .bK .nil)
 .nil))
 .nil)
noncomputable def Kl:S:=(.cons (.ite (.cmp .Is (.at (.lo 37) 155) .cu) (.cons .rl
 .nil) .nil)
 .nil)
noncomputable def qv:S:=(.cons (.exp (.mc 2029 1190 (.cons (.lo 97) .nil)))
 (.cons (.a9 (.lo 37) 24 (.bF ac))
 (.cons (.a9 (.lo 37) 145 (.a6 0))
 (.cons (.a9 (.lo 37) 98 (.cell 31 .nil))
 (.cons (.exp (.aG (.lo 37) 266 .nil .nil))
 (.cons (.a9 (.lo 37) 191 (.a6 0))
 (.cons (.a9 (.lo 37) 88 (.neg (.a6 1)))
 (.cons (.a9 (.lo 37) 107 (.cell 32 .nil))
 (.cons (.a9 (.lo 37) 243 (.bF aa))
 (.cons (.a9 (.lo 37) 294 (.o8 33))
 .nil))))))))))
noncomputable def CA:S:=(.cons (.eT (.aG (.lo 37) 248 .nil .nil) (.cons (.exp (.aG (.lo 37) 256 .nil .nil))
 .nil))
 (.cons (.ite (.at (.lo 37) 98) (.cons (.ite (.not (.lo 102)) .bK .nil)
 (.cons (.ite (.cmp .In (.at (.co (.at (.lo 37) 98) (.a6 0)) 7) (.lo 102)) (.cons (.ret (.bF aa))
 .nil) .nil)
 .nil)) .nil)
 (.cons (.ret (.bF ac))
 .nil)))
noncomputable def KL:S:=(.cons (.eT (.aG (.lo 37) 248 .nil .nil) (.cons (.exp (.aG (.lo 37) 256 .nil .nil))
 .nil))
 (.cons (.ite (.at (.lo 37) 98) (.cons (.ret (.co (.at (.lo 37) 98) (.a6 0)))
 .nil) .bK)
 .nil))
noncomputable def KH:S:=(.cons (.eT (.aG (.lo 37) 248 .nil .nil) .bK)
 (.cons (.ite (.at (.lo 37) 98) (.cons (.kA (.lo 37) 191 .Add (.a6 1))
 (.cons (.ret (.ri (.at (.lo 37) 98)))
 .nil)) .nil)
 .nil))
noncomputable def KI:S:=(.cons (.ite (.at (.lo 37) 24) (.cons (.ret (.bF ac))
 .nil) .nil)
 (.cons (.ite (.not (.at (.lo 37) 98)) (.cons (.ret (.bF aa))
 .nil) .nil)
 (.cons (.exp (.aG (.lo 37) 314 .nil .nil))
 (.cons (.ite (.cmp .Eq (.aG (.lo 37) 306 .nil .nil) (.at (.lo 37) 191)) .bK .nil)
 .nil))))
noncomputable def KD:S:=(.cons (.exp (.aG (.lo 37) 272 .nil .nil))
 (.cons (.exp (.aG (.lo 37) 314 .nil .nil))
 (.cons (.exp (.aG (.lo 37) 204 (.cons (.at (.lo 37) 82) .nil) .nil))
 (.cons (.aN 6 (.aG (.lo 37) 34 .nil .nil))
 (.cons (.ite (.cmp .Eq (.lo 6) (.ks [0])) (.cons (.ret (.aG (.lo 37) 245 .nil .nil))
 .nil) .nil)
 (.cons (.ite (.and (.cons (.cmp .Eq (.lo 6) (.ks [37])) (.cons (.aG (.lo 37) 225 .nil .nil) .nil))) (.cons (.ret (.aG (.lo 37) 227 .nil .nil))
 .nil) .nil)
 (.cons (.ite (.and (.cons (.cmp .Eq (.lo 6) (.ks [45])) (.cons (.aG (.lo 37) 289 .nil .nil) .nil))) (.cons (.ret (.aG (.lo 37) 292 .nil .nil))
 .nil) .nil)
 (.cons (.ite (.and (.cons (.cmp .Eq (.lo 6) (.ks [46])) (.cons (.aG (.lo 37) 263 .nil .nil) .nil))) (.cons (.ret (.aG (.lo 37) 265 .nil .nil))
 .nil) .nil)
 (.cons (.ite (.cmp .Eq (.lo 6) (.ks [91])) .bK .nil)
 (.cons (.ite (.cmp .Eq (.lo 6) (.ks [123])) .bK .nil)
 (.cons (.ite (.cmp .Eq (.lo 6) (.ks [93])) .bK .nil)
 (.cons (.ite (.cmp .Eq (.lo 6) (.ks [125])) .bK .nil)
 (.cons (.ite (.cmp .Eq (.lo 6) (.ks [44])) .bK .nil)
 (.cons (.ite (.and (.cons (.cmp .Eq (.lo 6) (.ks [45])) (.cons (.aG (.lo 37) 255 .nil .nil) .nil))) .bK .nil)
 (.cons (.ite (.and (.cons (.cmp .Eq (.lo 6) (.ks [63])) (.cons (.aG (.lo 37) 131 .nil .nil) .nil))) .bK .nil)
 (.cons (.ite (.and (.cons (.cmp .Eq (.lo 6) (.ks [58])) (.cons (.aG (.lo 37) 171 .nil .nil) .nil))) .bK .nil)
 (.cons (.ite (.cmp .Eq (.lo 6) (.ks [42])) .bK .nil)
 (.cons (.ite (.cmp .Eq (.lo 6) (.ks [38])) .bK .nil)
 (.cons (.ite (.cmp .Eq (.lo 6) (.ks [33])) .bK .nil)
 (.cons (.ite (.and (.cons (.cmp .Eq (.lo 6) (.ks [124])) (.cons (.not (.at (.lo 37) 145)) .nil))) (.cons (.ret (.aG (.lo 37) 201 .nil .nil))
 .nil) .nil)
 (.cons (.ite (.and (.cons (.cmp .Eq (.lo 6) (.ks [62])) (.cons (.not (.at (.lo 37) 145)) .nil))) (.cons (.ret (.aG (.lo 37) 185 .nil .nil))
 .nil) .nil)
 .bK)))))))))))))))))))))
noncomputable def KJ:S:=(.cons (.aN 246 .cu)
 (.cons (.fr 57 (.at (.lo 37) 294) .bK)
 (.cons (.ret (.lo 246))
 .nil)))
noncomputable def KU:S:=(.cons (.u4 57 (.at (.lo 37) 294) .bK)
 .nil)
noncomputable def KN:S:=(.cons (.ite (.cmp .In (.at (.lo 37) 145) (.at (.lo 37) 294)) .bK .nil)
 .nil)
noncomputable def xX:S:=(.cons (.ite (.at (.lo 37) 145) .bK .nil)
 (.cons (.eT (.cmp .Gt (.at (.lo 37) 88) (.lo 82)) .bK)
 .nil))
noncomputable def KG:S:=(.cons (.aN 32 (.aG (.lo 37) 119 .nil .nil))
 (.cons (.exp (.cG (.at (.lo 37) 98) (.call (.gl 241) (.cons (.lo 32) (.cons (.lo 32) .nil)) (.e0 116 (.at (.lo 37) 116) .nil))))
 .nil))
noncomputable def KE:S:=(.cons (.exp (.aG (.lo 37) 204 (.cons (.neg (.a6 1)) .nil) .nil))
 (.cons (.exp (.aG (.lo 37) 312 .nil .nil))
 (.cons (.a9 (.lo 37) 243 (.bF ac))
 (.cons (.a9 (.lo 37) 294 (.o8 33))
 (.cons (.aN 32 (.aG (.lo 37) 119 .nil .nil))
 (.cons (.exp (.cG (.at (.lo 37) 98) (.call (.gl 210) (.cons (.lo 32) (.cons (.lo 32) .nil)) .nil)))
 (.cons (.a9 (.lo 37) 24 (.bF aa))
 .nil)))))))
noncomputable def Kw:S:=(.cons (.exp (.aG (.lo 37) 204 (.cons (.neg (.a6 1)) .nil) .nil))
 (.cons (.exp (.aG (.lo 37) 312 .nil .nil))
 (.cons (.a9 (.lo 37) 243 (.bF ac))
 (.cons (.exp (.cG (.at (.lo 37) 98) (.aG (.lo 37) 217 .nil .nil)))
 .nil))))
noncomputable def Kz:S:=(.cons (.exp (.aG (.lo 37) 305 (.cons (.gl 261) .nil) .nil))
 .nil)
noncomputable def Kx:S:=(.cons (.exp (.aG (.lo 37) 305 (.cons (.gl 238) .nil) .nil))
 .nil)
noncomputable def Ky:S:=(.cons (.exp (.aG (.lo 37) 204 (.cons (.neg (.a6 1)) .nil) .nil))
 (.cons (.exp (.aG (.lo 37) 312 .nil .nil))
 (.cons (.a9 (.lo 37) 243 (.bF ac))
 (.cons (.aN 158 (.aG (.lo 37) 119 .nil .nil))
 (.cons (.exp (.aG (.lo 37) 104 (.cons (.a6 3) .nil) .nil))
 (.cons (.aN 117 (.aG (.lo 37) 119 .nil .nil))
 (.cons (.exp (.cG (.at (.lo 37) 98) (.call (.lo 141) (.cons (.lo 158) (.cons (.lo 117) .nil)) .nil)))
 .nil)))))))
noncomputable def KC:S:=(.cons (.exp (.aG (.lo 37) 264 .nil (.e0 68 (.ks [124]) .nil)))
 .nil)
noncomputable def KA:S:=(.cons (.exp (.aG (.lo 37) 264 .nil (.e0 68 (.ks [62]) .nil)))
 .nil)
noncomputable def Kv:S:=(.cons (.a9 (.lo 37) 243 (.bF aa))
 (.cons (.exp (.aG (.lo 37) 312 .nil .nil))
 (.cons (.exp (.cG (.at (.lo 37) 98) (.aG (.lo 37) 258 (.cons (.lo 68) .nil) .nil)))
 .nil)))
noncomputable def Ks:S:=(.cons (.ite (.cmp .Eq (.at (.lo 37) 82) (.a6 0)) (.cons (.ret (.bF aa))
 .nil) .nil)
 .nil)
noncomputable def Ku:S:=(.cons (.ite (.cmp .Eq (.at (.lo 37) 82) (.a6 0)) (.cons (.ite (.and (.cons (.cmp .Eq (.aG (.lo 37) 91 (.cons (.a6 3) .nil) .nil) (.ks [45,45,45])) (.cons (.cmp .In (.aG (.lo 37) 34 (.cons (.a6 3) .nil) .nil) (.ks [0,32,9,13,10,133,8232,8233])) .nil))) (.cons (.ret (.bF aa))
 .nil) .nil)
 .nil) .nil)
 .nil)
noncomputable def Kt:S:=(.cons (.ite (.cmp .Eq (.at (.lo 37) 82) (.a6 0)) (.cons (.ite (.and (.cons (.cmp .Eq (.aG (.lo 37) 91 (.cons (.a6 3) .nil) .nil) (.ks [46,46,46])) (.cons (.cmp .In (.aG (.lo 37) 34 (.cons (.a6 3) .nil) .nil) (.ks [0,32,9,13,10,133,8232,8233])) .nil))) (.cons (.ret (.bF aa))
 .nil) .nil)
 .nil) .nil)
 .nil)
noncomputable def xU:S:=(.cons (.ite (.and (.cons (.cmp .Eq (.at (.lo 37) 55) (.a6 0)) (.cons (.cmp .Eq (.aG (.lo 37) 34 .nil .nil) (.ks [65279])) .nil))) .bK .nil)
 (.cons (.aN 53 (.bF ac))
 (.cons (.eT (.not (.lo 53)) (.cons (.eT (.cmp .Eq (.aG (.lo 37) 34 .nil .nil) (.ks [32])) (.cons (.exp (.aG (.lo 37) 104 .nil .nil))
 .nil))
 (.cons (.ite (.cmp .Eq (.aG (.lo 37) 34 .nil .nil) (.ks [35])) .bK .nil)
 (.cons (.ite (.aG (.lo 37) 234 .nil .nil) (.cons (.ite (.not (.at (.lo 37) 145)) (.cons (.a9 (.lo 37) 243 (.bF aa))
 .nil) .nil)
 .nil) (.cons (.aN 53 (.bF aa))
 .nil))
 .nil))))
 .nil)))
noncomputable def KP:S:=(.cons (.aN 158 (.aG (.lo 37) 119 .nil .nil))
 (.cons (.exp (.aG (.lo 37) 104 .nil .nil))
 (.cons (.aN 33 (.aG (.lo 37) 284 (.cons (.lo 158) .nil) .nil))
 (.cons (.aN 71 .cu)
 (.cons (.ite (.cmp .Eq (.lo 33) (.ks [89,65,77,76])) (.cons (.aN 71 (.aG (.lo 37) 311 (.cons (.lo 158) .nil) .nil))
 (.cons (.aN 117 (.aG (.lo 37) 119 .nil .nil))
 .nil)) (.cons (.ite (.cmp .Eq (.lo 33) (.ks [84,65,71])) (.cons (.aN 71 (.aG (.lo 37) 308 (.cons (.lo 158) .nil) .nil))
 (.cons (.aN 117 (.aG (.lo 37) 119 .nil .nil))
 .nil)) .bK)
 .nil))
 (.cons (.exp (.aG (.lo 37) 316 (.cons (.lo 158) .nil) .nil))
 (.cons (.ret (.call (.gl 206) (.cons (.lo 33) (.cons (.lo 71) (.cons (.lo 158) (.cons (.lo 117) .nil)))) .nil))
 .nil)))))))
noncomputable def xQ:S:=(.cons (.aN 89 (.a6 0))
 (.cons (.aN 6 (.aG (.lo 37) 34 (.cons (.lo 89) .nil) .nil))
 (.cons (.eT (.or (.cons (.fy .LtE .LtE (.ks [48]) (.lo 6) (.ks [57])) (.cons (.fy .LtE .LtE (.ks [65]) (.lo 6) (.ks [90])) (.cons (.fy .LtE .LtE (.ks [97]) (.lo 6) (.ks [122])) (.cons (.cmp .In (.lo 6) (.ks [45,95])) .nil))))) (.cons (.gT 89 .Add (.a6 1))
 (.cons (.aN 6 (.aG (.lo 37) 34 (.cons (.lo 89) .nil) .nil))
 .nil)))
 (.cons (.ite (.not (.lo 89)) .bK .nil)
 (.cons (.aN 71 (.aG (.lo 37) 91 (.cons (.lo 89) .nil) .nil))
 (.cons (.exp (.aG (.lo 37) 104 (.cons (.lo 89) .nil) .nil))
 (.cons (.aN 6 (.aG (.lo 37) 34 .nil .nil))
 (.cons (.ite (.cmp .NotIn (.lo 6) (.ks [0,32,13,10,133,8232,8233])) .bK .nil)
 (.cons (.ret (.lo 71))
 .nil)))))))))
noncomputable def xW:S:=(.cons (.eT (.cmp .Eq (.aG (.lo 37) 34 .nil .nil) (.ks [32])) (.cons (.exp (.aG (.lo 37) 104 .nil .nil))
 .nil))
 (.cons (.aN 59 (.aG (.lo 37) 313 (.cons (.lo 158) .nil) .nil))
 (.cons (.ite (.cmp .NotEq (.aG (.lo 37) 34 .nil .nil) (.ks [46])) .bK .nil)
 (.cons (.exp (.aG (.lo 37) 104 .nil .nil))
 (.cons (.aN 61 (.aG (.lo 37) 313 (.cons (.lo 158) .nil) .nil))
 (.cons (.ite (.cmp .NotIn (.aG (.lo 37) 34 .nil .nil) (.ks [0,32,13,10,133,8232,8233])) .bK .nil)
 (.cons (.ret (.tup (.cons (.lo 59) (.cons (.lo 61) .nil))))
 .nil)))))))
noncomputable def xV:S:=(.cons (.aN 6 (.aG (.lo 37) 34 .nil .nil))
 (.cons (.ite (.not (.fy .LtE .LtE (.ks [48]) (.lo 6) (.ks [57]))) .bK .nil)
 (.cons (.aN 89 (.a6 0))
 (.cons (.eT (.fy .LtE .LtE (.ks [48]) (.aG (.lo 37) 34 (.cons (.lo 89) .nil) .nil) (.ks [57])) (.cons (.gT 89 .Add (.a6 1))
 .nil))
 (.cons (.aN 71 (.sT (.aG (.lo 37) 91 (.cons (.lo 89) .nil) .nil)))
 (.cons (.exp (.aG (.lo 37) 104 (.cons (.lo 89) .nil) .nil))
 (.cons (.ret (.lo 71))
 .nil)))))))
noncomputable def xR:S:=(.cons (.eT (.cmp .Eq (.aG (.lo 37) 34 .nil .nil) (.ks [32])) (.cons (.exp (.aG (.lo 37) 104 .nil .nil))
 .nil))
 (.cons (.aN 87 (.aG (.lo 37) 309 (.cons (.lo 158) .nil) .nil))
 (.cons (.eT (.cmp .Eq (.aG (.lo 37) 34 .nil .nil) (.ks [32])) (.cons (.exp (.aG (.lo 37) 104 .nil .nil))
 .nil))
 (.cons (.aN 91 (.aG (.lo 37) 310 (.cons (.lo 158) .nil) .nil))
 (.cons (.ret (.tup (.cons (.lo 87) (.cons (.lo 91) .nil))))
 .nil)))))
noncomputable def KR:S:=(.cons (.aN 71 (.aG (.lo 37) 235 (.cons (.ks [100,105,114,101,99,116,105,118,101]) (.cons (.lo 158) .nil)) .nil))
 (.cons (.aN 6 (.aG (.lo 37) 34 .nil .nil))
 (.cons (.ite (.cmp .NotEq (.lo 6) (.ks [32])) .bK .nil)
 (.cons (.ret (.lo 71))
 .nil))))
noncomputable def KS:S:=(.cons (.aN 71 (.aG (.lo 37) 189 (.cons (.ks [100,105,114,101,99,116,105,118,101]) (.cons (.lo 158) .nil)) .nil))
 (.cons (.aN 6 (.aG (.lo 37) 34 .nil .nil))
 (.cons (.ite (.cmp .NotIn (.lo 6) (.ks [0,32,13,10,133,8232,8233])) .bK .nil)
 (.cons (.ret (.lo 71))
 .nil))))
noncomputable def xP:S:=(.cons (.eT (.cmp .Eq (.aG (.lo 37) 34 .nil .nil) (.ks [32])) .bK)
 (.cons (.ite (.cmp .Eq (.aG (.lo 37) 34 .nil .nil) (.ks [35])) .bK .nil)
 (.cons (.aN 6 (.aG (.lo 37) 34 .nil .nil))
 (.cons (.ite (.cmp .NotIn (.lo 6) (.ks [0,13,10,133,8232,8233])) .bK .nil)
 (.cons (.exp (.aG (.lo 37) 234 .nil .nil))
 .nil)))))
noncomputable def xM:S:=(.cons (.ite (.cmp .Eq (.lo 68) (.ks [62])) (.cons (.aN 86 (.bF aa))
 .nil) (.cons (.aN 86 (.bF ac))
 .nil))
 (.cons (.aN 80 (.cell 100 .nil))
 (.cons (.aN 158 (.aG (.lo 37) 119 .nil .nil))
 (.cons (.exp (.aG (.lo 37) 104 .nil .nil))
 (.cons (.ast [115,135] (.aG (.lo 37) 317 (.cons (.lo 158) .nil) .nil))
 (.cons (.exp (.aG (.lo 37) 320 (.cons (.lo 158) .nil) .nil))
 (.cons (.aN 150 (.bin .Add (.at (.lo 37) 88) (.a6 1)))
 (.cons (.ite (.cmp .Lt (.lo 150) (.a6 1)) (.cons (.aN 150 (.a6 1))
 .nil) .nil)
 (.cons (.ite (.cmp .Is (.lo 135) .cu) (.cons (.ast [78,149,117] (.aG (.lo 37) 319 .nil .nil))
 (.cons (.aN 88 (.mZ (.lo 150) (.lo 149)))
 .nil)) (.cons (.aN 88 (.bin .Sub (.bin .Add (.lo 150) (.lo 135)) (.a6 1)))
 (.cons (.ast [78,117] (.aG (.lo 37) 307 (.cons (.lo 88) .nil) .nil))
 .nil)))
 (.cons (.aN 148 (.ks []))
 (.cons (.eT (.and (.cons (.cmp .Eq (.at (.lo 37) 82) (.lo 88)) (.cons (.cmp .NotEq (.aG (.lo 37) 34 .nil .nil) (.ks [0])) .nil))) (.cons (.exp (.ext (.lo 80) (.lo 78)))
 (.cons (.aN 257 (.cmp .NotIn (.aG (.lo 37) 34 .nil .nil) (.ks [32,9])))
 (.cons (.aN 89 (.a6 0))
 (.cons (.eT (.cmp .NotIn (.aG (.lo 37) 34 (.cons (.lo 89) .nil) .nil) (.ks [0,13,10,133,8232,8233])) (.cons (.gT 89 .Add (.a6 1))
 .nil))
 (.cons (.exp (.cG (.lo 80) (.aG (.lo 37) 91 (.cons (.lo 89) .nil) .nil)))
 (.cons (.exp (.aG (.lo 37) 104 (.cons (.lo 89) .nil) .nil))
 (.cons (.aN 148 (.aG (.lo 37) 234 .nil .nil))
 (.cons (.ast [78,117] (.aG (.lo 37) 307 (.cons (.lo 88) .nil) .nil))
 (.cons (.ite (.and (.cons (.cmp .Eq (.at (.lo 37) 82) (.lo 88)) (.cons (.cmp .NotEq (.aG (.lo 37) 34 .nil .nil) (.ks [0])) .nil))) (.cons (.ite (.and (.cons (.lo 86) (.cons (.cmp .Eq (.lo 148) (.ks [10])) (.cons (.lo 257) (.cons (.cmp .NotIn (.aG (.lo 37) 34 .nil .nil) (.ks [32,9])) .nil))))) (.cons (.ite (.not (.lo 78)) .bK .nil)
 .nil) (.cons (.exp (.cG (.lo 80) (.lo 148)))
 .nil))
 .nil) (.cons .brk
 .nil))
 .nil))))))))))
 (.cons (.ite (.cmp .IsNot (.lo 115) (.bF ac)) (.cons (.exp (.cG (.lo 80) (.lo 148)))
 .nil) .nil)
 (.cons (.ite (.cmp .Is (.lo 115) (.bF aa)) (.cons (.exp (.ext (.lo 80) (.lo 78)))
 .nil) .nil)
 (.cons (.ret (.call (.gl 165) (.cons (.join (.ks []) (.lo 80)) (.cons (.bF ac) (.cons (.lo 158) (.cons (.lo 117) (.cons (.lo 68) .nil))))) .nil))
 .nil))))))))))))))
noncomputable def KO:S:=(.cons (.aN 115 .cu)
 (.cons (.aN 135 .cu)
 (.cons (.aN 6 (.aG (.lo 37) 34 .nil .nil))
 (.cons (.ite (.cmp .In (.lo 6) (.ks [43,45])) (.cons (.ite (.cmp .Eq (.lo 6) (.ks [43])) (.cons (.aN 115 (.bF aa))
 .nil) (.cons (.aN 115 (.bF ac))
 .nil))
 (.cons (.exp (.aG (.lo 37) 104 .nil .nil))
 (.cons (.aN 6 (.aG (.lo 37) 34 .nil .nil))
 (.cons (.ite (.cmp .In (.lo 6) (.ks [48,49,50,51,52,53,54,55,56,57])) .bK .nil)
 .nil)))) (.cons (.ite (.cmp .In (.lo 6) (.ks [48,49,50,51,52,53,54,55,56,57])) (.cons (.aN 135 (.sT (.lo 6)))
 (.cons (.ite (.cmp .Eq (.lo 135) (.a6 0)) .bK .nil)
 (.cons (.exp (.aG (.lo 37) 104 .nil .nil))
 (.cons (.aN 6 (.aG (.lo 37) 34 .nil .nil))
 (.cons (.ite (.cmp .In (.lo 6) (.ks [43,45])) (.cons (.ite (.cmp .Eq (.lo 6) (.ks [43])) (.cons (.aN 115 (.bF aa))
 .nil) (.cons (.aN 115 (.bF ac))
 .nil))
 (.cons (.exp (.aG (.lo 37) 104 .nil .nil))
 .nil)) .nil)
 .nil))))) .nil)
 .nil))
 (.cons (.aN 6 (.aG (.lo 37) 34 .nil .nil))
 (.cons (.ite (.cmp .NotIn (.lo 6) (.ks [0,32,13,10,133,8232,8233])) .bK .nil)
 (.cons (.ret (.tup (.cons (.lo 115) (.cons (.lo 135) .nil))))
 .nil)))))))
noncomputable def xN:S:=(.cons (.eT (.cmp .Eq (.aG (.lo 37) 34 .nil .nil) (.ks [32])) .bK)
 (.cons (.ite (.cmp .Eq (.aG (.lo 37) 34 .nil .nil) (.ks [35])) .bK .nil)
 (.cons (.aN 6 (.aG (.lo 37) 34 .nil .nil))
 (.cons (.ite (.cmp .NotIn (.lo 6) (.ks [0,13,10,133,8232,8233])) .bK .nil)
 (.cons (.exp (.aG (.lo 37) 234 .nil .nil))
 .nil)))))
noncomputable def xO:S:=(.cons (.aN 80 (.cell 100 .nil))
 (.cons (.aN 149 (.a6 0))
 (.cons (.aN 117 (.aG (.lo 37) 119 .nil .nil))
 (.cons (.eT (.cmp .In (.aG (.lo 37) 34 .nil .nil) (.ks [32,13,10,133,8232,8233])) (.cons (.ite (.cmp .NotEq (.aG (.lo 37) 34 .nil .nil) (.ks [32])) .bK (.cons (.exp (.aG (.lo 37) 104 .nil .nil))
 (.cons (.ite (.cmp .Gt (.at (.lo 37) 82) (.lo 149)) (.cons (.aN 149 (.at (.lo 37) 82))
 .nil) .nil)
 .nil)))
 .nil))
 (.cons (.ret (.tup (.cons (.ph (.lo 80)) (.cons (.lo 149) (.cons (.lo 117) .nil)))))
 .nil)))))
noncomputable def sj:S:=(.cons (.aN 80 (.cell 100 .nil))
 (.cons (.aN 117 (.aG (.lo 37) 119 .nil .nil))
 (.cons (.eT (.and (.cons (.cmp .Lt (.at (.lo 37) 82) (.lo 88)) (.cons (.cmp .Eq (.aG (.lo 37) 34 .nil .nil) (.ks [32])) .nil))) (.cons (.exp (.aG (.lo 37) 104 .nil .nil))
 .nil))
 (.cons (.eT (.cmp .In (.aG (.lo 37) 34 .nil .nil) (.ks [13,10,133,8232,8233])) (.cons (.exp (.cG (.lo 80) (.aG (.lo 37) 234 .nil .nil)))
 (.cons (.aN 117 (.aG (.lo 37) 119 .nil .nil))
 (.cons (.eT (.and (.cons (.cmp .Lt (.at (.lo 37) 82) (.lo 88)) (.cons (.cmp .Eq (.aG (.lo 37) 34 .nil .nil) (.ks [32])) .nil))) (.cons (.exp (.aG (.lo 37) 104 .nil .nil))
 .nil))
 .nil))))
 (.cons (.ret (.tup (.cons (.ph (.lo 80)) (.cons (.lo 117) .nil))))
 .nil)))))
noncomputable def xS:S:=(.cons (.aN 6 (.aG (.lo 37) 34 .nil .nil))
 (.cons (.ite (.cmp .NotEq (.lo 6) (.ks [33])) .bK .nil)
 (.cons (.aN 89 (.a6 1))
 (.cons (.aN 6 (.aG (.lo 37) 34 (.cons (.lo 89) .nil) .nil))
 (.cons (.ite (.cmp .NotEq (.lo 6) (.ks [32])) (.cons (.eT (.or (.cons (.fy .LtE .LtE (.ks [48]) (.lo 6) (.ks [57])) (.cons (.fy .LtE .LtE (.ks [65]) (.lo 6) (.ks [90])) (.cons (.fy .LtE .LtE (.ks [97]) (.lo 6) (.ks [122])) (.cons (.cmp .In (.lo 6) (.ks [45,95])) .nil))))) (.cons (.gT 89 .Add (.a6 1))
 (.cons (.aN 6 (.aG (.lo 37) 34 (.cons (.lo 89) .nil) .nil))
 .nil)))
 (.cons (.ite (.cmp .NotEq (.lo 6) (.ks [33])) .bK .nil)
 (.cons (.gT 89 .Add (.a6 1))
 .nil))) .nil)
 (.cons (.aN 71 (.aG (.lo 37) 91 (.cons (.lo 89) .nil) .nil))
 (.cons (.exp (.aG (.lo 37) 104 (.cons (.lo 89) .nil) .nil))
 (.cons (.ret (.lo 71))
 .nil))))))))
noncomputable def xT:S:=(.cons (.aN 80 (.cell 100 .nil))
 (.cons (.aN 89 (.a6 0))
 (.cons (.aN 6 (.aG (.lo 37) 34 (.cons (.lo 89) .nil) .nil))
 (.cons (.eT (.or (.cons (.fy .LtE .LtE (.ks [48]) (.lo 6) (.ks [57])) (.cons (.fy .LtE .LtE (.ks [65]) (.lo 6) (.ks [90])) (.cons (.fy .LtE .LtE (.ks [97]) (.lo 6) (.ks [122])) (.cons (.cmp .In (.lo 6) (.ks [45,59,47,63,58,64,38,61,43,36,44,95,46,33,126,42,39,40,41,91,93,37])) .nil))))) (.cons (.ite (.cmp .Eq (.lo 6) (.ks [37])) .bK (.cons (.gT 89 .Add (.a6 1))
 .nil))
 (.cons (.aN 6 (.aG (.lo 37) 34 (.cons (.lo 89) .nil) .nil))
 .nil)))
 (.cons (.ite (.lo 89) (.cons (.exp (.cG (.lo 80) (.aG (.lo 37) 91 (.cons (.lo 89) .nil) .nil)))
 (.cons (.exp (.aG (.lo 37) 104 (.cons (.lo 89) .nil) .nil))
 (.cons (.aN 89 (.a6 0))
 .nil))) .nil)
 (.cons (.ite (.not (.lo 80)) .bK .nil)
 (.cons (.ret (.join (.ks []) (.lo 80)))
 .nil)))))))
noncomputable def KQ:S:=(.cons (.aN 6 (.aG (.lo 37) 34 .nil .nil))
 (.cons (.ite (.cmp .In (.lo 6) (.ks [13,10,133])) (.cons (.ite (.cmp .Eq (.aG (.lo 37) 91 (.cons (.a6 2) .nil) .nil) (.ks [13,10])) (.cons (.exp (.aG (.lo 37) 104 (.cons (.a6 2) .nil) .nil))
 .nil) (.cons (.exp (.aG (.lo 37) 104 .nil .nil))
 .nil))
 (.cons (.ret (.ks [10]))
 .nil)) (.cons (.ite (.cmp .In (.lo 6) (.ks [8232,8233])) (.cons (.exp (.aG (.lo 37) 104 .nil .nil))
 (.cons (.ret (.lo 6))
 .nil)) .nil)
 .nil))
 (.cons (.ret (.ks []))
 .nil)))
noncomputable def qu:S:=(.cons (.exp (.mc 2029 1291 (.cons (.lo 97) .nil)))
 (.cons (.a9 (.lo 37) 199 .cu)
 (.cons (.a9 (.lo 37) 195 .cu)
 (.cons (.a9 (.lo 37) 179 (.o8 36))
 (.cons (.a9 (.lo 37) 96 (.cell 39 .nil))
 (.cons (.a9 (.lo 37) 60 (.cell 40 .nil))
 (.cons (.a9 (.lo 37) 67 (.at (.lo 37) 268))
 .nil)))))))
noncomputable def Kg:S:=(.cons (.ite (.cmp .Is (.at (.lo 37) 199) .cu) (.cons (.ite (.at (.lo 37) 67) (.cons (.a9 (.lo 37) 199 (.aG (.lo 37) 67 .nil .nil))
 .nil) .nil)
 .nil) .nil)
 (.cons (.ret (.at (.lo 37) 199))
 .nil))
noncomputable def J8:S:=(.cons (.ite (.cmp .Is (.at (.lo 37) 199) .cu) .bK .nil)
 (.cons (.aN 71 (.at (.lo 37) 199))
 (.cons (.a9 (.lo 37) 199 .cu)
 (.cons (.ret (.lo 71))
 .nil))))
noncomputable def Ke:S:=(.cons (.aN 70 (.aG (.lo 37) 134 .nil .nil))
 (.cons (.aN 50 (.call (.gl 240) (.cons (.at (.lo 70) 158) (.cons (.at (.lo 70) 117) .nil)) (.e0 116 (.at (.lo 70) 116) .nil)))
 (.cons (.a9 (.lo 37) 67 (.at (.lo 37) 318))
 (.cons (.ret (.lo 50))
 .nil))))
noncomputable def Kc:S:=(.cons (.ite (.not (.aG (.lo 37) 170 (.cons (.tup (.cons (.at (.gl 206) 7) (.cons (.at (.gl 261) 7) (.cons (.at (.gl 210) 7) .nil)))) .nil) .nil)) (.cons (.a9 (.lo 37) 179 (.at (.lo 37) 180))
 (.cons (.aN 70 (.aG (.lo 37) 154 .nil .nil))
 (.cons (.jB [158,117] (.at (.lo 70) 158))
 (.cons (.aN 50 (.call (.gl 260) (.cons (.lo 158) (.cons (.lo 117) .nil)) (.e0 118 (.bF ac) .nil)))
 (.cons (.exp (.cG (.at (.lo 37) 96) (.at (.lo 37) 267)))
 (.cons (.a9 (.lo 37) 67 (.at (.lo 37) 249))
 (.cons (.ret (.lo 50))
 .nil))))))) (.cons (.ret (.aG (.lo 37) 293 .nil .nil))
 .nil))
 .nil)
noncomputable def xK:S:=(.cons (.eT (.aG (.lo 37) 170 (.cons (.tup (.cons (.at (.gl 238) 7) .nil)) .nil) .nil) .bK)
 (.cons (.ite (.not (.aG (.lo 37) 170 (.cons (.tup (.cons (.at (.gl 210) 7) .nil)) .nil) .nil)) (.cons (.aN 70 (.aG (.lo 37) 154 .nil .nil))
 (.cons (.aN 158 (.at (.lo 70) 158))
 (.cons (.ast [110,39] (.aG (.lo 37) 271 .nil .nil))
 (.cons (.ite (.not (.aG (.lo 37) 170 (.cons (.tup (.cons (.at (.gl 261) 7) .nil)) .nil) .nil)) .bK .nil)
 (.cons (.aN 70 (.aG (.lo 37) 134 .nil .nil))
 (.cons (.aN 117 (.at (.lo 70) 117))
 (.cons (.aN 50 (.call (.gl 260) (.cons (.lo 158) (.cons (.lo 117) .nil)) (.e0 118 (.bF aa) (.e0 110 (.lo 110) (.e0 39 (.lo 39) .nil)))))
 (.cons (.exp (.cG (.at (.lo 37) 96) (.at (.lo 37) 267)))
 (.cons (.a9 (.lo 37) 67 (.at (.lo 37) 301))
 .nil))))))))) (.cons (.aN 70 (.aG (.lo 37) 134 .nil .nil))
 (.cons (.aN 50 (.call (.gl 209) (.cons (.at (.lo 70) 158) (.cons (.at (.lo 70) 117) .nil)) .nil))
 (.cons (.sg (.not (.at (.lo 37) 96)))
 (.cons (.sg (.not (.at (.lo 37) 60)))
 (.cons (.a9 (.lo 37) 67 .cu)
 .nil))))))
 (.cons (.ret (.lo 50))
 .nil)))
noncomputable def Kb:S:=(.cons (.aN 70 (.aG (.lo 37) 154 .nil .nil))
 (.cons (.jB [158,117] (.at (.lo 70) 158))
 (.cons (.aN 118 (.bF ac))
 (.cons (.ite (.aG (.lo 37) 170 (.cons (.tup (.cons (.at (.gl 238) 7) .nil)) .nil) .nil) (.cons (.aN 70 (.aG (.lo 37) 134 .nil .nil))
 (.cons (.aN 117 (.at (.lo 70) 117))
 (.cons (.aN 118 (.bF aa))
 .nil))) .nil)
 (.cons (.aN 50 (.call (.gl 237) (.cons (.lo 158) (.cons (.lo 117) .nil)) (.e0 118 (.lo 118) .nil)))
 (.cons (.a9 (.lo 37) 67 (.at (.lo 37) 293))
 (.cons (.ret (.lo 50))
 .nil)))))))
noncomputable def Ka:S:=(.cons (.ite (.aG (.lo 37) 170 (.cons (.tup (.cons (.at (.gl 206) 7) (.cons (.at (.gl 261) 7) (.cons (.at (.gl 238) 7) (.cons (.at (.gl 210) 7) .nil))))) .nil) .nil) .bK (.cons (.ret (.aG (.lo 37) 249 .nil .nil))
 .nil))
 .nil)
noncomputable def Cx:S:=(.cons (.a9 (.lo 37) 195 .cu)
 (.cons (.a9 (.lo 37) 179 (.o8 36))
 (.cons (.eT (.aG (.lo 37) 170 (.cons (.tup (.cons (.at (.gl 206) 7) .nil)) .nil) .nil) (.cons (.aN 70 (.aG (.lo 37) 134 .nil .nil))
 (.cons (.ite (.cmp .Eq (.at (.lo 70) 33) (.ks [89,65,77,76])) (.cons (.ite (.cmp .IsNot (.at (.lo 37) 195) .cu) .bK .nil)
 (.cons (.ast [59,61] (.at (.lo 70) 71))
 (.cons (.ite (.cmp .NotEq (.lo 59) (.a6 1)) .bK .nil)
 (.cons (.a9 (.lo 37) 195 (.at (.lo 70) 71))
 .nil)))) (.cons (.ite (.cmp .Eq (.at (.lo 70) 33) (.ks [84,65,71])) (.cons (.ast [87,91] (.at (.lo 70) 71))
 (.cons (.ite (.cmp .In (.lo 87) (.at (.lo 37) 179)) .bK .nil)
 (.cons (.qs (.at (.lo 37) 179) (.lo 87) (.lo 91))
 .nil))) .nil)
 .nil))
 .nil)))
 (.cons (.ite (.at (.lo 37) 179) (.cons (.aN 71 (.tup (.cons (.at (.lo 37) 195) (.cons (.uN (.at (.lo 37) 179)) .nil))))
 .nil) (.cons (.aN 71 (.tup (.cons (.at (.lo 37) 195) (.cons .cu .nil))))
 .nil))
 (.cons (.fr 13 (.at (.lo 37) 180) (.cons (.ite (.cmp .NotIn (.lo 13) (.at (.lo 37) 179)) (.cons (.qs (.at (.lo 37) 179) (.lo 13) (.co (.at (.lo 37) 180) (.lo 13)))
 .nil) .nil)
 .nil))
 (.cons (.ret (.lo 71))
 .nil))))))
noncomputable def J9:S:=(.cons (.ret (.aG (.lo 37) 152 .nil (.e0 47 (.bF aa) .nil)))
 .nil)
noncomputable def Kd:S:=(.cons (.ite (.aG (.lo 37) 170 (.cons (.tup (.cons (.at (.gl 140) 7) .nil)) .nil) .nil) .bK (.cons (.aN 76 .cu)
 (.cons (.aN 19 .cu)
 (.cons (.jB [158,117,122] .cu)
 (.cons (.ite (.aG (.lo 37) 170 (.cons (.tup (.cons (.at (.gl 161) 7) .nil)) .nil) .nil) .bK (.cons (.ite (.aG (.lo 37) 170 (.cons (.tup (.cons (.at (.gl 112) 7) .nil)) .nil) .nil) .bK .nil)
 .nil))
 (.cons (.ite (.cmp .IsNot (.lo 19) .cu) .bK .nil)
 (.cons (.ite (.cmp .Is (.lo 158) .cu) (.cons (.jB [158,117] (.at (.aG (.lo 37) 154 .nil .nil) 158))
 .nil) .nil)
 (.cons (.aN 50 .cu)
 (.cons (.aN 120 (.or (.cons (.cmp .Is (.lo 19) .cu) (.cons (.cmp .Eq (.lo 19) (.ks [33])) .nil))))
 (.cons (.ite (.and (.cons (.lo 283) (.cons (.aG (.lo 37) 170 (.cons (.tup (.cons (.at (.gl 221) 7) .nil)) .nil) .nil) .nil))) .bK (.cons (.ite (.aG (.lo 37) 170 (.cons (.tup (.cons (.at (.gl 165) 7) .nil)) .nil) .nil) (.cons (.aN 70 (.aG (.lo 37) 134 .nil .nil))
 (.cons (.aN 117 (.at (.lo 70) 117))
 (.cons (.ite (.or (.cons (.and (.cons (.at (.lo 70) 63) (.cons (.cmp .Is (.lo 19) .cu) .nil))) (.cons (.cmp .Eq (.lo 19) (.ks [33])) .nil))) .bK (.cons (.ite (.cmp .Is (.lo 19) .cu) (.cons (.aN 120 (.tup (.cons (.bF ac) (.cons (.bF aa) .nil))))
 .nil) .bK)
 .nil))
 (.cons (.aN 50 (.call (.gl 164) (.cons (.lo 76) (.cons (.lo 19) (.cons (.lo 120) (.cons (.at (.lo 70) 71) (.cons (.lo 158) (.cons (.lo 117) .nil)))))) (.e0 68 (.at (.lo 70) 68) .nil)))
 (.cons (.a9 (.lo 37) 67 (.rj (.at (.lo 37) 96)))
 .nil))))) .bK)
 .nil))
 .nil))))))))))
 (.cons (.ret (.lo 50))
 .nil))
noncomputable def KZ:S:=(.cons (.ret (.lst (.cons .cu (.cons (.ks [13]) (.cons (.ks [13,10]) (.cons (.ks [10]) (.cons (.ks [120]) .nil)))))))
 .nil)
noncomputable def K0:S:=(.cons (.ret (.j8 (.lo 40) (.ri (.lo 40)) (.a6 0)))
 .nil)
noncomputable def CB:S:=(.cons (.aN 58 (.cell 100 .nil))
 (.cons (.aN 30 (.ks []))
 (.cons (.fr 1 (.lo 71) (.cons (.ite (.cmp .In (.lo 1) (.ks [10,8232])) (.cons (.exp (.cG (.lo 58) (.tup (.cons (.lo 30) (.cons (.lo 1) .nil)))))
 (.cons (.aN 30 (.ks []))
 .nil)) (.cons (.gT 30 .Add (.lo 1))
 .nil))
 .nil))
 (.cons (.ite (.lo 30) (.cons (.exp (.cG (.lo 58) (.tup (.cons (.lo 30) (.cons (.ks []) .nil)))))
 .nil) .nil)
 (.cons (.ret (.ph (.lo 58)))
 .nil)))))
noncomputable def xY:S:=(.cons (.gT 27 .Add (.lo 68))
 (.cons (.ite (.or (.cons (.cmp .Eq (.co (.co (.lo 58) (.a6 0)) (.a6 0)) (.ks [])) (.cons (.cmp .Eq (.co (.co (.co (.lo 58) (.a6 0)) (.a6 0)) (.a6 0)) (.ks [32])) .nil))) (.cons (.gT 27 .Add (.rq (.lo 38)))
 .nil) .nil)
 (.cons (.ite (.cmp .Eq (.co (.co (.lo 58) (.neg (.a6 1))) (.a6 1)) (.ks [])) (.cons (.gT 27 .Add (.ks [45]))
 .nil) (.cons (.ite (.cmp .Eq (.co (.co (.lo 58) (.neg (.a6 1))) (.a6 0)) (.ks [])) (.cons (.gT 27 .Add (.ks [43]))
 .nil) .nil)
 .nil))
 (.cons (.aN 36 (.cell 100 (.cons (.bin .Add (.lo 27) (.lo 83)) .nil)))
 (.cons (.qM 2 (.len (.lo 58)) (.cons (.ast [30,9] (.co (.lo 58) (.lo 2)))
 (.cons (.exp (.cG (.lo 36) (.bin .Add (.j8 (.lo 30) (.bin .Add (.bin .Mult (.ks [32]) (.lo 38)) (.lo 30)) (.ks [])) (.j8 (.cmp .Eq (.lo 9) (.ks [8232])) (.lo 9) (.lo 83)))))
 (.cons (.ite (.and (.cons (.cmp .Eq (.lo 68) (.ks [62])) (.cons (.cmp .NotEq (.aK (.lo 30) .no (.a6 1)) (.ks [])) (.cons (.cmp .NotEq (.co (.lo 30) (.a6 0)) (.ks [32])) (.cons (.cmp .Eq (.lo 9) (.ks [10])) .nil))))) (.cons (.uy 56 62 0 (.aK (.lo 58) (.bin .Add (.lo 2) (.a6 1)) .no))
 (.cons (.ite (.and (.cons (.lo 56) (.cons (.cmp .NotEq (.co (.co (.lo 56) (.a6 0)) (.a6 0)) (.ks [32])) .nil))) (.cons (.exp (.cG (.lo 36) (.lo 83)))
 .nil) .nil)
 .nil)) .nil)
 .nil))))
 (.cons (.ret (.ph (.lo 36)))
 .nil))))))
noncomputable def K1:S:=(.cons (.ite (.gz (.lo 50) (.gl 164)) (.cons (.ret (.tup (.cons (.ks [116,101,120,116]) (.cons (.at (.lo 50) 71) (.cons (.at (.lo 50) 68) .nil)))))
 .nil) .nil)
 (.cons (.ite (.gz (.lo 50) (.gl 260)) (.cons (.ret (.tup (.cons (.ks [100,111,99,117,109,101,110,116]) (.cons (.at (.lo 50) 118) (.cons (.at (.lo 50) 110) (.cons (.at (.lo 50) 39) .nil))))))
 .nil) .nil)
 (.cons (.ite (.gz (.lo 50) (.gl 237)) (.cons (.ret (.tup (.cons (.ks [100,111,99,117,109,101,110,116,32,101,110,100]) (.cons (.at (.lo 50) 118) .nil))))
 .nil) .nil)
 (.cons (.ite (.gz (.lo 50) (.gl 240)) (.cons (.ret (.tup (.cons (.ks [115,116,114,101,97,109]) .nil)))
 .nil) .nil)
 (.cons (.ret (.j8 (.gz (.lo 50) (.gl 209)) (.tup (.cons (.ks [115,116,114,101,97,109,32,101,110,100]) .nil)) (.tup (.cons (.ks [97,110,111,116,104,101,114]) .nil))))
 .nil)))))
def aI (pt:List (Nat×a4)):cM:=⟨dX,jm,mb,om,gD,pt,[]⟩
def jK (C:Nat) (ns:List Nat):a4:=λfull hp K=> ∃l,eN full=ab l/\bA l.length ns.length=aa/\K (.f (.inst C ns l)) hp
noncomputable def nR (a b:b5):Bool:=match a with
 | []=>aa
 |p::r=> (match aL p.1 b with
  |none=>aa
  |some _=>ac)&&nR r b
def OK (C id:Nat) (eM:a4):a4:=λfull hp K=> (eN full).isSome=aa/\eM (.aq id::full) [(id,.inst C [] [])] λr dn=>r= .f .none/\nR dn hp=aa/\(aL id dn).isSome=aa/\K (.aq id) (dn++hp)
def ET (C id:Nat) (eM:a4):a4:=λfull hp K=>aL id hp=af/\eM (.aq id::full) ((id,.inst C [] [])::hp) λr dn=>r= .f .none/\(aL id dn).isSome=aa/\K (.aq id) dn
def ahG:a4:=bH (aI []) [37,33,71,158,117] [] JF
def ahI:a4:=bH (aI []) [37,158,117,118] [] JG
def ahL:a4:=bH (aI []) [37,158,117,118,110,39] [] JH
@[irreducible] def Ao:a4:=bH (aI []) [37,97,129,88,72,198,148] [] xJ
def F3:a4:=bH (aI []) [37] [50] JI
@[irreducible] def Am:a4:=bH (aI []) [37,41] [54] Cr
def ahN:a4:=bH (aI []) [37] [] JQ
def Ga:a4:=bH (aI []) [37,26,146] [] JR
@[irreducible] def wh:a4:=bH (aI []) [37,48] [57,50] JS
@[irreducible] def Gb:a4:=bH (aI []) [37,87] [6] JU
@[irreducible] def Gc:a4:=bH (aI []) [37,91] [80,66,9,6,23] Cu
def Gd:a4:=bH (aI []) [37,110] [59,61] JV
def Ge:a4:=bH (aI []) [37,137] [] JW
def ahP:a4:=bH (aI []) [37] [] J3
def ahQ:a4:=bH (aI []) [37,158,117] [] J6
def ahS:a4:=bH (aI []) [37,33,55,30,82,79,109] [] J7
@[irreducible] def Gl:a4:=bH (aI []) [37] [71] J8
@[irreducible] def tD:a4:=bH (aI []) [37,55] [] Kj
def Gr:a4:=bH (aI []) [37,89] [] Kl
def Ax:a4:=bH (aI []) [37] [] Km
def Gs:a4:=bH (aI []) [37] [] Kn
def Gu:a4:=bH (aI []) [37,23] [] Ko
def ahU:a4:=bH (aI []) [37,92,49,138,242,254,279,278,167] [] Kp
def ahW:a4:=bH (aI []) [37,76,19,120,71,158,117,68] [] Kq
def ahY:a4:=bH (aI []) [37,71,63,158,117,68] [] Kr
def QF:a4:=bH (aI []) [37] [] Ks
@[irreducible] def GG:a4:=bH (aI []) [37] [246,57,13] KJ
@[irreducible] def GI:a4:=bH (aI []) [37] [13] KN
@[irreducible] def GU:a4:=bH (aI []) [37] [57,13] KU
@[irreducible] def AA:a4:=bH (aI []) [37,82] [32] xX
def ah2:a4:=bH (aI []) [37,158,117,116] [] KV
def ah4:a4:=bH (aI []) [37,158,117,116] [] KW
def ah5:a4:=bH (aI []) [37,158,117] [] KX
@[irreducible] def GV:a4:=bH (aI []) [6] [] KY
def ah6:a4:=bH (aI []) [] [] KZ
@[irreducible] def GW:a4:=bH (aI []) [71] [58,30,1] CB
def wo:a4:=bH (aI []) [40] [] K0
@[irreducible] def GX:a4:=bH (aI []) [27,68,58,38,83] [36,2,30,9,56] xY
@[irreducible] def GY:a4:=bH (aI []) [50] [] K1
noncomputable def eM:List (Nat×a4):=(873,ahG)::(245,ahI)::(225,ahL)::(379,Ao)::(615,F3)::(774,Am)::(699,ahN)::(415,Ga)::(407,wh)::(664,Gb)::(671,Gc)::(657,Gd)::(629,Ge)::(706,ahP)::(112,ahQ)::(35,ahS)::(1841,Gl)::(1198,tD)::(1235,Gr)::(817,Ax)::(831,Gs)::(824,Gu)::(356,ahU)::(277,ahW)::(1138,ahY)::(1559,QF)::(1335,GG)::(1356,GI)::(1342,GU)::(1363,AA)::(193,ah2)::(917,ah4)::(852,ah5)::(1176,GV)::(2039,ah6)::(2057,GW)::(2050,wo)::(2062,GX)::(2069,GY):: []
def ahF:a4:=jK 876 [33,71,158,117]
def ahH:a4:=jK 248 [158,117,118]
def ahJ:a4:=jK 900 [158,117]
def ahK:a4:=jK 228 [158,117,118,110,39]
def ahM:a4:=jK 888 [158,117]
def QC:a4:=ET 799 10 Ao
def F9:a4:=bH (aI eM) [37] [] JP
@[irreducible] def ou:a4:=bH (aI eM) [37] [50] JT
@[irreducible] def Ap:a4:=bH (aI eM) [37,137,231,160,136] [23] J0
@[irreducible] def tz:a4:=bH (aI eM) [37,23] [] J1
def ahO:a4:=bH (aI eM) [37] [] J2
def ahR:a4:=jK 53 [33,55,30,82,79,109]
@[irreducible] def Gn:a4:=bH (aI eM) [37,23] [66,130] Cy
@[irreducible] def Aw:a4:=bH (aI eM) [37,89] [6] Cz
@[irreducible] def Gq:a4:=bH (aI eM) [37,89] [] Kk
def QE:a4:=ET 834 14 Ax
def ahT:a4:=jK 359 [92,49,138,242,254,279,278,167]
def ahV:a4:=jK 280 [76,19,120,71,158,117,68]
def ahX:a4:=jK 1141 [71,63,158,117,68]
@[irreducible] def wj:a4:=bH (aI eM) [37] [] KI
def ahZ:a4:=jK 208 [158,117]
def ah0:a4:=jK 932 [158,117]
def ah1:a4:=jK 196 [158,117,116]
def ah3:a4:=jK 920 [158,117,116]
def eR:List (Nat×a4):=(876,ahF)::(248,ahH)::(900,ahJ)::(228,ahK)::(888,ahM)::(799,QC)::(422,F9)::(400,ou)::(721,Ap)::(736,tz)::(713,ahO)::(53,ahR)::(1228,Gn)::(1214,Aw)::(1206,Gq)::(834,QE)::(359,ahT)::(280,ahV)::(1141,ahX)::(1321,wj)::(208,ahZ)::(932,ah0)::(196,ah1)::(920,ah3)::eM
@[irreducible] def F2:a4:=bH (aI eR) [37,92] [244,228,174,274,203,202,220,219,169,178,302,300,214,213,55,6,275,242,254,279,278,167] Cq
@[irreducible] def ov:a4:=bH (aI eR) [37] [88,23] JZ
@[irreducible] def Gj:a4:=bH (aI eR) [37,173,176] [23] J4
@[irreducible] def Gk:a4:=bH (aI eR) [37,192] [23] J5
@[irreducible] def Gp:a4:=bH (aI eR) [37,97] [] Ki
@[irreducible] def wi:a4:=bH (aI eR) [37] [] Kh
def QG:a4:=bH (aI eR) [37] [] Kt
def QH:a4:=bH (aI eR) [37] [] Ku
@[irreducible] def GD:a4:=bH (aI eR) [37] [] KH
@[irreducible] def wl:a4:=bH (aI eR) [37,158] [115,135,6] KO
@[irreducible] def GL:a4:=bH (aI eR) [37,158] [89,6,71] xQ
@[irreducible] def wm:a4:=bH (aI eR) [37] [6] KQ
@[irreducible] def GO:a4:=bH (aI eR) [37,33,158] [6,89,71] xS
@[irreducible] def GP:a4:=bH (aI eR) [37,33,158] [80,89,6] xT
@[irreducible] def GR:a4:=bH (aI eR) [37,158] [6,89,71] xV
def dr:List (Nat×a4):=(692,F2)::(728,ov)::(750,Gj)::(743,Gk)::(1190,Gp)::(1221,wi)::(1573,QG)::(1566,QH)::(1314,GD)::(1692,wl)::(1622,GL)::(1786,wm)::(1765,GO)::(1772,GP)::(1636,GR)::eR
@[irreducible] def F4:a4:=bH (aI dr) [37] [] JJ
@[irreducible] def F5:a4:=bH (aI dr) [37] [] JK
@[irreducible] def wg:a4:=bH (aI dr) [37,51] [192,105,87,91,173,176,120] Ct
@[irreducible] def Gh:a4:=bH (aI dr) [37,41] [54,203,95,78,66,9,6,5,23] Cv
@[irreducible] def Gi:a4:=bH (aI dr) [37,41] [54,78,66,9,6,5,23] Cw
@[irreducible] def Au:a4:=bH (aI dr) [37] [70,50] Ke
def QJ:a4:=bH (aI dr) [37,141] [158,117] Ky
@[irreducible] def GB:a4:=bH (aI dr) [37] [32] KE
@[irreducible] def GC:a4:=bH (aI dr) [37] [32] KG
@[irreducible] def wk:a4:=bH (aI dr) [37,88] [80,117] sj
@[irreducible] def Az:a4:=bH (aI dr) [37,158] [6] xN
@[irreducible] def tE:a4:=bH (aI dr) [37] [80,149,117] xO
@[irreducible] def GK:a4:=bH (aI dr) [37,158] [6] xP
def QK:a4:=bH (aI dr) [37,158] [71,6] KR
def QL:a4:=bH (aI dr) [37,158] [71,6] KS
@[irreducible] def GQ:a4:=bH (aI dr) [37] [53] xU
@[irreducible] def GS:a4:=bH (aI dr) [37,158] [59,61] xW
def g4:List (Nat×a4):=(643,F4)::(451,F5)::(444,wg)::(781,Gh)::(788,Gi)::(1848,Au)::(1412,QJ)::(1384,GB)::(1377,GC)::(1713,wk)::(1699,Az)::(1706,tE)::(1664,GK)::(1650,QK)::(1657,QL)::(1608,GQ)::(1629,GS)::dr
@[irreducible] def F6:a4:=bH (aI g4) [37] [] JM
@[irreducible] def Gf:a4:=bH (aI g4) [37] [65] JX
@[irreducible] def Gg:a4:=bH (aI g4) [37] [19] JY
@[irreducible] def GF:a4:=bH (aI g4) [37,97] [] qv
@[irreducible] def Gx:a4:=bH (aI g4) [37] [] Kx
@[irreducible] def Gy:a4:=bH (aI g4) [37] [] Kz
@[irreducible] def Ay:a4:=bH (aI g4) [37,68] [86,80,158,115,135,150,78,149,117,88,148,257,89] xM
@[irreducible] def GN:a4:=bH (aI g4) [37,158] [87,91] xR
def pM:List (Nat×a4):=(436,F6)::(650,Gf)::(636,Gg)::(1291,GF)::(1405,Gx)::(1398,Gy)::(1685,Ay)::(1643,GN)::g4
@[irreducible] def F8:a4:=bH (aI pM) [37] [] JO
@[irreducible] def Aq:a4:=bH (aI pM) [37,97] [] qu
def QI:a4:=bH (aI pM) [37,68] [] Kv
@[irreducible] def GJ:a4:=bH (aI pM) [37] [158,33,71,117] KP
def pN:List (Nat×a4):=(480,F8)::(1820,Aq)::(1524,QI)::(1615,GJ)::pM
@[irreducible] def F7:a4:=bH (aI pN) [37,35,121,108,157] [] JN
def QD:a4:=OK 2029 30 Aq
@[irreducible] def Gw:a4:=bH (aI pN) [37] [] Kw
@[irreducible] def Gz:a4:=bH (aI pN) [37] [] KA
@[irreducible] def GA:a4:=bH (aI pN) [37] [] KC
def ti:List (Nat×a4):=(466,F7)::(2029,QD)::(1391,Gw)::(1517,Gz)::(1510,GA)::pN
@[irreducible] def An:a4:=bH (aI ti) [37] [] JL
@[irreducible] def rA:a4:=bH (aI ti) [37] [6] KD
def kh:List (Nat×a4):=(458,An)::(1328,rA)::ti
@[irreducible] def me:a4:=bH (aI kh) [37,50] [] Cs
@[irreducible] def Gv:a4:=bH (aI kh) [37,102] [] CA
@[irreducible] def GH:a4:=bH (aI kh) [37] [] KL
def iQ:List (Nat×a4):=(393,me)::(1300,Gv)::(1307,GH)::kh
@[irreducible] def tA:a4:=bH (aI iQ) [37] [70,158,117,118,50] Kb
@[irreducible] def Gm:a4:=bH (aI iQ) [37,47,283] [70,50,76,19,158,117,122,87,120] Kd
@[irreducible] def Av:a4:=bH (aI iQ) [37] [70,59,61,87,91,71,13] Cx
def pO:List (Nat×a4):=(1869,tA)::(1912,Gm)::(1883,Av)::iQ
@[irreducible] def Ar:a4:=bH (aI pO) [37] [] J9
@[irreducible] def rz:a4:=bH (aI pO) [37] [70,158,110,39,117,50] xK
def th:List (Nat×a4):=(1890,Ar)::(1862,rz)::pO
@[irreducible] def As:a4:=bH (aI th) [37] [50] Ka
@[irreducible] def tB:a4:=bH (aI th) [37] [70,158,117,50] Kc
def vR:List (Nat×a4):=(1876,As)::(1855,tB)::th
@[irreducible] def tC:a4:=bH (aI vR) [37] [] Kg
def pL:List (Nat×a4):=(1834,tC)::vR
theorem aV {T:cM} {a8 ex:List Nat} {b:S} {full:List ae} {hp h:b5} {r:ae} (g: ∀(G:Prop) (K:ae->b5->Prop),aB.path G (bN T b ⟨locs a8 full ex,hp,[],[]⟩ (ki K))->K r h->G):aJ (bH T a8 ex b full hp) r h:=
 λK k=>g _ K (aB.rg _ id) k
theorem cb {t:St->(Bool->St->aB)->aB} {b:St->(cE->St->aB)->aB} {σ σ':St} {o:Option cE} (g: ∀(G:Prop) (W:Option cE->St->Prop),aB.path G (t σ λr σ=>cond r (b σ (cq W)) (.ret (W (ab .aQ) σ)))->W o σ'->G):aJ (kP t b σ) o σ':=
 λW w=>g _ W (aB.rg _ id) w
theorem fc {t:St->(Bool->St->aB)->aB} {b:St->(cE->St->aB)->aB} {σ σ₁ σ':St} {f:cE} (h:aJ (kP t b σ) af σ₁) (k:aJ (fb t b σ₁) f σ'):aJ (fb t b σ) f σ':=
 λK q=>ak (k K q) λn w=> ⟨n+1,h _ w⟩
theorem eS {t:St->(Bool->St->aB)->aB} {b:St->(cE->St->aB)->aB} {σ σ':St} {f:cE} (h:aJ (kP t b σ) (ab f) σ'):aJ (fb t b σ) f σ':=
 λ_ q=> ⟨1,h _ q⟩
def jC (b:St->(cE->St->aB)->aB) (σ:St) (W:Option cE->St->Prop):Prop:=(b σ (cq W)).holds
theorem gU {b:St->(cE->St->aB)->aB} {σ σ':St} {o:Option cE} (g: ∀(G:Prop) (W:Option cE->St->Prop),aB.path G (b σ (cq W))->W o σ'->G):aJ (jC b σ) o σ':=λW w=>g _ W (aB.rg _ id) w
theorem la {n:Nat} {b:St->(cE->St->aB)->aB} {v:ae} {l:List ae} {σ σ₁ σ':St} {f:cE} (h:aJ (jC b ⟨ng n v σ.loc,σ.hp,σ.lh,σ.lu⟩) af σ₁) (k:aJ (gX n b l σ₁) f σ'):aJ (gX n b (v::l) σ) f σ':=λK q=>h _ (k K q)
theorem lc {n:Nat} {b:St->(cE->St->aB)->aB} {σ:St}:aJ (gX n b [] σ) .aQ σ:=λ_ q=>q
theorem kK {α β:Type} {W:(α->β->Prop)->Prop} {a i3:α} {b fO:β} (h:aJ W a b) (e:a=i3) (cN:b=fO):aJ W i3 fO:=e▸cN▸h
noncomputable def S.hd:S->S
 | .cons a _=>a
 |_=> .nil
noncomputable def S.aO:S->S
 | .cons _ r=>r
 |_=> .nil
noncomputable def S.bd:S->S
 | .eT _ b=>b
 | .fr _ _ b=>b
 | .sD _ _ _ b=>b
 | .ite _ b _=>b
 |_=> .nil
noncomputable def S.df:S->X
 | .eT c _=>c
 |_=> .nil
structure Ps where
 buf:List Nat
 done:Bool
 tt:Nat
 ask:Bool
 dJ:Nat
 ce:aj
 Q3:aj
 FW:ae
 st:ae
 tok:List ae
 fC:List ae
 r:b5
def D0 (c:Nat):Bool:=bO [c] [10,133,8232,8233]
def bump (c d:Nat):Bool:=D0 c|| (aM [c] [13]&& !aM [d] [10])
def hC (c d:Nat) (x:Nat×Nat):Nat×Nat:=cond (bump c d) (x.1+1,0) (x.1,cond (aM [c] [65279]) x.2 (x.2+1))
noncomputable def zf:Nat->List Nat->Nat×Nat->Nat×Nat
 |n+1,c::r,x=>zf n r (hC c (r.headD 0) x)
 |_,_,x=>x
theorem aaI {c:Nat} {t:List Nat}: ∀(a:List Nat) (x:Nat×Nat),zf (a.length+1) (a++c::t) x=hC c (t.headD 0) (zf a.length (a++c::t) x):=λa=>by
 induction a with
 |nil=>exact λx=>rfl
 |cons y a ai=>exact λx=>ai _
noncomputable def pos (b t:List Nat):Nat:=b.length-t.length
def cz (b t:List Nat):Nat×Nat:=zf (pos b t) b (0,0)
def bD (b t:List Nat):Prop:= ∃a,b=a++t
theorem bD.aO {b s t:List Nat} (h:bD b (s++t)):bD b t:=ak h λa e=> ⟨a++s,e.trans (bt a s t).symm⟩
theorem vQ (a t:List Nat):pos (a++t) t=a.length:=(congrArg (· -t.length) bL).trans (R8 ..)
theorem bD.get {b t:List Nat} (h:bD b t) (i:Nat):b[pos b t+i]? =t[i]? :=ak h λa e=>by
 subst e;rw[vQ,tR (gH ..),Be]
theorem bD.Pt {b t:List Nat} {c:Nat} (h:bD b (c::t)):pos b t=pos b (c::t)+1:=ak h λa e=>by
 subst e;rw[vQ,show a++c::t=a++ [c]++t from(bt a [c] t).symm,vQ,bL];rfl
theorem bD.hC {b t:List Nat} {c:Nat} (h:bD b (c::t)):cz b t=Q7.hC c (t.headD 0) (cz b (c::t)):=by
 unfold cz;rw[h.Pt];exact ak h λa e=>by subst e;rw[vQ];exact aaI a _
noncomputable abbrev acK:List Nat:= [33,97,218,10,79,109,155,156,116,55,30,82,24,145,98,191,88,107,243,294,199,195,179,96,60,67]
noncomputable abbrev zZ:List Nat:= [60,117,110,105,99,111,100,101,32,115,116,114,105,110,103,62]
def Ps.sJ (p:Ps) (i:Nat) (x:Nat×Nat):b5:=(30,.inst 2029 acK [.f (.str zZ),.f .none,.f (.int 0),.f (.bool aa),.f (.str p.buf),.f (.int (.ofNat i)),.f .none,.f .none,.f .none,.f (.int (.ofNat i)),
  .f (.int (.ofNat x.1)),.f (.int (.ofNat x.2)),.f (.bool p.done),.f (.int 0),.aq 31,.f (.int (.ofNat p.tt)),.f (.int (-1)),.aq 32,.f (.bool p.ask),.aq p.dJ,.f p.ce,.f p.Q3,p.FW,.aq 39,.aq 40,p.st])::
  (31,.list p.tok)::(32,.list [])::(33,.dict [] [])::(36,.dict [] [])::(39,.list p.fC)::(40,.list [])::p.r
def Ps.hp (p:Ps) (t:List Nat):b5:=p.sJ (pos p.buf t) (cz p.buf t)
noncomputable def p1:St:=⟨[],[],[],[]⟩
theorem jJ {l:List Nat} {n:Nat} {c:Nat} (h:l[n]? =ab c):mV (.f (.str l)) (.f (.int (.ofNat n))) p1=ab (.f (.str [c])):=
 congrArg (λo=>match(o:Option Nat) with
   |some c=>ab (ae.f (.str [c]))
   |none=>af) h
theorem iR {p:Ps} {t:List Nat} {i c:Nat} (c6:bD p.buf t) (h:t[i]? =ab c):aJ (tD [.aq 30,.f (.int (.ofNat i))] (p.hp t)) (.f (.str [c])) (p.hp t):=by
 delta tD
 refine aV λG K F k=> ?_
 exact F _ (jJ ((c6.get i).trans h)) k
theorem cY {p:Ps} {t:List Nat} {c:Nat} (c6:bD p.buf (c::t)):aJ (tD [.aq 30,.f (.int (.ofNat 0))] (p.hp (c::t))) (.f (.str [c])) (p.hp (c::t)):=iR (i:=0) c6 rfl
def K2:S:=Cz.aO.hd.bd
noncomputable abbrev yE (n:Int) (x:Option ae):List (Nat×Option ae):= [(37,ab (.aq 30)),(89,ab (.f (.int n))),(6,x)]
theorem XW {p:Ps} {c d i n:Nat} {x:Nat×Nat} {y:Option ae} (h0:p.buf[i]? =ab c) (ap:p.buf[i+1]? =ab d):
  aJ (kP (ev (aI eM) (.lo 89)).t (bN (aI eM) K2) ⟨yE (.ofNat (n+1)) y,p.sJ i x,[],[]⟩) af ⟨yE (.ofNat (n+1) - .ofNat 1) (ab (.f (.str [c]))),p.sJ (i+1) (hC c d x),[],[]⟩:=by
 refine cb λG W F w=> ?_
 unfold hC bump at w
 cases a:D0 c with
 |true=>rw[a] at w;exact F aa rfl _ (jJ h0) aa a w
 |false=>
  rw[a] at w
  cases b:aM [c] [13] with
  |true=>
   rw[b] at w
   cases e:aM [d] [10] with
   |true=>
    rw[e] at w
    cases g:aM [c] [65279] with
    |true=>rw[g] at w;exact F aa rfl _ (jJ h0) ac a aa b _ (jJ (n:=i+1) ap) _ (congrArg not e) _ (congrArg not g) w
    |false=>rw[g] at w;exact F aa rfl _ (jJ h0) ac a aa b _ (jJ (n:=i+1) ap) _ (congrArg not e) _ (congrArg not g) w
   |false=>rw[e] at w;exact F aa rfl _ (jJ h0) ac a aa b _ (jJ (n:=i+1) ap) _ (congrArg not e) w
  |false=>
   rw[b] at w
   cases g:aM [c] [65279] with
    |true=>rw[g] at w;exact F aa rfl _ (jJ h0) ac a ac b _ (congrArg not g) w
    |false=>rw[g] at w;exact F aa rfl _ (jJ h0) ac a ac b _ (congrArg not g) w
theorem YU {p:Ps} {c:Nat} {t:List Nat} (h:bD p.buf (c::t)):p.sJ (pos p.buf (c::t)+1) (hC c (t.headD 0) (cz p.buf (c::t)))=p.hp t:=by
 rw[<-h.Pt,<-h.hC];rfl
theorem XU {p:Ps} {t:List Nat} (cj:t≠ []): ∀(s:List Nat) (y:Option ae) (z:Int),z= .ofNat s.length->bD p.buf (s++t)-> ∃mi,aJ (fb (ev (aI eM) (.lo 89)).t (bN (aI eM) K2) ⟨yE z y,p.hp (s++t),[],[]⟩) .aQ ⟨yE 0 mi,p.hp t,[],[]⟩:=λs=>by
 induction s with
 |nil=>exact λy z e h=> ⟨y,eS (cb λG W F w=>by subst e;exact F ac rfl w)⟩
 |cons c s ai=>
  intro y z e h
  subst e
  have ap: ∃d,(s++t)[0]? =ab d/\(s++t).headD 0=d:=by
   cases s with
   |cons d s=>exact⟨d,rfl,rfl⟩
   |nil=>cases t with
    |nil=>exact absurd rfl cj
    |cons d t=>exact⟨d,rfl,rfl⟩
  obtain ⟨d,ap,e1⟩:=ap
  obtain ⟨mi,i⟩:=ai (ab (.f (.str [c]))) (.ofNat (s.length+1) - .ofNat 1) (Int.add_sub_cancel (s.length:Int) 1) (bD.aO (s:= [c]) h)
  refine⟨mi,fc (kK (XW (d:=d) (h.get 0) ((h.get 1).trans ap)) rfl ?_) i⟩
  rw[<-e1];exact congrArg (λh=>St.mk _ h [] []) (YU h)
theorem P0 {p:Ps} {t:List Nat} {n:Int}:aJ (Gr [.aq 30,.f (.int n)] (p.hp t)) (.f .none) (p.hp t):=by
 delta Gr
 refine aV λG K F k=> ?_
 exact F aa rfl k
theorem fI {p:Ps} (s:List Nat) {t:List Nat} (h:bD p.buf (s++t)) (cj:t≠ []):aJ (Aw [.aq 30,.f (.int (.ofNat s.length))] (p.hp (s++t))) (.f .none) (p.hp t):=by
 delta Aw
 obtain ⟨y,L⟩:=XU cj s af _ rfl h
 refine aV λG K F k=> ?_
 cases e:decide (c1 (pos p.buf (s++t))+c1 s.length+1≥(p.buf.length:Int)) with
 |true=>exact F aa e _ _ P0 _ _ L k
 |false=>exact F ac e _ _ L k
theorem kj {p:Ps} (s:List Nat) {t:List Nat} (h:bD p.buf (s++t)):aJ (Gq [.aq 30,.f (.int (.ofNat s.length))] (p.hp (s++t))) (.f (.str s)) (p.hp (s++t)):=by
 delta Gq
 have e:(p.buf.drop (pos p.buf (s++t))).take (pos p.buf (s++t)+s.length-pos p.buf (s++t))=s:=by
  rw[Be]
  exact ak h λa e=>by rw[e,vQ,RQ,R2]
 refine kK (aV λG K F k=> ?_) (congrArg (λx=>ae.f (.str x)) e) rfl
 cases c:decide (c1 (pos p.buf (s++t))+c1 s.length≥(p.buf.length:Int)) with
 |true=>exact F aa c _ _ P0 _ rfl k
 |false=>exact F ac c _ rfl k
def Ps.jf (p:Ps) (t:List Nat):aj:= .inst 53 [33,55,30,82,79,109] [.str zZ,.int (.ofNat (pos p.buf t)),.int (.ofNat (cz p.buf t).1),.int (.ofNat (cz p.buf t).2),.str p.buf,.int (.ofNat (pos p.buf t))]
theorem gP {p:Ps} {t:List Nat}:aJ (wi [.aq 30] (p.hp t)) (.f (p.jf t)) (p.hp t):=by
 delta wi
 refine aV λG K F k=> ?_
 exact F aa rfl _ _ (λK k=> ⟨_,rfl,rfl,k⟩) k
inductive ha:List Nat->List Nat->Prop
 |lf {r:List Nat}:ha [10] r
 |cr {r:List Nat} (h:aM [r.headD 0] [10]=ac):ha [13] r
 |x8 {r:List Nat}:ha [13,10] r
 |ls {r:List Nat}:ha [8232] r
noncomputable def dV:List Nat->List Nat
 | [8232]=> [8232]
 |_=> [10]
theorem MN (c:Nat): ∀l:List Nat,bO [c] l=aa↔c∈l:=λl=>by
 induction l with
 |nil=>exact⟨nofun,nofun⟩
 |cons b l ai=>
  show(bA c b&&aa||bO [c] l)=aa↔_
  rw[Ri,nk,ai,e6,Nat.beq_eq]
theorem qX {c:Nat} {l:List Nat} (h: ¬c∈l):bO [c] l=ac:=Hn.mpr λe=>h ((MN c l).mp e)
theorem DU {c:Nat} {l:List Nat} (h:c∈l):bO [c] l=aa:=(MN c l).mpr h
theorem h9 {a b:Nat} (h:a≠b):aM [a] [b]=ac:=Hn.mpr λe=>h (gw (gM.mp e)).1
theorem aji {b:Bool} (h:b=ac):(!b)=aa:=congrArg not h
theorem ajh {b:Bool} (h:b=aa):(!b)=ac:=congrArg not h
noncomputable abbrev kB:List Nat:= [0,13,10,133,8232,8233,65279]
theorem OS {c:Nat} {l:List Nat} (h: ¬c∈kB) (s:l.all (λx=>kB.contains x)=aa):bO [c] l=ac:=
 qX λm=>h (rT.mp (fM.mp s c m))
def Ps.col (p:Ps) (t:List Nat):Nat:=(cz p.buf t).2
theorem Lx {b:List Nat} {c:Nat} {t:List Nat} (h:bD b (c::t)) (aD: ¬c∈kB):(cz b t).2=(cz b (c::t)).2+1:=by
 rw[h.hC];unfold hC bump D0
 rw[OS aD rfl,h9 (b:=13) λe=>aD (by rw[e];decide),h9 (b:=65279) λe=>aD (by rw[e];decide)];rfl
theorem Vh {b t:List Nat}: ∀(s:List Nat),bD b (s++t)->(∀c∈s,¬c∈kB)->(cz b t).2=(cz b (s++t)).2+s.length:=λs=>by
 induction s with
 |nil=>exact λ_ _=>rfl
 |cons c s ai=>
  intro h hs
  have ap:=Lx (c:=c) (t:=s++t) h (hs c et)
  have aC:=ai (bD.aO (s:= [c]) h) λc aD=>hs c (eZ _ aD)
  rw[aC,ap,du,p9,kW 1];rfl
theorem nO {b e t:List Nat} (h:bD b (e++t)) (he:ha e t):(cz b t).2=0:=by
 cases he with
 |lf=>rw[bD.hC (c:=10) (t:=t) h];rfl
 |cr q=>rw[bD.hC (c:=13) (t:=t) h];unfold hC bump;rw[q];rfl
 |x8=>rw[bD.hC (c:=10) (t:=t) (bD.aO (s:= [13]) h)];rfl
 |ls=>rw[bD.hC (c:=8232) (t:=t) h];rfl
theorem vX {p:Ps} {e t:List Nat} (c6:bD p.buf (e++t)) (he:ha e t) (aA:t≠ []):aJ (wm [.aq 30] (p.hp (e++t))) (.f (.str (dV e))) (p.hp t):=by
 delta wm
 cases t with
 |nil=>exact absurd rfl aA
 |cons d r=>cases he with
  |lf=>exact aV λ_ _ F k=>F _ _ (cY c6) aa rfl _ _ (kj [10,d] c6) ac rfl _ _ (fI [10] c6 aA) k
  |cr h=>exact aV λ_ _ F k=>F _ _ (cY c6) aa rfl _ _ (kj [13,d] c6) ac (h:aM [13,d] [13,10]=ac) _ _ (fI [13] c6 aA) k
  |x8=>exact aV λ_ _ F k=>F _ _ (cY c6) aa rfl _ _ (kj [13,10] c6) aa rfl _ _ (fI [13,10] c6 aA) k
  |ls=>exact aV λ_ _ F k=>F _ _ (cY c6) ac rfl aa rfl _ _ (fI [8232] c6 aA) k
theorem PZ {p:Ps} {c:Nat} {r:List Nat} (c6:bD p.buf (c::r)) (ap:bO [c] [13,10,133]=ac) (aC:bO [c] [8232,8233]=ac):
  aJ (wm [.aq 30] (p.hp (c::r))) (.f (.str [])) (p.hp (c::r)):=by
 delta wm
 exact aV λ_ _ F k=>F _ _ (cY c6) ac ap ac aC k
theorem iq {a b:Nat} (h:a<b):decide (c1 a<c1 b)=aa:=decide_eq_true (AZ.mpr h)
theorem n5 {a b:Nat} (h:b<=a):decide (c1 a<c1 b)=ac:=decide_eq_false λq=>mv.mpr h (AZ.mp q)
theorem sv {a b:Nat} (h:a=b):decide (c1 a=c1 b)=aa:=decide_eq_true (congrArg _ h)
theorem LU {a b:Nat} (h:a≠b):decide (c1 a=c1 b)=ac:=decide_eq_false λq=>h (AY q)
theorem f3 {α:Type} {l:List α} (h:l.length<=1000000):cn l=aa:=mr h
theorem c9 {α:Type} (x:α) (r:List α):x::r≠ []:=nofun
theorem i5 {α:Type} {a b:List α} (h:b≠ []):a++b≠ []:=λe=>h (RM.mp e).2
def K6:St->(cE->St->Prop)->Prop:=fb (ev (aI dr) sj.aO.aO.hd.df).t (bN (aI dr) sj.aO.aO.hd.bd)
def o7 (p:Ps) (k:Nat) (m:aj) (L:List ae) (t:List Nat):St:=⟨[(37,ab (.aq 30)),(88,ab (.f (.int (.ofNat k)))),(80,ab (.aq 100)),(117,ab (.f m))],p.hp t,[(100,.list L)],[100]⟩
theorem FN {b t:List Nat} (h:bD b (32::t)) {c:Nat} (aD:(cz b (32::t)).2=c):(cz b t).2=c+1:=aD▸Lx h (by decide)
noncomputable def hV (n:Nat) (t:List Nat):List Nat:=gQ n 32++t
theorem K9 {p:Ps} {k x:Nat} {m:aj} {L:List ae} {r:List Nat}: ∀(n c:Nat),bD p.buf (hV n (x::r))->(cz p.buf (hV n (x::r))).2=c->c+n<=k->(c+n=k\/x≠32)->
  aJ (K6 (o7 p k m L (hV n (x::r)))) .aQ (o7 p k m L (x::r)):=λn=>by
 induction n with
 |zero=>
  intro c h aD aS aH
  refine eS ?_
  rcases Sd c k with q|q
  ·have aH:x≠32:=aH.resolve_left (mu q)
   exact cb λ_ _ F k=>F aa (iq (aD.symm▸q)) _ _ (cY h) ac (h9 aH) k
  ·exact cb λ_ _ F k=>F ac (n5 (aD.symm▸q)) k
 |succ n ai=>
  intro c h aD aS aH
  have e:c+(n+1)=c+1+n:=(R7 c 1 n).symm
  rw[e] at aS aH
  refine fc ?_ (ai (c+1) (bD.aO (s:= [32]) h) (FN h aD) aS aH)
  exact cb λ_ _ F k=>F aa (iq (aD.symm▸qa (nu c) (bf (gH ..) aS))) _ _ (cY h) aa rfl _ _ (fI [32] h (i5 (c9 _ _))) k
def lF:List (List Nat)->List Nat->Prop
 | [],_=>True
 |e::E,r=>ha e (E.flatten++r)/\lF E r
theorem ha.head {e r:List Nat} (h:ha e r): ∃c,(∃cN,e=c::cN)/\c∈ [13,10,133,8232,8233]:=by
 cases h
 ·exact⟨10,⟨[],rfl⟩,by decide⟩
 ·exact⟨13,⟨[],rfl⟩,by decide⟩
 ·exact⟨13,⟨[10],rfl⟩,by decide⟩
 ·exact⟨8232,⟨[],rfl⟩,by decide⟩
structure Tl (k n x:Nat):Prop where
 le:n<=k
 or:n=k\/x≠32
 nb: ¬x∈ [13,10,133,8232,8233]
def gv (E:List (List Nat)) (n x:Nat) (r:List Nat):List Nat:=E.flatten++hV n (x::r)
def Al (E:List (List Nat)) (n x:Nat) (r:List Nat):List Nat:=match E with
 | []=>x::r
 |e::E=>gv (e::E) n x r
theorem QA {b r:List Nat} {n x:Nat}: ∀{E:List (List Nat)},bD b (gv E n x r)->bD b (Al E n x r)
 | [],h=>bD.aO (s:=gQ n 32) h
 |_::_,h=>h
theorem K7 {p:Ps} {k n x:Nat} {m:aj} {L:List ae} {r:List Nat} (cj:Tl k n x): ∀(E:List (List Nat)),lF E (hV n (x::r))->bD p.buf (gv E n x r)->(cz p.buf (gv E n x r)).2=0->
  aJ (K6 (o7 p k m L (gv E n x r))) .aQ (o7 p k m L (Al E n x r))
 | [],_,h,aD=>K9 n 0 h aD ((jt n).symm▸cj.le) ((jt n).symm▸cj.or)
 |e::E,bw,h,aD=>ak bw.1.head λc q=>ak q.1 λcN he=>by
  subst he
  exact K9 (x:=c) 0 0 h aD (fw _) (cW λe=>absurd (e▸q.2) (by decide))
def adf:St->(cE->St->Prop)->Prop:=fb (ev (aI dr) sj.aO.aO.aO.hd.df).t (bN (aI dr) sj.aO.aO.aO.hd.bd)
def nL (E:List (List Nat)):List aj:=E.map λe=> .str (dV e)
def mJ (E:List (List Nat)):List ae:=(nL E).map .f
theorem F1 {e:List Nat} {E:List (List Nat)} {n x:Nat} {r:List Nat}:gv (e::E) n x r=e++gv E n x r:=bt ..
theorem wd {E:List (List Nat)} {n x:Nat} {r:List Nat}:gv E n x r≠ []:=i5 (i5 (c9 _ _))
theorem Fo {p:Ps} {e t:List Nat} (h:bD p.buf (e++t)) (bw:ha e t): ∃c,aJ (tD [.aq 30,.f (.int (.ofNat 0))] (p.hp (e++t))) (.f (.str [c])) (p.hp (e++t))/\c∈ [13,10,133,8232,8233]:=
 ak bw.head λc q=> ⟨c,ak q.1 λcN he=>by subst he;exact cY h,q.2⟩
theorem UC {p:Ps} {k n x:Nat} {r:List Nat} (cj:Tl k n x): ∀(E:List (List Nat)) (m:aj) (L:List ae),L.length+E.length<=1000000->lF E (hV n (x::r))->bD p.buf (Al E n x r)->
  ∃aU,aJ (adf (o7 p k m L (Al E n x r))) .aQ (o7 p k aU (L++mJ E) (x::r)):=by
 intro E
 induction E with
 |nil=>exact λm L _ _ h=> ⟨m,eS (kK (a:=ab .aQ) (b:=o7 p k m L (x::r)) (by exact cb λ_ _ F k=>F _ _ (cY h) ac (qX cj.nb) k) rfl (congrArg (λL=>o7 p k m L (x::r)) (dj L).symm))⟩
 |cons e E ai=>
  intro m L d9 bw h
  have ap:bD p.buf (e++gv E n x r):=F1▸h
  exact ak (ai (p.jf (gv E n x r)) (L++ [ae.f (aj.str (dV e))]) (by rw[bL,p9,kW [_].length];exact d9) bw.2 (QA ap.aO)) λaU i=>
   ⟨aU,fc (ak (Fo ap bw.1) λc q=>by
    have P:=q.1
    have Q:=vX ap bw.1 wd
    rw[<-F1] at P Q
    exact cb λ_ _ F k=>F _ _ P aa (DU q.2) _ _ Q (f3 (bf (gH ..) d9)) _ _ gP _ _ (K7 cj E bw.2 ap.aO (nO ap bw.1)) k) (bt L _ _▸i)⟩
theorem wq (l:List aj):eN (l.map .f)=ab l:=by
 induction l with
 |nil=>rfl
 |cons a l ai=>show(match eN (l.map .f) with
   |some r=>ab (a::r)
   |none=>af)=_;rw[ai]
theorem PP {p:Ps} {k n x:Nat} {r:List Nat} {E:List (List Nat)} (cj:Tl k n x) (d9:E.length<=1000000) (bw:lF E (hV n (x::r))) (h:bD p.buf (gv E n x r)) (aD:(cz p.buf (gv E n x r)).2=0):
  ∃m,aJ (wk [.aq 30,.f (.int (.ofNat k))] (p.hp (gv E n x r))) (.f (.tup [.lst (nL E),m])) (p.hp (x::r)):=by
 delta wk
 exact ak (UC cj E (p.jf (gv E n x r)) [] (bf (fi (jt _)) d9) bw (QA h)) λm i=> ⟨m,by exact aV λ_ _ F k=>F _ rfl _ _ gP _ _ (K7 cj E bw h aD) _ _ i _ (wq _) k⟩
noncomputable def yW:Option Bool->List Nat
 |none=> []
 |some aa=> [43]
 |some ac=> [45]
noncomputable def yX:Option Nat->List Nat
 |none=> []
 |some d=> [48+d]
noncomputable def qJ:Option Bool->aj
 |none=> .none
 |some b=> .bool b
noncomputable def yt:Option Nat->aj
 |none=> .none
 |some d=> .int (.ofNat d)
def Fe (d:Option Nat):Prop:=d=af\/d=ab 2\/d=ab 3\/d=ab 4
def io (b:Nat):Prop:=b=10\/b=13
theorem io.out {b:Nat} (h:io b) {l:List Nat} (k:(bO [10] l||bO [13] l)=ac):bO [b] l=ac:=by
 have k:=AO.mp k
 rcases h with rfl|rfl
 ·exact k.1
 ·exact k.2
theorem io.yY {b:Nat} (h:io b) {l:List Nat} (k:(bO [10] l&&bO [13] l)=aa):bO [b] l=aa:=by
 have k:=fW.mp k
 rcases h with rfl|rfl
 ·exact k.1
 ·exact k.2
def DD (d:Option Nat) (ch:Option Bool) (b:Nat) (r:List Nat):List Nat:=yX d++(yW ch++b::r)
def tO (p:Ps) (d:Option Nat) (ch:Option Bool) (b:Nat) (r:List Nat):Prop:= ∀m,bD p.buf (DD d ch b r)->aJ (wl [.aq 30,m] (p.hp (DD d ch b r))) (.f (.tup [qJ ch,yt d])) (p.hp (b::r))
theorem afs {p:Ps} {d:Option Nat} {ch:Option Bool} {b:Nat} {r:List Nat} (hd:Fe d) (ag:io b):tO p d ch b r:=by
 have ap:=ag.out (l:= [43,45]) rfl
 have aC:=ag.out (l:= [48,49,50,51,52,53,54,55,56,57]) rfl
 have bu:=congrArg not (ag.yY (l:= [0,32,13,10,133,8232,8233]) rfl)
 have N: ∀ch,tO p af ch b r:=λch=>by
  delta tO wl
  cases ch with
  |none=>exact λm h=>by exact aV λ_ _ F k=>F _ _ (cY h) ac ap ac aC _ _ (cY h) _ bu k
  |some c=>cases c with
   |false=>exact λm h=>by exact aV λ_ _ F k=>F _ _ (cY h) aa rfl ac rfl _ _ (fI [45] h (c9 _ _)) _ _ (cY (h.aO (s:= [45]))) ac aC _ _ (cY (h.aO (s:= [45]))) _ bu k
   |true=>exact λm h=>by exact aV λ_ _ F k=>F _ _ (cY h) aa rfl aa rfl _ _ (fI [43] h (c9 _ _)) _ _ (cY (h.aO (s:= [43]))) ac aC _ _ (cY (h.aO (s:= [43]))) _ bu k
 have D: ∀d,d=2\/d=3\/d=4-> ∀ch,tO p (ab d) ch b r:=λd hd ch=>by
  have e:bO [48+d] [43,45]=ac/\bO [48+d] [48,49,50,51,52,53,54,55,56,57]=aa/\wt [48+d]=ab d/\decide (c1 d=0)=ac:=by
   rcases hd with rfl|rfl|rfl<;>exact⟨rfl,rfl,rfl,rfl⟩
  delta tO wl
  cases ch with
  |none=>exact λm h=>by exact aV λ_ _ F k=>F _ _ (cY h) ac e.1 aa e.2.1 _ e.2.2.1 ac e.2.2.2 _ _ (fI [48+d] h (c9 _ _)) _ _ (cY (h.aO (s:= [48+d]))) ac ap _ _ (cY (h.aO (s:= [48+d]))) _ bu k
  |some c=>cases c with
   |false=>exact λm h=>by exact aV λ_ _ F k=>F _ _ (cY h) ac e.1 aa e.2.1 _ e.2.2.1 ac e.2.2.2 _ _ (fI [48+d] h (c9 _ _)) _ _ (cY (h.aO (s:= [48+d]))) aa rfl ac rfl _ _ (fI [45] (h.aO (s:= [48+d])) (c9 _ _)) _ _ (cY (h.aO (s:= [48+d,45]))) _ bu k
   |true=>exact λm h=>by exact aV λ_ _ F k=>F _ _ (cY h) ac e.1 aa e.2.1 _ e.2.2.1 ac e.2.2.2 _ _ (fI [48+d] h (c9 _ _)) _ _ (cY (h.aO (s:= [48+d]))) aa rfl aa rfl _ _ (fI [43] (h.aO (s:= [48+d])) (c9 _ _)) _ _ (cY (h.aO (s:= [48+d,43]))) _ bu k
 rcases hd with rfl|h|h|h
 ·exact N ch
 ·exact h▸D 2 (d7 rfl) ch
 ·exact h▸D 3 (cW (d7 rfl)) ch
 ·exact h▸D 4 (cW (cW rfl)) ch
def Zi:St->(cE->St->Prop)->Prop:=fb (ev (aI dr) xO.aO.aO.aO.hd.df).t (bN (aI dr) xO.aO.aO.aO.hd.bd)
def DV (p:Ps) (mk:aj) (n:Nat) (t:List Nat):St:=⟨[(37,ab (.aq 30)),(80,ab (.aq 100)),(149,ab (.f (.int (.ofNat n)))),(117,ab (.f mk))],p.hp t,[(100,.list [])],[100]⟩
theorem Zj {p:Ps} {x:Nat} {r:List Nat} {mk:aj} (aH: ¬x∈ [32,13,10,133,8232,8233]): ∀(n c:Nat),bD p.buf (hV n (x::r))->(cz p.buf (hV n (x::r))).2=c->aJ (Zi (DV p mk c (hV n (x::r)))) .aQ (DV p mk (c+n) (x::r)):=λn=>by
 induction n with
 |zero=>exact λc h aD=>eS (by exact cb λ_ _ F k=>F _ _ (cY h) ac (qX aH) k)
 |succ n ai=>
  intro c h aD
  have i:=ai (c+1) (bD.aO (s:= [32]) h) (FN h aD)
  rw[R7] at i
  have Mr:(cz p.buf (hV n (x::r))).2=c+1:=FN h aD
  refine fc (kK ?_ rfl (congrArg (λn=>DV p mk n _) Mr)) i
  exact cb λ_ _ F k=>F _ _ (cY h) aa rfl _ _ (cY h) ac rfl _ _ (fI [32] h (i5 (c9 _ _))) aa (iq (Mr.symm▸nu c)) k
theorem afr {p:Ps} {n x:Nat} {r:List Nat} (aH: ¬x∈ [32,13,10,133,8232,8233]) (h:bD p.buf (hV n (x::r))) (aD:(cz p.buf (hV n (x::r))).2=0):
  ∃m,aJ (tE [.aq 30] (p.hp (hV n (x::r)))) (.f (.tup [.lst [],.int (.ofNat n),m])) (p.hp (x::r)):=by
 delta tE
 refine⟨p.jf (hV n (x::r)), ?_⟩
 have L:=Zj (mk:=p.jf (hV n (x::r))) aH n 0 h aD
 rw[jt] at L
 exact aV λ_ _ F k=>F _ rfl _ _ gP _ _ L _ rfl k
theorem CJ {c:Nat} (h:c∈ [13,10,133,8232,8233]):aM [c] [32]=ac/\aM [c] [35]=ac/\(!bO [c] [0,13,10,133,8232,8233])=ac/\aM [c] [65279]=ac:=
 ⟨h9 λe=>by subst e;revert h;decide,h9 λe=>by subst e;revert h;decide,congrArg not (DU (eZ _ h)),h9 λe=>by subst e;revert h;decide⟩
theorem afn {p:Ps} {e r:List Nat} {m:ae} (he:ha e r) (aA:r≠ []) (h:bD p.buf (e++r)):aJ (Az [.aq 30,m] (p.hp (e++r))) (.f .none) (p.hp r):=by
 delta Az
 exact ak (Fo h he) λc q=>by
  have b:=CJ q.2
  exact(λL=>by exact aV λ_ _ F k=>F _ _ L _ _ q.1 ac b.2.1 _ _ q.1 ac b.2.2.1 _ _ (vX h he aA) k) (eS (cb λG W F w=>by exact F _ _ q.1 ac b.1 w):aJ (fb (ev (aI dr) xN.hd.df).t (bN (aI dr) xN.hd.bd) ⟨[(37,ab (.aq 30)),(158,ab m),(6,af)],p.hp (e++r),[],[]⟩) .aQ ⟨[(37,ab (.aq 30)),(158,ab m),(6,af)],p.hp (e++r),[],[]⟩)
abbrev g8:=List (List Nat×List Nat×List (List Nat))
noncomputable def hH (k:Nat):g8->List Nat->List Nat
 | [],t=>t
 |b::B,t=>gQ k 32++(b.1++(b.2.1++(b.2.2.flatten++hH k B t)))
def Tok (t:List Nat):Prop:= ∃x r,t=x::r/\ ¬x∈ [32,13,10,133,8232,8233]
structure Bc (l:List Nat):Prop where
 ne:l≠ []
 nb: ∀c∈l,¬c∈kB
def oc (k:Nat):g8->List Nat->Prop
 | [],t=>Tok t
 |b::B,t=>Bc b.1/\ha b.2.1 (b.2.2.flatten++hH k B t)/\lF b.2.2 (hH k B t)/\oc k B t
noncomputable def cnt:g8->Nat
 | []=>0
 |b::B=>2+b.2.2.length+cnt B
def lead (l:List Nat):Bool:= !bO [l.headD 0] [32,9]
def u1 (fold:Bool):g8->Prop
 | []=>True
 |b::B=> (match B with
  | []=>True
  |fO::_=>fold=aa->aM (dV b.2.1) [10]=aa->lead b.1=aa->lead fO.1=aa->b.2.2≠ [])/\u1 fold B
def sep (fold:Bool) (e l cA:List Nat):List (List Nat):=cond (fold&&(aM (dV e) [10]&&(lead l&&lead cA))) [] [dV e]
noncomputable def m6 (fold:Bool):g8->List (List Nat)->List (List Nat)->List (List Nat)×List Nat×List (List Nat)
 | [],ed,C=> (C,[],ed)
 |b::B,ed,C=>match B with
  | []=> (C++ed.map dV++ [b.1],dV b.2.1,b.2.2)
  |fO::_=>m6 fold B b.2.2 (C++ed.map dV++ [b.1]++sep fold b.2.1 b.1 fO.1)
def Bi (k:Nat) (B:g8) (t:List Nat) (n x:Nat) (r:List Nat):Prop:=hH k B t=hV n (x::r)/\Tl k n x/\match B with
 | []=>n=0
 |b::B=>n=k/\x::r=b.1++(b.2.1++(b.2.2.flatten++hH k B t))/\b.1.headD 0=x
theorem oc.aO {k:Nat} {B:g8} {t:List Nat} (h:oc k B t): ∃n x r,Bi k B t n x r:=by
 cases B with
 |nil=>exact bT h λx r h=> ⟨0,x,r,h.1,⟨fw _,cW λh'=>h.2 (h'▸et),λh'=>h.2 (eZ _ h')⟩,rfl⟩
 |cons b B=>
  have N: ∀l:List Nat,Bc l-> ∃x cA,l=x::cA/\ ¬x∈ [13,10,133,8232,8233]:=λl h=>by
   cases l with
   |nil=>exact absurd rfl h.ne
   |cons x l=>exact⟨x,l,rfl,λm=>h.nb x et (eZ _ (List.mem_append_left [65279] m))⟩
  exact bT (N b.1 h.1) λx l q=> ⟨k,x,l++(b.2.1++(b.2.2.flatten++hH k B t)),by show hV k (b.1++_)=_;rw[q.1];rfl,⟨fj _,d7 rfl,q.2⟩,rfl,by rw[q.1];rfl,by rw[q.1];rfl⟩
structure lK where
 fold:Bool
 m0:aj
 ch:aj
 inc:aj
 mZ:Option ae
 k:Nat
noncomputable def bJ (fold:Bool):Nat:=cond fold 62 124
noncomputable def cg (C:List (List Nat)):List ae:=C.map λx=> .f (.str x)
def pS (v:lK) (p:Ps) (b:List (List Nat)) (m:aj) (lb:List Nat) (y z:Option ae) (L:List ae) (t:List Nat):St:=⟨[(37,ab (.aq 30)),(68,ab (.f (.str [bJ v.fold]))),(86,ab (.f (.bool v.fold))),(80,ab (.aq 100)),(158,ab (.f v.m0)),(115,ab (.f v.ch)),(135,ab (.f v.inc)),(150,ab (.f (.int 1))),
 (78,ab (.f (.lst (nL b)))),(149,v.mZ),(117,ab (.f m)),(88,ab (.f (.int (.ofNat v.k)))),(148,ab (.f (.str lb))),(257,y),(89,z)],p.hp t,[(100,.list L)],[100]⟩
def sX:S:=xM.aO.aO.aO.aO.aO.aO.aO.aO.aO.aO
abbrev ON:=(ev (aI g4) sX.hd.df).t
abbrev OM:=bN (aI g4) sX.hd.bd
def NN:S:=sX.hd.bd.aO.aO.aO.hd
def OO:S:=sX.hd.bd.aO.aO.aO.aO.aO.aO.aO.aO
def abu:St->(cE->St->Prop)->Prop:=fb (ev (aI g4) NN.df).t (bN (aI g4) NN.bd)
theorem abv {v:lK} {bs:List (List Nat)} {m:aj} {lb:List Nat} {y:Option ae} {C:List ae} {p:Ps} {c:Nat} {r t:List Nat} (aD:c∈ [13,10,133,8232,8233]): ∀(b a:List Nat),t=a++(b++c::r)->bD p.buf t->(∀x∈b,¬x∈kB)->
  aJ (abu (pS v p bs m lb y (ab (.f (.int (.ofNat a.length)))) C t)) .aQ (pS v p bs m lb y (ab (.f (.int (.ofNat (a.length+b.length))))) C t):=λb=>by
 induction b with
 |nil=>exact λa e h _=>eS (by exact cb λ_ _ F k=>F _ _ (iR (i:=a.length) (c:=c) h (by rw[e,tR (fj _),w6];rfl)) _ (congrArg not (DU (eZ _ aD))) k)
 |cons x b ai=>
  intro a e h ag
  have i:=ai (a++ [x]) (e.trans (bt a [x] _).symm) h λz cH=>ag z (eZ _ cH)
  rw[bL,p9,kW [x].length] at i
  refine fc ?_ i
  exact cb λ_ _ F k=>F _ _ (iR (i:=a.length) (c:=x) h (by rw[e,tR (fj _),w6];rfl)) _ (congrArg not (OS (ag x et) rfl)) k
theorem h5 (C D:List (List Nat)):cg (C++D)=cg C++cg D:=lE
theorem lO (C:List (List Nat)):(cg C).length=C.length:=eg _
theorem x1 (C:List (List Nat)):(nL C).length=C.length:=eg _
theorem Cg {a b:Bool} (h:a=ac):(a&&b)=ac:=congrArg (· &&b) h
theorem sd {a b:Bool} (h:b=ac):(a&&b)=ac:=(congrArg (a&& ·) h).trans (hq a)
theorem Ci {a b:Bool} (h:a=aa) (k:b=aa):(a&&b)=aa:=(congrArg (· &&b) h).trans k
def FF (fold:Bool) (e l cA:List Nat):Bool:=fold&&(aM (dV e) [10]&&(lead l&&lead cA))
theorem afZ {fold:Bool} {e l cA:List Nat} (h:FF fold e l cA=ac):sep fold e l cA= [dV e]:=congrArg (λb=>cond b [] [dV e]) h
theorem af0 {fold:Bool} {e l cA:List Nat} (h:FF fold e l cA=aa):sep fold e l cA= []:=congrArg (λb=>cond b [] [dV e]) h
abbrev vE (v:lK) (p:Ps) (E:List (List Nat)) (m:aj) (e l:List Nat) (z:Option ae) (L:List ae) (t:List Nat):St:=pS v p E m (dV e) (ab (.f (.bool (lead l)))) z L t
theorem abX {v:lK} {p:Ps} {E:List (List Nat)} {m:aj} {e l cA:List Nat} {z:Option ae} {L:List ae} {x:Nat} {r:List Nat} {G:Prop} {W:Option cE->St->Prop}
  (h:bD p.buf (x::r)) (aD:(cz p.buf (x::r)).2=v.k) (aH: ¬x∈kB) (aA:cA.headD 0=x) (cH:L.length<=1000000) (bw:E.length<=1000000) (hf:v.fold=aa->aM (dV e) [10]=aa->lead l=aa->lead cA=aa->E≠ [])
  (F:aB.path G (bN (aI g4) OO (vE v p E m e l z L (x::r)) (cq W))) (w:W af (vE v p E m e l z (L++cg (sep v.fold e l cA)) (x::r))):G:=by
 have hM:=sv aD
 have qx:(!aM [x] [0])=aa:=congrArg not (h9 λe=>aH (by rw[e];exact et))
 have eC:=f3 cH
 have um:lead cA= !bO [x] [32,9]:=congrArg (λx=> !bO [x] [32,9]) aA
 have b2:FF v.fold e l cA=ac->W af (vE v p E m e l z (L++cg [dV e]) (x::r)):=λq=>afZ q▸w
 cases a1:v.fold with
 |false=>exact F aa hM _ _ (cY h) aa qx ac a1 eC (b2 (Cg a1))
 |true=>cases a2:aM (dV e) [10] with
  |false=>exact F aa hM _ _ (cY h) aa qx aa a1 ac a2 eC (b2 (sd (Cg a2)))
  |true=>cases nG:lead l with
   |false=>exact F aa hM _ _ (cY h) aa qx aa a1 aa a2 ac nG eC (b2 (sd (sd (Cg nG))))
   |true=>cases qp:bO [x] [32,9] with
    |true=>exact F aa hM _ _ (cY h) aa qx aa a1 aa a2 aa nG _ _ (cY h) _ (congrArg not qp) eC (b2 (sd (sd (sd (um.trans (congrArg not qp))))))
    |false=>
     have uo:=um.trans (congrArg not qp)
     rw[af0 (Ci a1 (Ci a2 (Ci nG uo))),show L++cg []=L from dj L] at w
     cases E with
     |nil=>exact absurd rfl (hf a1 a2 nG uo)
     |cons a E=>exact F aa hM _ _ (cY h) aa qx aa a1 aa a2 aa nG _ _ (cY h) _ (congrArg not qp) (f3 ((x1 (a::E)).symm▸bw)) aa rfl w
theorem CI {b r:List Nat} {n x:Nat}: ∀{E:List (List Nat)},lF E (hV n (x::r))->bD b (gv E n x r)->(cz b (gv E n x r)).2=0->(cz b (x::r)).2=n
 | [],_,h,aD=> (Vh (gQ n 32) h λc aD=>by rw[RR aD];decide).trans (by rw[show(cz b (gQ n 32++x::r)).2=0 from aD,A8,jt])
 |e::E,bw,h,_=>by
  rw[F1] at h
  exact CI bw.2 h.aO (nO h bw.1)
def mI (k:Nat) (b:List Nat×List Nat×List (List Nat)) (B:g8) (t:List Nat):List Nat:=b.1++(b.2.1++(b.2.2.flatten++hH k B t))
def OP:St->(cE->St->Prop)->Prop:=fb ON OM
theorem OQ {v:lK} {p:Ps} {t:List Nat} {B:g8} {b:List Nat×List Nat×List (List Nat)} {ed:List (List Nat)} {L:List ae} {m:aj} {lb:List Nat} {y z:Option ae} {n x:Nat} {r:List Nat}
  (eU:oc v.k (b::B) t) (ar:L.length+ed.length+cnt (b::B)<=1000000) (h:bD p.buf (mI v.k b B t)) (aD:(cz p.buf (mI v.k b B t)).2=v.k) (N:Bi v.k B t n x r):
  ∃aU,(cz p.buf (x::r)).2=n/\bD p.buf (x::r)/\ ∀{G:Prop} {W:Option cE->St->Prop},aB.path G (ON (pS v p ed m lb y z L (mI v.k b B t)) λr σ=>cond r (OM σ (cq W)) (.ret (W (ab .aQ) σ)))->
   aB.path G (bN (aI g4) OO (vE v p b.2.2 aU b.2.1 b.1 (ab (.f (.int (.ofNat b.1.length)))) (L++mJ ed++cg [b.1]) (x::r)) (cq W)):=by
 obtain ⟨l,e,E⟩:=b
 obtain ⟨aA,sH,bw,_⟩:=eU
 unfold mI at h aD⊢
 dsimp only at aA sH bw h aD⊢
 rw[N.1] at bw sH h aD⊢
 rw[show E.flatten++hV n (x::r)=gv E n x r from rfl] at sH h aD⊢
 have ap:=bD.aO h
 have aC:=ap.aO
 have cH:=nO ap sH
 unfold cnt at ar
 have kc:L.length<=1000000:=bf (bf (gH ..) (gH ..)) ar
 have gN:(nL ed).length<=1000000:=x1 ed▸bf (bf (lG ..) (gH ..)) ar
 have pH:(L++mJ ed).length<=1000000:=by rw[bL];unfold mJ;rw[eg,x1];exact bf (gH ..) ar
 have ab4:E.length<=1000000:=bf (bf (lG ..) (gH ..)) (bf (lG ..) ar)
 exact ak (PP (k:=v.k) N.2.1 ab4 bw aC cH) λaU g8=> ⟨aU,CI bw aC cH,bD.aO (s:=E.flatten++gQ n 32) (by rw[bt];exact aC),λF=>by
  cases l with
  |nil=>exact absurd rfl aA.ne
  |cons x0 l=>
   have aH:=aA.nb x0 et
   exact ak sH.head λc q=>ak q.1 λcN he=>by
    have cQ:=abv (v:=v) (p:=p) (bs:=ed) (m:=m) (lb:=lb) (y:=ab (.f (.bool (lead (x0::l))))) (C:=L++mJ ed) (c:=c) (r:=cN++gv E n x r) q.2 (x0::l) [] (by rw[he];rfl) h aA.nb
    rw[show([]:List Nat).length+(x0::l).length=(x0::l).length from jt _] at cQ
    exact F aa (sv aD) _ _ (cY h) _ (congrArg not (h9 λe=>aH (by rw[e];exact et))) ⟨f3 kc,f3 gN⟩ _ _ (cY h) _ _ cQ _ _ (kj (x0::l) h) (f3 pH) _ _ (fI (x0::l) h (i5 wd)) _ _ (vX ap sH wd) _ _ g8⟩
theorem CU (C ed:List (List Nat)) (l:List Nat):cg C++mJ ed++cg [l]=cg (C++ed.map dV++ [l]):=by
 rw[h5,h5];unfold mJ nL cg;rw[oI,oI];rfl
theorem Yv {l:List Nat} {x:Nat} (h:Bc l) (e:l.headD 0=x): ¬x∈kB:=by
 cases l with
 |nil=>exact absurd rfl h.ne
 |cons a l=>exact e▸h.nb a et
def v0 (v:lK) (p:Ps) (m:aj) (R:List (List Nat)×List Nat×List (List Nat)) (y z:Option ae) (t:List Nat):St:=pS v p R.2.2 m R.2.1 y z (cg R.1) t
theorem abW {v:lK} {p:Ps} {t:List Nat} (aS:0<v.k): ∀(B:g8) (b:List Nat×List Nat×List (List Nat)) (ed C:List (List Nat)) (m:aj) (lb:List Nat) (y z:Option ae),oc v.k (b::B) t->u1 v.fold (b::B)->C.length+ed.length+cnt (b::B)<=1000000->bD p.buf (mI v.k b B t)->(cz p.buf (mI v.k b B t)).2=v.k->
  ∃aU mi AJ,aJ (OP (pS v p ed m lb y z (cg C) (mI v.k b B t))) .aQ (v0 v p aU (m6 v.fold (b::B) ed C) mi AJ t):=λB=>by
 induction B with
 |nil=>
  intro b ed C m lb y z eU hf ar h aD
  refine c5 eU.2.2.2.aO λn x r N=>ak (OQ (lb:=lb) (y:=y) (z:=z) (m:=m) eU (lO C▸ar) h aD N) λaU q=> ⟨aU,ab (.f (.bool (lead b.1))),ab (.f (.int (.ofNat b.1.length))),eS (kK (cb λG W F w=> ?_) rfl (?_:vE v p b.2.2 aU b.2.1 b.1 (ab (.f (.int (.ofNat b.1.length)))) (cg C++mJ ed++cg [b.1]) (x::r)=_))⟩
  ·exact q.2.2 F ac (LU λe=>mu aS (N.2.2.symm.trans (q.1.symm.trans e))) w
  ·rw[CU,show x::r=t by have e:=N.1;rw[show n=0 from N.2.2] at e;exact e.symm];rfl
 |cons fO B ai=>
  intro b ed C m lb y z eU hf ar h aD
  refine c5 eU.2.2.2.aO λn x r N=>ak (OQ (lb:=lb) (y:=y) (z:=z) (m:=m) eU (lO C▸ar) h aD N) λaU q=> ?_
  have ex:x::r=mI v.k fO B t:=N.2.2.2.1
  have hs:(sep v.fold b.2.1 b.1 fO.1).length<=1:=by unfold sep;cases _&&_<;>exact cS rfl
  have nn:C.length+ed.length+(2+b.2.2.length+cnt (fO::B))<=1000000:=ar
  have i:=ai fO b.2.2 (C++ed.map dV++ [b.1]++sep v.fold b.2.1 b.1 fO.1) aU (dV b.2.1) (ab (.f (.bool (lead b.1)))) (ab (.f (.int (.ofNat b.1.length)))) eU.2.2.2 hf.2 (by simp only[bL,eg,du,eY];omega) (ex▸q.2.1) (ex▸q.1.trans N.2.2.1)
  rw[h5,<-CU,<-ex] at i
  refine c5 i λhE Ha mj i=> ⟨hE,Ha,mj,fc (cb λG W F w=> ?_) i⟩
  exact abX q.2.1 (q.1.trans N.2.2.1) (Yv eU.2.2.2.1 N.2.2.2.2) N.2.2.2.2 (by rw[CU,lO];simp only[bL,eg,du,eY];omega) (by omega) hf.1 (q.2.2 F) w
def m4 (ch:Option Bool) (R:List (List Nat)×List Nat×List (List Nat)):List (List Nat):=match ch with
 |some ac=>R.1
 |none=>R.1++ [R.2.1]
 |some aa=>R.1++R.2.1::R.2.2.map dV
def vN (fold:Bool) (ch:Option Bool) (B:g8) (dZ:List (List Nat)):List (List Nat):=m4 ch (m6 fold B dZ [])
theorem D5 (C:List (List Nat)) {loc:List (Nat×Option ae)} {hp:b5}:D4 (.aq 100) ⟨loc,hp,[(100,.list (cg C))],[100]⟩=ab C:=by
 show(match eN (cg C) with|some fs=>kN fs|none=>af)=ab C
 rw[show cg C=(C.map aj.str).map .f from(oI ..).symm,wq]
 show kN (C.map .str)=ab C
 induction C with
 |nil=>rfl
 |cons c C ai=>show(match kN (C.map .str) with
   |some l=>ab (c::l)
   |none=>af)=_;rw[ai]
noncomputable abbrev jO (val m aU y:aj):aj:= .inst 1141 [71,63,158,117,68] [val,.bool ac,m,aU,y]
theorem Vn (E:List (List Nat)):mJ E=cg (E.map dV):=by unfold mJ nL cg;rw[oI,oI];rfl
def ahn (v:lK) (p:Ps) (m:aj) (x:List Nat) (t:List Nat) (K:ae->b5->Prop):Prop:=K (.f (jO (.str x) v.m0 m (.str [bJ v.fold]))) (p.hp t)
theorem afN {v:lK} {R:List (List Nat)×List Nat×List (List Nat)} {m:aj} {y z:Option ae} {p:Ps} {t:List Nat} {ch:Option Bool} {G:Prop} {K:ae->b5->Prop} (DC:v.ch=qJ ch)
  (ar:R.1.length+R.2.2.length+1<=1000000) (hs:(a0 (m4 ch R)).length<=16777216)
  (F:aB.path G (bN (aI g4) sX.aO (v0 v p m R y z t) (ki K))) (k:ahn v p m (a0 (m4 ch R)) t K):G:=by
 have kc:cn (cg R.1)=aa:=f3 (lO R.1▸bf (bf (gH ..) (gH ..)) ar)
 obtain ⟨fold,m0,ai4,inc,mZ,Nb⟩:=v
 subst DC
 cases ch with
 |none=>
  have J:=D5 (R.1++ [R.2.1]) (loc:=(v0 ⟨fold,m0,qJ af,inc,mZ,Nb⟩ p m R y z t).loc) (hp:=p.hp t)
  rw[h5] at J
  exact F aa rfl kc ac rfl _ J hs _ _ (λK k=> ⟨_,rfl,rfl,k⟩) k
 |some c=>cases c with
  |false=>exact F ac rfl ac rfl _ (D5 R.1) hs _ _ (λK k=> ⟨_,rfl,rfl,k⟩) k
  |true=>
   have J:=D5 (R.1++ [R.2.1]++R.2.2.map dV) (loc:=(v0 ⟨fold,m0,qJ (ab aa),inc,mZ,Nb⟩ p m R y z t).loc) (hp:=p.hp t)
   rw[h5,h5,<-Vn] at J
   rw[show m4 (ab aa) R=R.1++ [R.2.1]++R.2.2.map dV from(bt R.1 [_] _).symm] at hs k
   exact F aa rfl kc aa rfl ⟨f3 (by rw[bL,lO];exact bf (h2 (gH ..) 1) ar),f3 (x1 R.2.2▸bf (bf (lG ..) (gH ..)) ar)⟩ _ J hs _ _ (λK k=> ⟨_,rfl,rfl,k⟩) k
theorem adZ {fold:Bool}: ∀(B:g8) (ed C:List (List Nat)),(m6 fold B ed C).1.length+(m6 fold B ed C).2.2.length<=C.length+ed.length+cnt B:=λB=>by
 induction B with
 |nil=>exact λed C=>fj _
 |cons b B ai=>
  intro ed C
  cases B with
  |nil=>simp only[m6,cnt,bL,eg,du,eY];omega
  |cons fO B=>
   have h:=ai b.2.2 (C++ed.map dV++ [b.1]++sep fold b.2.1 b.1 fO.1)
   have dI:(sep fold b.2.1 b.1 fO.1).length<=1:=by unfold sep;cases _&&_<;>exact cS rfl
   simp only[bL,eg,du,eY] at h
   exact bf h (by show _<=C.length+ed.length+(2+b.2.2.length+cnt (fO::B));omega)
structure Hl (fold:Bool) (d:Option Nat) (ch:Option Bool) (s:Nat) (e:List Nat) (dZ:List (List Nat)) (B:g8) (t:List Nat):Prop where
 hs:Fe (ab s)
 hd:d=af\/d=ab s
 he:ha e (dZ.flatten++hH s B t)
 ag:io (e.headD 0)
 h0:lF dZ (hH s B t)
 eU:oc s B t
 hf:u1 fold B
 ar:dZ.length+cnt B<=100000
 cH:(a0 (vN fold ch B dZ)).length<=16777216
 no:d=af->dZ= []/\ ∃b Hk,B=b::Hk/\b.1.headD 0≠32
def we (d:Option Nat) (ch:Option Bool) (s:Nat) (e:List Nat) (dZ:List (List Nat)) (B:g8) (t:List Nat):List Nat:=yX d++(yW ch++(e++(dZ.flatten++hH s B t)))
theorem afv {v:lK} {p:Ps} {t:List Nat} {B:g8} {dZ:List (List Nat)} {m:aj} {n x:Nat} {r:List Nat} (aS:0<v.k) (eU:oc v.k B t) (hf:u1 v.fold B) (ar:dZ.length+cnt B<=100000) (N:Bi v.k B t n x r) (h:bD p.buf (x::r)) (aD:(cz p.buf (x::r)).2=n):
  ∃aU mi AJ,aJ (OP (pS v p dZ m [] af af (cg []) (x::r))) .aQ (v0 v p aU (m6 v.fold B dZ []) mi AJ t):=by
 cases B with
 |nil=>
  have e:t=x::r:=by have e:=N.1;rw[show n=0 from N.2.2] at e;exact e
  subst e
  refine⟨m,af,af,eS ?_⟩
  exact cb λ_ _ F k=>F ac (LU λe=>mu aS ((show n=0 from N.2.2).symm.trans (aD.symm.trans e))) k
 |cons b B=>
  have i:=abW aS B b dZ [] m [] af af eU hf (bf (fi (congrArg (· +_) (jt _))) (bf ar (by decide))) (N.2.2.2.1▸h) (by rw[<-show x::r=mI v.k b B t from N.2.2.2.1];exact aD.trans N.2.2.1)
  rw[show mI v.k b B t=x::r from N.2.2.2.1.symm] at i
  exact i
def afW (p:Ps) (fold:Bool) (T:List Nat) (G:Prop) (K:ae->b5->Prop):Prop:=aB.path G (bN (aI g4) xM ⟨locs [37,68] [.aq 30,.f (.str [bJ fold])] [86,80,158,115,135,150,78,149,117,88,148,257,89],p.hp T,[],[]⟩ (ki K))
def N4 (v:lK) (p:Ps) (dZ:List (List Nat)) (m:aj) (T:List Nat) (G:Prop) (K:ae->b5->Prop):Prop:=aB.path G (bN (aI g4) sX (pS v p dZ m [] af af (cg []) T) (ki K))
set_option maxHeartbeats 8000000 in
theorem afX {p:Ps} {fold:Bool} {d:Option Nat} {ch:Option Bool} {s:Nat} {dZ:List (List Nat)} {m:aj} {T0 lL mD qk oY:List Nat} {G:Prop} {K:ae->b5->Prop} (hs:Fe (ab s)) (hd:d=af\/d=ab s) (kS:aJ (Aw [.aq 30,.f (.int 1)] (p.hp T0)) (.f .none) (p.hp lL)) (kT:aJ (wl [.aq 30,.f (p.jf T0)] (p.hp lL)) (.f (.tup [qJ ch,yt d])) (p.hp mD))
  (kU:aJ (Az [.aq 30,.f (p.jf T0)] (p.hp mD)) (.f .none) (p.hp qk)) (Ra:d=af->dZ= []/\aJ (tE [.aq 30] (p.hp qk)) (.f (.tup [.lst [],.int (.ofNat s),m])) (p.hp oY))
  (Rb:d=ab s->aJ (wk [.aq 30,.f (.int (.ofNat s))] (p.hp qk)) (.f (.tup [.lst (nL dZ),m])) (p.hp oY)) (F:afW p fold T0 G K):N4 ⟨fold,p.jf T0,qJ ch,yt d,cond d.isSome af (ab (.f (.int (.ofNat s)))),s⟩ p dZ m oY G K:=by
 have hs:s=2\/s=3\/s=4:=by rcases hs with h|h|h|h<;>cases h<;>decide
 delta N4
 rcases hd with rfl|rfl
 ·have A:=Ra rfl
  rw[A.1]
  rcases hs with rfl|rfl|rfl<;>cases fold
  ·exact F ac rfl _ rfl _ _ gP _ _ kS _ _ kT _ _ kU aa rfl aa rfl _ _ A.2
  ·exact F aa rfl _ rfl _ _ gP _ _ kS _ _ kT _ _ kU aa rfl aa rfl _ _ A.2
  ·exact F ac rfl _ rfl _ _ gP _ _ kS _ _ kT _ _ kU aa rfl aa rfl _ _ A.2
  ·exact F aa rfl _ rfl _ _ gP _ _ kS _ _ kT _ _ kU aa rfl aa rfl _ _ A.2
  ·exact F ac rfl _ rfl _ _ gP _ _ kS _ _ kT _ _ kU aa rfl aa rfl _ _ A.2
  ·exact F aa rfl _ rfl _ _ gP _ _ kS _ _ kT _ _ kU aa rfl aa rfl _ _ A.2
 ·have A:=Rb rfl
  rcases hs with rfl|rfl|rfl<;>cases fold
  ·exact F ac rfl _ rfl _ _ gP _ _ kS _ _ kT _ _ kU aa rfl ac rfl _ _ A
  ·exact F aa rfl _ rfl _ _ gP _ _ kS _ _ kT _ _ kU aa rfl ac rfl _ _ A
  ·exact F ac rfl _ rfl _ _ gP _ _ kS _ _ kT _ _ kU aa rfl ac rfl _ _ A
  ·exact F aa rfl _ rfl _ _ gP _ _ kS _ _ kT _ _ kU aa rfl ac rfl _ _ A
  ·exact F ac rfl _ rfl _ _ gP _ _ kS _ _ kT _ _ kU aa rfl ac rfl _ _ A
  ·exact F aa rfl _ rfl _ _ gP _ _ kS _ _ kT _ _ kU aa rfl ac rfl _ _ A
theorem afK {p:Ps} {fold:Bool} {d:Option Nat} {ch:Option Bool} {s:Nat} {e t:List Nat} {dZ:List (List Nat)} {B:g8} (b:Hl fold d ch s e dZ B t) (h:bD p.buf (bJ fold::we d ch s e dZ B t)):
  ∃m aU,aJ (Ay [.aq 30,.f (.str [bJ fold])] (p.hp (bJ fold::we d ch s e dZ B t))) (.f (jO (.str (a0 (vN fold ch B dZ))) m aU (.str [bJ fold]))) (p.hp t):=by
 have pw:0<s:=by rcases b.hs with h|h|h|h<;>cases h<;>decide
 refine c5 b.eU.aO λn x r N=>ak b.he.head λc q=>ak q.1 λcN he=> ?_
 have T:dZ.flatten++hH s B t=gv dZ n x r:=congrArg (dZ.flatten++ ·) N.1
 have bw:=b.h0
 have h0:=b.he
 unfold we at h⊢
 rw[T] at h h0⊢
 rw[N.1] at bw
 have ap:=bD.aO (s:= [bJ fold]) h
 have aC:=ap.aO.aO
 have aD:=nO aC h0
 have bu:=aC.aO
 have vi:=fI [bJ fold] h (i5 (i5 (i5 wd)))
 have pz:=λm=>afs (p:=p) (d:=d) (ch:=ch) (b:=c) (r:=cN++gv dZ n x r) (by rcases b.hd with h|h<;>rw[h];exact d7 rfl;exact b.hs) (by have:=b.ag;rw[he] at this;exact this) m
 unfold DD at pz
 rw[show c::(cN++gv dZ n x r)=e++gv dZ n x r by rw[he];rfl] at pz
 have vj:=λm=>afn (m:=m) h0 wd aC
 obtain ⟨m,vp,vq⟩: ∃m,(d=af->dZ= []/\aJ (tE [.aq 30] (p.hp (gv dZ n x r))) (.f (.tup [.lst [],.int (.ofNat s),m])) (p.hp (x::r)))/\(d=ab s->aJ (wk [.aq 30,.f (.int (.ofNat s))] (p.hp (gv dZ n x r))) (.f (.tup [.lst (nL dZ),m])) (p.hp (x::r))):=by
  rcases b.hd with q|q
  ·obtain ⟨z,qt,Hk,eU,aA⟩:=b.no q
   subst z
   have aH: ¬x∈ [32,13,10,133,8232,8233]/\n=s:=by
    have L:=b.eU
    rw[eU] at N L
    exact⟨λm=> (e6.mp m).elim (λe=>aA (N.2.2.2.2.trans e)) N.2.1.nb,N.2.2.1⟩
   obtain ⟨m,i⟩:=afr aH.1 bu aD
   exact⟨m,λ_=> ⟨rfl,Eq.subst (motive:=λs=>aJ (tE [.aq 30] (p.hp (gv [] n x r))) (.f (.tup [.lst [],.int (.ofNat s),m])) (p.hp (x::r))) aH.2 i⟩,λz=>absurd (q.symm.trans z) nofun⟩
  ·obtain ⟨m,i⟩:=PP (k:=s) N.2.1 (bf (gH ..) (bf b.ar (by decide))) bw bu aD
   exact⟨m,λz=>absurd (z.symm.trans q) nofun,λ_=>i⟩
 have aA:=adZ (fold:=fold) B dZ []
 have Vp:=CI bw bu aD
 have ot:bD p.buf (x::r):=bD.aO (s:=dZ.flatten++gQ n 32) (by rw[bt];exact bu)
 delta Ay
 obtain ⟨aU,y,z,L⟩:=afv (v:=⟨fold,p.jf (bJ fold::(yX d++(yW ch++(e++gv dZ n x r)))),qJ ch,yt d,cond d.isSome af (ab (.f (.int (.ofNat s)))),s⟩) (m:=m) pw b.eU b.hf b.ar N ot Vp
 exact⟨_,aU,aV λG K F k=>afN (R:=m6 fold B dZ []) (ch:=ch) rfl (bf (h2 (bf aA (fi (congrArg (· +_) (jt _)))) 1) (bf (h2 b.ar 1) (by decide))) b.cH (afX b.hs b.hd vi (pz _ ap) (vj _) vp vq F _ _ L) k⟩
def ai8 (a:List Nat) (c:Nat):Bool:= !en [c] a
theorem yc: ∀d,d<12->(d<10->((!en [48+d] [48])=aa/\(!en [57] [48+d])=aa)/\wt [48+d]=ab d)/\(10<=d->dv d= [49,48+(d-10)])/\(d<10->dv d= [48+d])/\wt (dv d)=ab d:=by decide
def Zn (c:Nat):Prop:=(!en [c] [48])=aa/\(!en [57] [c])=aa
theorem LI: ∀d,d<12-> ∀c∈dv d,(!en [c] [48])=aa/\(!en [57] [c])=aa:=by decide
theorem VB: ∀d,d<12-> ∃c w,dv d=c::w:=λd _=>by unfold dv;split<;>exact⟨_,_,rfl⟩
def acM:St->(cE->St->Prop)->Prop:=fb (ev (aI eR) xV.aO.aO.aO.hd.df).t (bN (aI eR) xV.aO.aO.aO.hd.bd)
def O8 (p:Ps) (m:ae) (c n:Nat) (t:List Nat):St:=⟨[(37,ab (.aq 30)),(158,ab m),(6,ab (.f (.str [c]))),(89,ab (.f (.int (.ofNat n)))),(71,af)],p.hp t,[],[]⟩
theorem uA {a b:List Nat} {c:Nat}:(a++c::b)[a.length]? =ab c:=by rw[tR (fj _),w6];rfl
theorem Uo {a l:List Nat} {x:Nat}:(a++x::l)[a.length+1]? =l.head? :=by rw[tR (ky _),show a.length.succ-a.length=1 from Be a.length 1];cases l<;>rfl
theorem acN {p:Ps} {m:ae} {x c:Nat} {r:List Nat} (aD:c=46\/io c): ∀(w a:List Nat),(∀x∈w,Zn x)->bD p.buf (a++(w++c::r))->
  aJ (acM (O8 p m x a.length (a++(w++c::r)))) .aQ (O8 p m x (a++w).length (a++(w++c::r))):=λw=>by
 induction w with
 |nil=>
  intro a _ h
  rw[dj]
  have P:=iR h uA
  rcases aD with rfl|rfl|rfl
  ·exact eS (by exact cb λ_ _ F k=>F _ _ P ac rfl k)
  ·exact eS (by exact cb λ_ _ F k=>F _ _ P ac rfl k)
  ·exact eS (by exact cb λ_ _ F k=>F _ _ P ac rfl k)
 |cons y w ai=>
  intro a hw h
  have e:=bt a [y] (w++c::r)
  have i:=ai (a++ [y]) (λz cH=>hw z (eZ _ cH)) (e▸h)
  rw[e,bt a [y],bL] at i
  have cP:=hw y et
  exact fc (by exact cb λ_ _ F k=>F _ _ (iR h uA) aa cP.1 aa cP.2 k) i
theorem s_num {p:Ps} {d c:Nat} {r:List Nat} {m:ae} (hd:d<12) (aD:c=46\/io c) (h:bD p.buf (dv d++c::r)):
  aJ (GR [.aq 30,m] (p.hp (dv d++c::r))) (.f (.int (.ofNat d))) (p.hp (c::r)):=by
 delta GR
 obtain ⟨x,w,e⟩:=VB d hd
 have aH:=LI d hd x (e▸et)
 have P:aJ (tD [.aq 30,.f (.int (.ofNat 0))] (p.hp (dv d++c::r))) (.f (.str [x])) (p.hp (dv d++c::r)):=iR (i:=0) h (by rw[e];rfl)
 exact aV λ_ _ F k=>F _ _ P aa aH.1 aa aH.2 _ _ (acN aD (dv d) [] (LI d hd) h) _ _ (kj (dv d) h) _ ((yc d hd).2.2.2) _ _ (fI (dv d) h (c9 _ _)) k
theorem afo {p:Ps} {e r:List Nat} {m:aj} (he:ha e r) (aA:r≠ []) (h:bD p.buf (e++r)):aJ (GK [.aq 30,.f m] (p.hp (e++r))) (.f .none) (p.hp r):=by
 delta GK
 exact ak (Fo h he) λc q=>by
  have b:=CJ q.2
  exact(λL=>by exact aV λ_ _ F k=>F _ _ L _ _ q.1 ac b.2.1 _ _ q.1 ac b.2.2.1 _ _ (vX h he aA) k) (eS (cb λG W F w=>by exact F _ _ q.1 ac b.1 w):aJ (fb (ev (aI dr) xP.hd.df).t (bN (aI dr) xP.hd.bd) ⟨[(37,ab (.aq 30)),(158,ab (.f m)),(6,af)],p.hp (e++r),[],[]⟩) .aQ ⟨[(37,ab (.aq 30)),(158,ab (.f m)),(6,af)],p.hp (e++r),[],[]⟩)
theorem FL {t:St->(Bool->St->aB)->aB} {b:St->(cE->St->aB)->aB} {σ σ':St} (ap:aJ (kP t b σ) af σ') (aC:aJ (kP t b σ') (ab .aQ) σ'):aJ (fb t b σ) .aQ σ':=fc ap (eS aC)
def Q4 (p:Ps) (m:aj) (t:List Nat):St:=⟨[(37,ab (.aq 30)),(158,ab (.f m)),(59,af),(61,af)],p.hp t,[],[]⟩
theorem afU {p:Ps} {d b:Nat} {r:List Nat} {m:aj} (hd:d<12) (ag:io b) (h:bD p.buf (32::49::46::(dv d++b::r))):
  aJ (GS [.aq 30,.f m] (p.hp (32::49::46::(dv d++b::r)))) (.f (.tup [.int 1,.int (.ofNat d)])) (p.hp (b::r)):=by
 delta GS
 have ap:=bD.aO (s:= [32]) h
 have aC:=bD.aO (s:= [49]) ap
 have bu:=bD.aO (s:= [46]) aC
 have L:aJ (fb (ev (aI dr) xW.hd.df).t (bN (aI dr) xW.hd.bd) (Q4 p m (32::49::46::(dv d++b::r)))) .aQ (Q4 p m (49::46::(dv d++b::r))):=
  FL (by exact cb λ_ _ F k=>F _ _ (cY h) aa rfl _ _ (fI [32] h (c9 _ _)) k) (by exact cb λ_ _ F k=>F _ _ (cY ap) ac rfl k)
 exact aV λ_ _ F k=>F _ _ L _ _ (s_num (d:=1) (m:= .f m) (by decide) (d7 rfl) ap) _ _ (cY aC) ac rfl _ _ (fI [46] aC (i5 (c9 _ _))) _ _ (s_num (m:= .f m) hd (cW ag) bu) _ _ (cY bu.aO) _ (congrArg not (ag.yY (l:= [0,32,13,10,133,8232,8233]) rfl)) k
def G0 (x:Nat):Prop:=(!en [x] [48])=aa/\(!en [57] [x])=ac/\(!en [x] [65])=aa/\(!en [90] [x])=aa
def acm:St->(cE->St->Prop)->Prop:=fb (ev (aI eR) xQ.aO.aO.hd.df).t (bN (aI eR) xQ.aO.aO.hd.bd)
def OV (p:Ps) (m:aj) (n c:Nat) (t:List Nat):St:=⟨[(37,ab (.aq 30)),(158,ab (.f m)),(89,ab (.f (.int (.ofNat n)))),(6,ab (.f (.str [c]))),(71,af)],p.hp t,[],[]⟩
theorem OX {m:aj} {p:Ps} {r:List Nat}: ∀(w a:List Nat) (c:Nat),(w++32::r).head? =ab c->(∀x∈w,G0 x)->bD p.buf (a++(w++32::r))->
  aJ (acm (OV p m a.length c (a++(w++32::r)))) .aQ (OV p m (a++w).length 32 (a++(w++32::r))):=λw=>by
 induction w with
 |nil=>intro a c aD _ h;cases aD;rw[dj];exact eS (by exact cb λ_ _ F k=>F ac rfl ac rfl ac rfl ac rfl k)
 |cons x w ai=>
  intro a c aD hw h
  cases aD
  have e:=bt a [x] (w++32::r)
  have aH:=hw x et
  obtain ⟨d,hd⟩: ∃d,(w++32::r).head? =ab d:=by cases w<;>exact⟨_,rfl⟩
  have i:=ai (a++ [x]) d hd (λz cH=>hw z (eZ _ cH)) (e▸h)
  rw[e,bt a [x],bL] at i
  have P:=iR (i:=a.length+1) (c:=d) h (Uo.trans hd)
  exact fc (by exact cb λ_ _ F k=>F aa aH.1 ac aH.2.1 aa aH.2.2.1 aa aH.2.2.2 _ _ P k) i
theorem PU {p:Ps} {r w:List Nat} {m:aj} (hw:w= [89,65,77,76]\/w= [84,65,71]) (h:bD p.buf (w++32::r)):
  aJ (GL [.aq 30,.f m] (p.hp (w++32::r))) (.f (.str w)) (p.hp (32::r)):=by
 delta GL
 rcases hw with rfl|rfl
 ·exact aV λ_ _ F k=>F _ _ (cY h) _ _ (OX [89,65,77,76] [] 89 rfl (by unfold G0;decide) h) aa rfl _ _ (kj [89,65,77,76] h) _ _ (fI [89,65,77,76] h (c9 _ _)) _ _ (cY (h.aO (s:= [89,65,77,76]))) ac rfl k
 ·exact aV λ_ _ F k=>F _ _ (cY h) _ _ (OX [84,65,71] [] 84 rfl (by unfold G0;decide) h) aa rfl _ _ (kj [84,65,71] h) _ _ (fI [84,65,71] h (c9 _ _)) _ _ (cY (h.aO (s:= [84,65,71]))) ac rfl k
def ey (h:List Nat):Prop:=h= [33]\/h= [33,101,33]
def zP (x:List Nat):Prop:=x= [33,120]\/x= [33,121]\/x= [116]
def FV (p:Ps) (nm m:aj) (n c:Nat) (t:List Nat):St:=⟨[(37,ab (.aq 30)),(33,ab (.f nm)),(158,ab (.f m)),(6,ab (.f (.str [c]))),(89,ab (.f (.int (.ofNat n)))),(71,af)],p.hp t,[],[]⟩
theorem afl {p:Ps} {h r:List Nat} {m nm:aj} (cy:ey h) (c6:bD p.buf (h++32::r)):aJ (GO [.aq 30,.f nm,.f m] (p.hp (h++32::r))) (.f (.str h)) (p.hp (32::r)):=by
 delta GO
 rcases cy with rfl|rfl
 ·exact aV λ_ _ F k=>F _ _ (cY c6) ac rfl _ _ (iR (i:=1) c6 rfl) ac rfl _ _ (kj [33] c6) _ _ (fI [33] c6 (c9 _ _)) k
 ·have L:aJ (fb (ev (aI eR) xS.aO.aO.aO.aO.hd.bd.hd.df).t (bN (aI eR) xS.aO.aO.aO.aO.hd.bd.hd.bd) (FV p nm m 1 101 ([33,101,33]++32::r))) .aQ (FV p nm m 2 33 ([33,101,33]++32::r)):=
   fc (by exact cb λ_ _ F k=>F aa rfl ac rfl aa rfl ac rfl aa rfl aa rfl _ _ (iR (i:=2) c6 rfl) k) (eS (σ:=FV p nm m 2 33 ([33,101,33]++32::r)) (by exact cb λ_ _ F k=>F ac rfl ac rfl ac rfl ac rfl k))
  exact aV λ_ _ F k=>F _ _ (cY c6) ac rfl _ _ (iR (i:=1) c6 rfl) aa rfl _ _ L ac rfl _ _ (kj [33,101,33] c6) _ _ (fI [33,101,33] c6 (c9 _ _)) k
def AC:St->(cE->St->Prop)->Prop:=fb (ev (aI eR) xT.aO.aO.aO.hd.df).t (bN (aI eR) xT.aO.aO.aO.hd.bd)
def nh (p:Ps) (nm m:aj) (n c:Nat) (t:List Nat):St:=⟨[(37,ab (.aq 30)),(33,ab (.f nm)),(158,ab (.f m)),(80,ab (.aq 100)),(89,ab (.f (.int (.ofNat n)))),(6,ab (.f (.str [c])))],p.hp t,[(100,.list [])],[100]⟩
theorem afP {p:Ps} {x r:List Nat} {b:Nat} {m nm:aj} (aH:zP x) (ag:io b) (h:bD p.buf (x++b::r)):aJ (GP [.aq 30,.f nm,.f m] (p.hp (x++b::r))) (.f (.str x)) (p.hp (b::r)):=by
 delta GP
 have E: ∀n,aJ (AC (nh p nm m n b (x++b::r))) .aQ (nh p nm m n b (x++b::r)):=λn=>by
  rcases ag with rfl|rfl
  ·exact eS (by exact cb λ_ _ F k=>F ac rfl ac rfl ac rfl ac rfl k)
  ·exact eS (by exact cb λ_ _ F k=>F ac rfl ac rfl ac rfl ac rfl k)
 rcases aH with rfl|rfl|rfl
 ·have L:aJ (AC (nh p nm m 0 33 ([33,120]++b::r))) .aQ (nh p nm m 2 b ([33,120]++b::r)):=fc (σ₁:=nh p nm m 1 120 ([33,120]++b::r)) (by exact cb λ_ _ F k=>F ac rfl ac rfl ac rfl aa rfl ac rfl _ _ (iR (i:=1) h rfl) k) (fc (by exact cb λ_ _ F k=>F aa rfl ac rfl aa rfl ac rfl aa rfl aa rfl ac rfl _ _ (iR (i:=2) h rfl) k) (E 2))
  exact aV λ_ _ F k=>F _ rfl _ _ (cY h) _ _ L aa rfl _ _ (kj [33,120] h) rfl _ _ (fI [33,120] h (c9 _ _)) rfl aa rfl _ rfl (cS rfl) k
 ·have L:aJ (AC (nh p nm m 0 33 ([33,121]++b::r))) .aQ (nh p nm m 2 b ([33,121]++b::r)):=fc (σ₁:=nh p nm m 1 121 ([33,121]++b::r)) (by exact cb λ_ _ F k=>F ac rfl ac rfl ac rfl aa rfl ac rfl _ _ (iR (i:=1) h rfl) k) (fc (by exact cb λ_ _ F k=>F aa rfl ac rfl aa rfl ac rfl aa rfl aa rfl ac rfl _ _ (iR (i:=2) h rfl) k) (E 2))
  exact aV λ_ _ F k=>F _ rfl _ _ (cY h) _ _ L aa rfl _ _ (kj [33,121] h) rfl _ _ (fI [33,121] h (c9 _ _)) rfl aa rfl _ rfl (cS rfl) k
 ·have L:aJ (AC (nh p nm m 0 116 ([116]++b::r))) .aQ (nh p nm m 1 b ([116]++b::r)):=fc (by exact cb λ_ _ F k=>F aa rfl ac rfl aa rfl ac rfl aa rfl aa rfl ac rfl _ _ (iR (i:=1) h rfl) k) (E 1)
  exact aV λ_ _ F k=>F _ rfl _ _ (cY h) _ _ L aa rfl _ _ (kj [116] h) rfl _ _ (fI [116] h (c9 _ _)) rfl aa rfl _ rfl (cS rfl) k
def tv (p:Ps) (m:aj) (h:Option ae) (t:List Nat):St:=⟨[(37,ab (.aq 30)),(158,ab (.f m)),(87,h),(91,af)],p.hp t,[],[]⟩
def F0:St->(cE->St->Prop)->Prop:=fb (ev (aI g4) xR.hd.df).t (bN (aI g4) xR.hd.bd)
theorem Qz {p:Ps} {m:aj} {o:Option ae} {c:Nat} {r:List Nat} (aD:c≠32) (h:bD p.buf (32::c::r)):aJ (F0 (tv p m o (32::c::r))) .aQ (tv p m o (c::r)):=
 FL (by exact cb λ_ _ F k=>F _ _ (cY h) aa rfl _ _ (fI [32] h (c9 _ _)) k) (by exact cb λ_ _ F k=>F _ _ (cY (bD.aO (s:= [32]) h)) ac (h9 aD) k)
theorem afM {p:Ps} {h x r:List Nat} {b:Nat} {m:aj} (cy:ey h) (aH:zP x) (ag:io b) (c6:bD p.buf (32::(h++32::(x++b::r)))):
  aJ (GN [.aq 30,.f m] (p.hp (32::(h++32::(x++b::r))))) (.f (.tup [.str h,.str x])) (p.hp (b::r)):=by
 delta GN
 have ap:=bD.aO (s:= [32]) c6
 have aC:=ap.aO
 have bu:=bD.aO (s:= [32]) aC
 obtain ⟨c,h',e,aD⟩: ∃c h',h=c::h'/\c≠32:=by rcases cy with rfl|rfl<;>exact⟨_,_,rfl,by decide⟩
 obtain ⟨d,be,cN,hd⟩: ∃c h',x=c::h'/\c≠32:=by rcases aH with rfl|rfl|rfl<;>exact⟨_,_,rfl,by decide⟩
 have RG:aJ (F0 (tv p m af (32::(h++32::(x++b::r))))) .aQ (tv p m af (h++32::(x++b::r))):=by rw[e] at c6⊢;exact Qz aD c6
 have tQ:aJ (F0 (tv p m (ab (.f (.str h))) (32::(x++b::r)))) .aQ (tv p m (ab (.f (.str h))) (x++b::r)):=by rw[cN] at aC⊢;exact Qz hd aC
 have H:aJ (QK [.aq 30,.f m] (p.hp (h++32::(x++b::r)))) (.f (.str h)) (p.hp (32::(x++b::r))):=by exact aV λ_ _ F k=>F _ _ (afl cy ap) _ _ (cY aC) ac rfl k
 have X:aJ (QL [.aq 30,.f m] (p.hp (x++b::r))) (.f (.str x)) (p.hp (b::r)):=by exact aV λ_ _ F k=>F _ _ (afP aH ag bu) _ _ (cY bu.aO) _ (congrArg not (ag.yY (l:= [0,32,13,10,133,8232,8233]) rfl)) k
 exact aV λ_ _ F k=>F _ _ RG _ _ H _ _ tQ _ _ X k
noncomputable def Ps.hl (p:Ps) (n:Nat):Ps:={p with dJ:=n}
noncomputable def Ps.aO (p:Ps) (l:List ae):Ps:={p with tok:=l}
noncomputable def Ps.ej (p:Ps) (a:Bool):Ps:={p with ask:=a}
noncomputable def Ps.cq (p:Ps) (a:Bool) (t:aj):Ps:={p with ask:=a,tok:= [.f t]}
theorem Ps.zR {p:Ps} (h:p.dJ=33):p=p.hl 33:=by cases p;cases h;rfl
theorem Ps.nc {p:Ps} {l:List ae} (h:p.tok=l):p=p.aO l:=by cases p;cases h;rfl
theorem vZ {p:Ps} {t:List Nat} {c:Int} (h:decide (-1>c)=ac):aJ (AA [.aq 30,.f (.int c)] (p.hp t)) (.f .none) (p.hp t):=by
 delta AA
 have L:aJ (fb (ev (aI []) xX.aO.hd.df).t (bN (aI []) xX.aO.hd.bd) ⟨[(37,ab (.aq 30)),(82,ab (.f (.int c))),(32,af)],p.hp t,[],[]⟩) .aQ ⟨[(37,ab (.aq 30)),(82,ab (.f (.int c))),(32,af)],p.hp t,[],[]⟩:=eS (by exact cb λ_ _ F k=>F ac h k)
 exact aV λ_ _ F k=>F ac rfl _ _ L k
theorem z2 {p:Ps} {t:List Nat} (hp:p.dJ=33):aJ (GI [.aq 30] (p.hp t)) (.f .none) (p.hp t):=by
 delta GI
 rw[p.zR hp];exact aV λ_ _ F k=>F ac rfl k
theorem rn {p:Ps} {t:List Nat} (hp:p.dJ=33):aJ (GU [.aq 30] (p.hp t)) (.f .none) (p.hp t):=by
 delta GU
 rw[p.zR hp];exact aV λ_ _ F k=>F k
theorem afA {p:Ps} {t:List Nat} (hp:p.dJ=33):aJ (GG [.aq 30] (p.hp t)) (.f .none) (p.hp t):=by
 delta GG
 rw[p.zR hp];exact aV λ_ _ F k=>F _ _ (λK k=>k) k
theorem afw {p:Ps} {t:List Nat} (hd:p.done=ac) (cj:p.tok= []):aJ (wj [.aq 30] (p.hp t)) (.f (.bool aa)) (p.hp t):=by
 delta wj
 rw[p.nc cj];exact aV λ_ _ F k=>F ac hd rfl ac rfl k
structure jX (p:Ps) (t:aj):Prop where
 tok:p.tok= [.f t]
 st:p.done=aa\/p.dJ=33
theorem afx {p:Ps} {t:List Nat} {k:aj} (h:jX p k): ∃v,(v= .bool ac\/v= .none)/\aJ (wj [.aq 30] (p.hp t)) (.f v) (p.hp t):=by
 delta wj
 cases hd:p.done with
 |true=>exact⟨_,d7 rfl,by exact aV λ_ _ F k=>F aa hd k⟩
 |false=>
  have hs:=h.st.resolve_left (hd▸oC)
  have S:=rn (t:=t) hs
  have N:=afA (t:=t) hs
  rw[p.nc h.tok] at hd S N⊢
  exact⟨_,cW rfl,by exact aV λ_ _ F k=>F ac hd rfl aa rfl _ _ S _ _ N ac rfl k⟩
structure B2 (c:Nat):Prop where
 ei:c≠32
 cB:c≠35
 bo:c≠65279
 c0: ¬c∈ [13,10,133]
 ls: ¬c∈ [8232,8233]
def zH:S:=xU.aO.aO.hd
def Pa:St->(cE->St->Prop)->Prop:=fb (ev (aI dr) zH.df).t (bN (aI dr) zH.bd)
def O9:St->(cE->St->Prop)->Prop:=fb (ev (aI dr) zH.bd.hd.df).t (bN (aI dr) zH.bd.hd.bd)
def m2 (p:Ps) (b:Bool) (t:List Nat):St:=⟨[(37,ab (.aq 30)),(53,ab (.f (.bool b)))],p.hp t,[],[]⟩
theorem Pb {p:Ps} {c:Nat} {r:List Nat} {b:Bool} (aD:c≠32) (h:bD p.buf (c::r)):aJ (O9 (m2 p b (c::r))) .aQ (m2 p b (c::r)):=eS (by exact cb λ_ _ F k=>F _ _ (cY h) ac (h9 aD) k)
theorem acZ {p:Ps} {c:Nat} {r:List Nat} {b:Bool} (aD:c≠32) (h:bD p.buf (32::c::r)):aJ (O9 (m2 p b (32::c::r))) .aQ (m2 p b (c::r)):=
 FL (by exact cb λ_ _ F k=>F _ _ (cY h) aa rfl _ _ (fI [32] h (c9 _ _)) k) (by exact cb λ_ _ F k=>F _ _ (cY (bD.aO (s:= [32]) h)) ac (h9 aD) k)
theorem Pc {p:Ps} {c:Nat} {r:List Nat} (aD:B2 c) (h:bD p.buf (c::r)):aJ (Pa (m2 p ac (c::r))) .aQ (m2 p aa (c::r)):=
 fc (by exact cb λ_ _ F k=>F ac rfl _ _ (Pb aD.ei h) _ _ (cY h) ac (h9 aD.cB) _ _ (PZ h (qX aD.c0) (qX aD.ls)) ac rfl k) (eS (σ:=m2 p aa (c::r)) (by exact cb λ_ _ F k=>F aa rfl k))
inductive mo (t:List Nat):List Nat->Bool->Prop
 |no:mo t t ac
 |ei:mo t (32::t) ac
 |nl {e:List Nat} (h:ha e t):mo t (e++t) aa
theorem vY {p:Ps} {c:Nat} {r u:List Nat} {b:Bool} (g:mo (c::r) u b) (aD:B2 c) (h:bD p.buf u): ∃a,aJ (GQ [.aq 30] (p.hp u)) (.f .none) ((p.ej a).hp (c::r))/\bD p.buf (c::r):=by
 delta GQ
 have hd: ∀(a:Bool) (d:Nat) (g5:List Nat),bD p.buf (d::g5)->aM [d] [65279]=ac->aJ (Pa (m2 p ac (d::g5))) .aQ (m2 (p.ej a) aa (c::r))->aJ (bH (aI dr) [37] [53] xU [.aq 30] (p.hp (d::g5))) (.f .none) ((p.ej a).hp (c::r)):=λa d g5 h hd L=>by
  cases e:decide (c1 (pos p.buf (d::g5))=0) with
  |true=>exact aV λ_ _ F k=>F aa e _ _ (cY h) ac hd _ _ L k
  |false=>exact aV λ_ _ F k=>F ac e _ _ L k
 cases g with
 |no=>exact⟨p.ask,hd _ _ _ h (h9 aD.bo) (Pc aD h),h⟩
 |ei=>
  have ap:=bD.aO (s:= [32]) h
  refine⟨p.ask,hd _ _ _ h (h9 (by decide)) (fc ?_ (eS (σ:=m2 p aa (c::r)) (by exact cb λ_ _ F k=>F aa rfl k))),ap⟩
  exact cb λ_ _ F k=>F ac rfl _ _ (acZ aD.ei h) _ _ (cY ap) ac (h9 aD.cB) _ _ (PZ ap (qX aD.c0) (qX aD.ls)) ac rfl k
 | @nl e he=>
  have ap:=h.aO
  have ag:s9 (dV e)=aa:=by cases he<;>rfl
  have S:=vX h he (c9 _ _)
  obtain ⟨d,cN,yO,My⟩: ∃d cN,e=d::cN/\d∈ [13,10,133,8232,8233]:=ak he.head λc q=>ak q.1 λcN x=> ⟨c,cN,x,q.2⟩
  have b:=CJ My
  rw[yO] at h S⊢
  refine⟨aa,hd aa d _ h b.2.2.2 (fc ?_ (Pc (p:=p.ej aa) aD ap)),ap⟩
  exact cb λ_ _ F k=>F ac rfl _ _ (Pb (λe=>absurd (e▸My) (by decide)) h) _ _ (cY h) ac b.2.1 _ _ S aa (yO▸ag) ac rfl k
noncomputable abbrev lP (n v m aU:aj):aj:= .inst 876 [33,71,158,117] [n,v,m,aU]
noncomputable abbrev mP (m aU:aj):aj:= .inst 888 [158,117] [m,aU]
noncomputable abbrev uQ (m aU:aj):aj:= .inst 900 [158,117] [m,aU]
noncomputable abbrev z4 (m aU:aj):aj:= .inst 932 [158,117] [m,aU]
inductive rM:List Nat->aj->aj->Prop
 |y (d:Nat) (h:d<12):rM ([89,65,77,76]++32::49::46::dv d) (.str [89,65,77,76]) (.tup [.int 1,.int (.ofNat d)])
 |t (h x:List Nat) (cy:ey h) (aH:zP x):rM ([84,65,71]++32::(h++32::x)) (.str [84,65,71]) (.tup [.str h,.str x])
theorem afc {p:Ps} {e r w:List Nat} {n v:aj} (hw:rM w n v) (he:ha e r) (aC:io (e.headD 0)) (aA:r≠ []) (h:bD p.buf (37::(w++(e++r)))):
  ∃m aU,aJ (GJ [.aq 30] (p.hp (37::(w++(e++r))))) (.f (lP n v m aU)) (p.hp r):=by
 delta GJ
 obtain ⟨b,cN,rfl⟩: ∃b cN,e=b::cN:=ak he.head λc q=>ak q.1 λcN x=> ⟨c,cN,x⟩
 have yJ:=λm=>afo (m:=m) he aA (bD.aO (s:= [37]) h).aO
 cases hw with
 |y d hd=>
  rw[show([89,65,77,76]++32::49::46::dv d)++(b::cN++r)= [89,65,77,76]++32::49::46::(dv d++b::(cN++r)) from bt ..] at h⊢
  have ap:=bD.aO (s:= [37]) h
  refine⟨p.jf (37::([89,65,77,76]++32::49::46::(dv d++b::(cN++r)))),p.jf (b::(cN++r)), ?_⟩
  exact aV λ_ _ F k=>F _ _ gP _ _ (fI [37] h (c9 _ _)) _ _ (PU (d7 rfl) ap) aa rfl _ _ (afU hd aC (ap.aO (s:= [89,65,77,76]))) _ _ gP _ _ (yJ _) _ _ (λK k=> ⟨_,rfl,rfl,k⟩) k
 |t x y cy aH=>
  rw[show([84,65,71]++32::(x++32::y))++(b::cN++r)= [84,65,71]++32::(x++32::(y++b::(cN++r))) by simp] at h⊢
  have ap:=bD.aO (s:= [37]) h
  refine⟨p.jf (37::([84,65,71]++32::(x++32::(y++b::(cN++r))))),p.jf (b::(cN++r)), ?_⟩
  exact aV λ_ _ F k=>F _ _ gP _ _ (fI [37] h (c9 _ _)) _ _ (PU (cW rfl) ap) ac rfl aa rfl _ _ (afM cy aH aC (ap.aO (s:= [84,65,71]))) _ _ gP _ _ (yJ _) _ _ (λK k=> ⟨_,rfl,rfl,k⟩) k
structure lB (p:Ps):Prop where
 dJ:p.dJ=33
 tok:p.tok= []
 done:p.done=ac
theorem afi {p:Ps} {e r w:List Nat} {n v:aj} (E:lB p) (hw:rM w n v) (he:ha e r) (aC:io (e.headD 0)) (aA:r≠ []) (h:bD p.buf (37::(w++(e++r)))):
  ∃m aU,aJ (Gw [.aq 30] (p.hp (37::(w++(e++r))))) (.f .none) ((p.cq ac (lP n v m aU)).hp r):=by
 delta Gw
 obtain ⟨m,aU,D⟩:=afc (p:=(p.aO []).ej ac) hw he aC aA h
 refine⟨m,aU, ?_⟩
 have R:=z2 (p:=p.aO []) (t:=37::(w++(e++r))) E.dJ
 rw[p.nc E.tok]
 exact aV λ_ _ F k=>F _ _ (vZ rfl) _ _ R _ _ D rfl k
theorem ae8 {p:Ps} {b:Nat} {r:List Nat} (ag:b=32) (aD:(cz p.buf (45::45::45::b::r)).2=0) (h:bD p.buf (45::45::45::b::r)):aJ (QH [.aq 30] (p.hp (45::45::45::b::r))) (.f (.bool aa)) (p.hp (45::45::45::b::r)):=by
 subst ag
 exact aV λ_ _ F k=>F aa (sv aD) _ _ (kj [45,45,45] h) aa rfl _ _ (iR (i:=3) h rfl) aa rfl k
theorem ae7 {p:Ps} {b:Nat} {r:List Nat} (ag:io b) (aD:(cz p.buf (46::46::46::b::r)).2=0) (h:bD p.buf (46::46::46::b::r)):aJ (QG [.aq 30] (p.hp (46::46::46::b::r))) (.f (.bool aa)) (p.hp (46::46::46::b::r)):=by
 exact aV λ_ _ F k=>F aa (sv aD) _ _ (kj [46,46,46] h) aa rfl _ _ (iR (i:=3) h rfl) aa (ag.yY (l:= [0,32,9,13,10,133,8232,8233]) rfl) k
theorem ae6 {p:Ps} {t:List Nat} (aD:(cz p.buf t).2=0):aJ (QF [.aq 30] (p.hp t)) (.f (.bool aa)) (p.hp t):=by
 exact aV λ_ _ F k=>F aa (sv aD) k
theorem PS {p:Ps} {x y z b C:Nat} {r:List Nat} (E:lB p) (f9:C=888\/C=900) (h:bD p.buf (x::y::z::b::r)):
  ∃m aU,aJ (QJ [.aq 30,.f (.st C)] (p.hp (x::y::z::b::r))) (.f .none) ((p.cq ac (.inst C [158,117] [m,aU])).hp (b::r)):=by
 refine⟨p.jf (x::y::z::b::r),p.jf (b::r), ?_⟩
 have R:=z2 (p:=p.aO []) (t:=x::y::z::b::r) E.dJ
 have W:=fI (p:=(p.aO []).ej ac) [x,y,z] h (c9 _ _)
 rw[p.nc E.tok]
 rcases f9 with rfl|rfl
 ·exact aV λ_ _ F k=>F _ _ (vZ rfl) _ _ R _ _ (gP (p:=(p.aO []).ej ac) (t:=x::y::z::b::r)) _ _ W _ _ gP _ _ (λK k=> ⟨_,rfl,rfl,k⟩) rfl k
 ·exact aV λ_ _ F k=>F _ _ (vZ rfl) _ _ R _ _ (gP (p:=(p.aO []).ej ac) (t:=x::y::z::b::r)) _ _ W _ _ gP _ _ (λK k=> ⟨_,rfl,rfl,k⟩) rfl k
def BT (fold:Bool) (s:Nat) (w t val:List Nat):Prop:=
 ∃(d:Option Nat) (ch:Option Bool) (e:List Nat) (dZ:List (List Nat)) (B:g8),Hl fold d ch s e dZ B t/\w++t=we d ch s e dZ B t/\a0 (vN fold ch B dZ)=val
theorem BT.run {fold:Bool} {s:Nat} {w t val:List Nat} (b:BT fold s w t val) {p:Ps} (h:bD p.buf (bJ fold::(w++t))):
  ∃m aU,aJ (Ay [.aq 30,.f (.str [bJ fold])] (p.hp (bJ fold::(w++t)))) (.f (jO (.str val) m aU (.str [bJ fold]))) (p.hp t):=by
 obtain ⟨d,ch,e,dZ,B,ap,aC,rfl⟩:=b
 rw[aC] at h⊢
 exact afK ap h
theorem afh {p:Ps} {fold:Bool} {s:Nat} {w t val:List Nat} (b:BT fold s w t val) (E:lB p) (h:bD p.buf (bJ fold::(w++t))):
  ∃m aU,aJ (QI [.aq 30,.f (.str [bJ fold])] (p.hp (bJ fold::(w++t)))) (.f .none) ((p.cq aa (jO (.str val) m aU (.str [bJ fold]))).hp t):=by
 obtain ⟨m,aU,D⟩:=b.run (p:=(p.aO []).ej aa) h
 refine⟨m,aU, ?_⟩
 have R:=z2 (p:=(p.aO []).ej aa) (t:=bJ fold::(w++t)) E.dJ
 rw[p.nc E.tok]
 exact aV λ_ _ F k=>F _ _ R _ _ D rfl k
theorem aib {α:Type} {n:Nat} {v:α}: ∀{r:List (Nat×α)},aL n r=af->up n v r=r++ [(n,v)]
 | [],_=>rfl
 |p::r,h=>by
  unfold aL at h
  unfold up
  cases e:bA p.1 n with
  |true=>rw[e] at h;cases h
  |false=>rw[e] at h;exact congrArg (p:: ·) (aib h)
def Ps.Hc (p:Ps) (m:aj):Ps:={p with ask:=ac,dJ:=34,done:=aa,tok:= [.f (z4 m m)],r:=up 34 (.dict [] []) p.r}
def Ps.ly (p:Ps):Ps:={p with dJ:=34,ask:=ac,tok:= [],r:=up 34 (.dict [] []) p.r}
theorem afj {p:Ps} {t:List Nat} (E:lB p) (aS:aL 34 p.r=af):
  ∃m,aJ (GB [.aq 30] (p.hp t)) (.f .none) ((p.Hc m).hp t):=by
 delta GB
 refine⟨p.jf t, ?_⟩
 have R:=z2 (p:=(p.aO []).hl 33) (t:=t) rfl
 rw[p.nc E.tok,Ps.zR (p:=p.aO []) E.dJ]
 have N: ∀loc,newId ⟨loc,(((p.aO []).hl 33).ej ac).hp t,[],[]⟩ 33=ab 34:=λloc=>by
  show(match(match aL 34 p.r with|some _=>ac|none=>aa) with|true=>ab 34|false=>_)=ab 34
  rw[aS]
 exact aV λ_ _ F k=>F _ _ (vZ rfl) _ _ R _ (N _) _ _ (gP (p:=p.ly)) _ _ (λK k=> ⟨_,rfl,rfl,k⟩) rfl k
def ku (p:Ps) (u:List Nat) (q:Ps) (r:List Nat):Prop:=aJ (rA [.aq 30] (p.hp u)) (.f .none) (q.hp r)
theorem tj {p:Ps} {t dR:List Nat}:aJ (AA [.aq 30,.f (.int (.ofNat (cz p.buf dR).2))] (p.hp t)) (.f .none) (p.hp t):=vZ rfl
theorem wa {c:Nat} (h:c=37\/c=45\/c=46\/c=124\/c=62\/c=0):B2 c:=by
 rcases h with rfl|rfl|rfl|rfl|rfl|rfl<;>exact⟨by decide,by decide,by decide,by decide,by decide⟩
theorem abz {p:Ps} {u e r w:List Nat} {n v:aj} {b:Bool} (E:lB p) (g:mo (37::(w++(e++r))) u b) (aD:(cz p.buf (37::(w++(e++r)))).2=0) (hw:rM w n v) (he:ha e r) (aC:io (e.headD 0)) (aA:r≠ []) (h:bD p.buf u):
  ∃m aU,ku p u (p.cq ac (lP n v m aU)) r:=by
 obtain ⟨a,R,ap⟩:=vY g (wa (d7 rfl)) h
 obtain ⟨m,aU,D⟩:=afi (p:=p.ej a) ⟨E.dJ,E.tok,E.done⟩ hw he aC aA ap
 refine⟨m,aU, ?_⟩
 delta ku rA
 exact aV λ_ _ F k=>F _ _ R _ _ (rn (p:=p.ej a) E.dJ) _ _ (tj (p:=p.ej a)) _ _ (cY (p:=p.ej a) ap) ac rfl aa rfl _ _ (ae6 (p:=p.ej a) aD) aa rfl _ _ D k
theorem abB {p:Ps} {u r:List Nat} {b:Bool} (E:lB p) (g:mo (45::45::45::32::r) u b) (aD:(cz p.buf (45::45::45::32::r)).2=0) (h:bD p.buf u): ∃m aU,ku p u (p.cq ac (mP m aU)) (32::r):=by
 obtain ⟨a,R,ap⟩:=vY g (wa (by decide)) h
 obtain ⟨m,aU,D⟩:=PS (p:=p.ej a) ⟨E.dJ,E.tok,E.done⟩ (d7 rfl) ap
 refine⟨m,aU, ?_⟩
 have ff:aJ (Gy [.aq 30] ((p.ej a).hp (45::45::45::32::r))) (.f .none) ((p.cq ac (mP m aU)).hp (32::r)):=by
  delta Gy
  exact aV λ_ _ F k=>F _ _ D k
 delta ku rA
 exact aV λ_ _ F k=>F _ _ R _ _ (rn (p:=p.ej a) E.dJ) _ _ (tj (p:=p.ej a)) _ _ (cY (p:=p.ej a) ap) ac rfl ac rfl aa rfl _ _ (ae8 (p:=p.ej a) rfl aD ap) aa rfl _ _ ff k
theorem abA {p:Ps} {u r:List Nat} {b:Bool} {c:Nat} (E:lB p) (ag:io c) (g:mo (46::46::46::c::r) u b) (aD:(cz p.buf (46::46::46::c::r)).2=0) (h:bD p.buf u): ∃m aU,ku p u (p.cq ac (uQ m aU)) (c::r):=by
 obtain ⟨a,R,ap⟩:=vY g (wa (by decide)) h
 obtain ⟨m,aU,D⟩:=PS (p:=p.ej a) ⟨E.dJ,E.tok,E.done⟩ (cW rfl) ap
 refine⟨m,aU, ?_⟩
 have ff:aJ (Gx [.aq 30] ((p.ej a).hp (46::46::46::c::r))) (.f .none) ((p.cq ac (uQ m aU)).hp (c::r)):=by
  delta Gx
  exact aV λ_ _ F k=>F _ _ D k
 delta ku rA
 exact aV λ_ _ F k=>F _ _ R _ _ (rn (p:=p.ej a) E.dJ) _ _ (tj (p:=p.ej a)) _ _ (cY (p:=p.ej a) ap) ac rfl ac rfl ac rfl aa rfl _ _ (ae7 (p:=p.ej a) ag aD ap) aa rfl _ _ ff k
theorem N2 {p:Ps} {u w t val:List Nat} {s:Nat} {b fold:Bool} (B:BT fold s w t val) (E:lB p) (g:mo (bJ fold::(w++t)) u b) (h:bD p.buf u): ∃m aU,ku p u (p.cq aa (jO (.str val) m aU (.str [bJ fold]))) t:=by
 obtain ⟨a,R,ap⟩:=vY g (wa (by cases fold<;>decide)) h
 obtain ⟨m,aU,D⟩:=afh (p:=p.ej a) B ⟨E.dJ,E.tok,E.done⟩ ap
 refine⟨m,aU, ?_⟩
 delta ku rA
 cases fold with
 |false=>
  have ff:aJ (GA [.aq 30] ((p.ej a).hp (124::(w++t)))) (.f .none) ((p.cq aa (jO (.str val) m aU (.str [124]))).hp t):=by
   delta GA
   exact aV λ_ _ F k=>F _ _ D k
  exact aV λ_ _ F k=>F _ _ R _ _ (rn (p:=p.ej a) E.dJ) _ _ (tj (p:=p.ej a)) _ _ (cY (p:=p.ej a) ap) ac rfl ac rfl ac rfl ac rfl ac rfl ac rfl ac rfl ac rfl ac rfl ac rfl ac rfl ac rfl ac rfl ac rfl ac rfl aa rfl ac rfl _ _ ff k
 |true=>
  have ff:aJ (Gz [.aq 30] ((p.ej a).hp (62::(w++t)))) (.f .none) ((p.cq aa (jO (.str val) m aU (.str [62]))).hp t):=by
   delta Gz
   exact aV λ_ _ F k=>F _ _ D k
  exact aV λ_ _ F k=>F _ _ R _ _ (rn (p:=p.ej a) E.dJ) _ _ (tj (p:=p.ej a)) _ _ (cY (p:=p.ej a) ap) ac rfl ac rfl ac rfl ac rfl ac rfl ac rfl ac rfl ac rfl ac rfl ac rfl ac rfl ac rfl ac rfl ac rfl ac rfl ac rfl aa rfl ac rfl _ _ ff k
theorem N3 {p:Ps} {u r:List Nat} {b:Bool} (E:lB p) (aS:aL 34 p.r=af) (g:mo (0::r) u b) (h:bD p.buf u): ∃m,ku p u (p.Hc m) (0::r):=by
 obtain ⟨a,R,ap⟩:=vY g (wa (by decide)) h
 obtain ⟨m,D⟩:=afj (p:=p.ej a) (t:=0::r) ⟨E.dJ,E.tok,E.done⟩ aS
 refine⟨m, ?_⟩
 delta ku rA
 exact aV λ_ _ F k=>F _ _ R _ _ (rn (p:=p.ej a) E.dJ) _ _ (tj (p:=p.ej a)) _ _ (cY (p:=p.ej a) ap) aa rfl _ _ D k
structure h1 (p:Ps) (u:List Nat) (q:Ps) (r:List Nat) (t:aj):Prop where
 hU:jX q t
 or:(q=p/\r=u)\/(p.tok= []/\p.done=ac/\ku p u q r)
theorem jX.aL {p:Ps} {u:List Nat} {t:aj} (h:jX p t):h1 p u p u t:=⟨h,d7 ⟨rfl,rfl⟩⟩
def zw:S:=CA.hd
def s8 (loc:List (Nat×Option ae)) (p:Ps) (u:List Nat):St:=⟨(37,ab (.aq 30))::loc,p.hp u,[],[]⟩
theorem E2 {p:Ps} {u:List Nat} {t:aj} {loc:List (Nat×Option ae)} (h:jX p t) {b:St->(cE->St->aB)->aB}:aJ (fb (ev (aI kh) zw.df).t b (s8 loc p u)) .aQ (s8 loc p u)/\aJ (fb (ev (aI eR) zw.df).t b (s8 loc p u)) .aQ (s8 loc p u):=by
 obtain ⟨v,aW,N⟩:=afx (t:=u) h
 rcases aW with rfl|rfl
 ·exact⟨eS (by exact cb λ_ _ F k=>F _ _ N ac rfl k),eS (by exact cb λ_ _ F k=>F _ _ N ac rfl k)⟩
 ·exact⟨eS (by exact cb λ_ _ F k=>F _ _ N ac rfl k),eS (by exact cb λ_ _ F k=>F _ _ N ac rfl k)⟩
theorem OT {p q:Ps} {u r:List Nat} {t:aj} {loc:List (Nat×Option ae)} (h:h1 p u q r t):aJ (fb (ev (aI kh) zw.df).t (bN (aI kh) zw.bd) (s8 loc p u)) .aQ (s8 loc q r):=by
 rcases h.or with⟨e1,e2⟩ | ⟨ap,aC,hY⟩
 ·subst e1;subst e2;exact(E2 h.hU).1
 ·exact fc (by exact cb λ_ _ F k=>F _ _ (afw aC ap) aa rfl _ _ hY k) (E2 h.hU).1
theorem pR {p q:Ps} {u r:List Nat} {t:aj} (h:h1 p u q r t):aJ (GH [.aq 30] (p.hp u)) (.f t) (q.hp r):=by
 delta GH
 have L:=OT (loc:= []) h
 rw[q.nc h.hU.tok] at L⊢
 exact aV λ_ _ F k=>F _ _ L rfl aa rfl _ rfl k
noncomputable def Ps.gt (p:Ps):Ps:={p with tok:= [],tt:=p.tt+1}
theorem oj {p:Ps} {u:List Nat} {t:aj} (h:jX p t):aJ (GD [.aq 30] (p.hp u)) (.f t) (p.gt.hp u):=by
 delta GD
 have L:=λb=> (E2 (loc:= []) (u:=u) (b:=b) h).2
 rw[p.nc h.tok] at L⊢
 exact aV λ_ _ F k=>F _ _ (L _) rfl aa rfl rfl k
noncomputable abbrev pA:List Nat:= [60,100,105,114,101,99,116,105,118,101,62]
noncomputable abbrev sQ:List Nat:= [60,100,111,99,117,109,101,110,116,32,115,116,97,114,116,62]
noncomputable abbrev sP:List Nat:= [60,100,111,99,117,109,101,110,116,32,101,110,100,62]
noncomputable abbrev sR:List Nat:= [60,115,116,114,101,97,109,32,101,110,100,62]
noncomputable abbrev MH:List Nat:= [60,115,99,97,108,97,114,62]
inductive Tk:aj->List Nat->Prop
 |dir (n v m aU:aj):Tk (lP n v m aU) pA
 |ds (m aU:aj):Tk (mP m aU) sQ
 |nP (m aU:aj):Tk (uQ m aU) sP
 |kl (m aU:aj):Tk (z4 m aU) sR
 |sc (x m aU y:aj):Tk (jO x m aU y) MH
theorem kL {p q:Ps} {u r:List Nat} {t c:aj} {cs:List aj} {id:List Nat} {b:Bool} (h:h1 p u q r t) (bj:Tk t id) (ag:kI (.str id) (c::cs)=ab b) (aA:cs.length<=100):aJ (Gv [.aq 30,.f (.tup (c::cs))] (p.hp u)) (.f (.bool b)) (q.hp r):=by
 delta Gv
 have L:=OT (loc:= [(102,ab (.f (.tup (c::cs))))]) h
 have hm:cn (c::cs)=aa:=f3 (bf (iY aA) (by decide))
 rw[q.nc h.hU.tok] at L⊢
 cases b with
 |false=>cases bj<;>exact aV λ_ _ F k=>F _ _ L rfl aa rfl hm aa rfl _ rfl ac ag ac rfl k
 |true=>cases bj<;>exact aV λ_ _ F k=>F _ _ L rfl aa rfl hm aa rfl _ rfl aa ag aa rfl k
noncomputable abbrev z3 (val m aU y:aj):aj:= .inst 280 [76,19,120,71,158,117,68] [.none,.none,.tup [.bool ac,.bool aa],val,m,aU,y]
noncomputable abbrev kC (m aU:aj) (b:Bool):aj:= .inst 248 [158,117,118] [m,aU,.bool b]
noncomputable abbrev oo (m aU e:aj):aj:= .inst 196 [158,117,116] [m,aU,e]
noncomputable abbrev gV (m aU:aj) (b:Bool) (v t:aj):aj:= .inst 228 [158,117,118,110,39] [m,aU,.bool b,v,t]
noncomputable abbrev ma (m aU:aj):aj:= .inst 208 [158,117] [m,aU]
noncomputable abbrev Vy:aj:=(.ek [[33],[33,33]] [(.str [33]),(.str [116,97,103,58,121,97,109,108,46,111,114,103,44,50,48,48,50,58])])
noncomputable def Ps.bY (p:Ps):Ps:={p with tok:= [],tt:=p.tt+1,st:= .dy 30 1869,fC:= []}
noncomputable def Ps.ss (p:Ps) (l:List ae):Ps:={p with fC:=l}
noncomputable def Ps.to (p:Ps) (s:Nat):Ps:={p with st:= .dy 30 s}
theorem Ps.Ab {p:Ps} {l:List ae} (h:p.fC=l):p=p.ss l:=by cases p;cases h;rfl
theorem hS {C:Nat} {ns:List Nat} {full:List ae} {hp:b5} {l:List aj} (h:eN full=ab l) (aA:bA l.length ns.length=aa):aJ (jK C ns full hp) (.f (.inst C ns l)) hp:=λ_ k=> ⟨l,h,aA,k⟩
set_option maxHeartbeats 4000000 in
theorem PO {p:Ps} {t:List Nat} {val m aU y:aj} (h:jX p (jO val m aU y)) (hs:p.fC= [.dy 30 1869]):aJ (Ar [.aq 30] (p.hp t)) (.f (z3 val m aU y)) (p.bY.hp t):=by
 have c:=λ{c:aj} {b:Bool} (ag:kI (.str MH) [c]=ab b)=>kL (u:=t) h.aL (.sc _ _ _ _) ag (fw _)
 have P:=pR (u:=t) h.aL
 have g:=oj (u:=t) h
 delta Ar
 rw[p.Ab hs] at c P g⊢
 have N:aJ (Gm [.aq 30,.f (.bool aa),.f (.bool ac)] ((p.ss [.dy 30 1869]).hp t)) (.f (z3 val m aU y)) (p.bY.hp t):=by
  delta Gm
  exact aV λ_ _ F k=>F _ _ (c rfl) ac rfl _ _ (c rfl) ac rfl _ _ (c rfl) ac rfl ac rfl aa rfl _ _ P aa rfl ac rfl _ _ (c rfl) aa rfl _ _ g ac rfl ac rfl aa rfl _ _ (hS rfl rfl) _ rfl rfl k
 exact aV λ_ _ F k=>F _ _ N k
theorem ae9 {p q:Ps} {u r:List Nat} {val m aU y:aj} (h:h1 p u q r (jO val m aU y)) (hs:q.fC= [.dy 30 1869]):aJ (As [.aq 30] (p.hp u)) (.f (z3 val m aU y)) (q.bY.hp r):=by
 delta As
 exact aV λ_ _ F k=>F _ _ (kL h (.sc _ _ _ _) (cs:= [.str sQ,.str sP,.str sR]) (c:= .str pA) (b:=ac) rfl (by decide)) ac rfl _ _ (PO h.hU hs) k
theorem afb {p q:Ps} {u r:List Nat} {m aU:aj} (h:h1 p u q r (uQ m aU)):aJ (tA [.aq 30] (p.hp u)) (.f (kC m aU aa)) ((q.gt.to 1862).hp r):=by
 delta tA
 exact aV λ_ _ F k=>F _ _ (pR h) _ _ (kL (u:=r) h.hU.aL (.nP _ _) (cs:= []) (c:= .str sP) (b:=aa) rfl (by decide)) aa rfl _ _ (oj h.hU) _ _ (hS rfl rfl) k
theorem PQ {p q:Ps} {u r id:List Nat} {t:aj} (h:h1 p u q r t) (dQ:Tk t id) (hy:kI (.str id) [.str sP]=ab ac): ∃m,aJ (tA [.aq 30] (p.hp u)) (.f (kC m m ac)) ((q.to 1862).hp r):=by
 delta tA
 have c:=kL (u:=r) h.hU.aL dQ hy (fw _)
 cases dQ with
 |nP=>cases hy
 |dir _ _ m=>exact⟨m,by exact aV λ_ _ F k=>F _ _ (pR h) _ _ c ac rfl _ _ (hS rfl rfl) k⟩
 |ds m=>exact⟨m,by exact aV λ_ _ F k=>F _ _ (pR h) _ _ c ac rfl _ _ (hS rfl rfl) k⟩
 |kl m=>exact⟨m,by exact aV λ_ _ F k=>F _ _ (pR h) _ _ c ac rfl _ _ (hS rfl rfl) k⟩
 |sc _ m=>exact⟨m,by exact aV λ_ _ F k=>F _ _ (pR h) _ _ c ac rfl _ _ (hS rfl rfl) k⟩
theorem afG {p:Ps} {u:List Nat} {m aU e:aj} (h:jX p (.inst 920 [158,117,116] [m,aU,e])):aJ (Au [.aq 30] (p.hp u)) (.f (oo m aU e)) ((p.gt.to 1855).hp u):=by
 delta Au
 exact aV λ_ _ F k=>F _ _ (oj h) _ _ (hS rfl rfl) k
def Ps.im (p:Ps):Ps:={p with FW:= .f Vy,fC:= [.dy 30 1869],st:= .dy 30 1890}
theorem afp {p q:Ps} {u r:List Nat} {val m aU y:aj} (h:h1 p u q r (jO val m aU y)) (hs:q.fC= []):aJ (tB [.aq 30] (p.hp u)) (.f (gV m m ac .none .none)) (q.im.hp r):=by
 delta tB
 have c:=kL h (.sc _ _ _ _) (cs:= [.str sQ,.str sR]) (c:= .str pA) (b:=ac) rfl (by decide)
 have P:=pR (p:={q.im with fC:= [],st:=q.st}) (u:=r) (t:=jO val m aU y) (jX.aL ⟨h.hU.tok,h.hU.st⟩)
 rw[q.Ab hs] at c
 exact aV λ_ _ F k=>F _ _ c ac rfl _ _ P _ _ (hS rfl rfl) rfl k
set_option genCtorIdx true in
inductive eJ|no|one|two
noncomputable abbrev mf (d:Nat):aj:= .tup [.int 1,.int (.ofNat d)]
noncomputable abbrev AE (h x:List Nat):aj:= .tup [.str h,.str x]
def c4:Option Nat->aj
 |none=> .none
 |some d=>mf d
noncomputable def eJ.bI:eJ->aj
 | .no=> .none
 | .one=> .ek [[33,101,33]] [.str [33,120]]
 | .two=> .ek [[33],[33,101,33]] [.str [33,121],.str [116]]
set_option genCtorIdx true in
inductive gS|a|b|c
noncomputable def ip (v:Nat->cc):gS->b5
 | .a=> [(10,v 0),(14,v 1),(20,v 2),(15,v 3),(11,v 4),(12,v 5),(13,v 6),(16,v 7)]
 | .b=> [(10,v 0),(14,v 1),(20,v 2),(15,v 3),(11,v 4),(12,v 5),(13,v 6),(16,v 7),(17,v 8)]
 | .c=> [(10,v 0),(14,v 1),(20,v 2),(15,v 3),(11,v 4),(12,v 5),(13,v 6),(16,v 7),(17,v 8),(37,v 9)]
noncomputable def gS.y:gS->Nat
 | .a=>37
 | .b=>37
 | .c=>38
def pC (v:Nat->cc) (s:gS) (ks:List (List Nat)) (l:List ae):b5:=ip v s++ [(s.y,.dict ks l)]
def oe:S:=Cx.aO.aO
def adw:St->(cE->St->Prop)->Prop:=fb (ev (aI iQ) oe.hd.df).t (bN (aI iQ) oe.hd.bd)
structure qd where
 a:Option ae
 b:Option ae
 c:Option ae
 d:Option ae
 e:Option ae
def pK (x:qd) (p:Ps) (u:List Nat):St:=⟨[(37,ab (.aq 30)),(70,x.a),(59,x.b),(61,x.c),(87,x.d),(91,x.e),(71,af),(13,af)],p.hp u,[],[]⟩
def Ps.od (p:Ps) (a:Bool) (n:Nat) (y:aj) (v:Nat->cc) (s:gS) (ks:List (List Nat)) (l:List ae) (t:List ae):Ps:={p with ask:=a,tt:=n,Q3:=y,FW:= .aq s.y,tok:=t,r:=pC v s ks l}
theorem ady {p c7:Ps} {a:Bool} {n d:Nat} {v:Nat->cc} {s:gS} {ks:List (List Nat)} {l:List ae} {m aU:aj} {g6 u:List Nat} {x:qd} (h:h1 c7 g6 (p.od a n .none v s ks l [.f (lP (.str [89,65,77,76]) (mf d) m aU)]) u (lP (.str [89,65,77,76]) (mf d) m aU)):
  ∃be,aJ (kP (ev (aI iQ) oe.hd.df).t (bN (aI iQ) oe.hd.bd) (pK x c7 g6)) af (pK be (p.od a (n+1) (mf d) v s ks l []) u):=by
 refine⟨⟨ab (.f (lP (.str [89,65,77,76]) (mf d) m aU)),ab (.f (.int 1)),ab (.f (.int (.ofNat d))),x.d,x.e⟩, ?_⟩
 have c:=kL h (.dir _ _ _ _) (cs:= []) (c:= .str pA) (b:=aa) rfl (by decide)
 exact cb λ_ _ F k=>F _ _ c aa rfl _ _ (oj h.hU) aa rfl ac rfl ac rfl k
def ajo (ks:List (List Nat)) (h:List Nat):Prop:=il h ks=ac/\cn ks=aa
theorem adx {p c7:Ps} {a:Bool} {n:Nat} {y:aj} {v:Nat->cc} {s:gS} {ks:List (List Nat)} {l:List ae} {m aU:aj} {g6 u h z:List Nat} {x:qd} (cy:il h ks=ac) (aA:cn l=aa) (L:h1 c7 g6 (p.od a n y v s ks l [.f (lP (.str [84,65,71]) (AE h z) m aU)]) u (lP (.str [84,65,71]) (AE h z) m aU)):
  ∃be,aJ (kP (ev (aI iQ) oe.hd.df).t (bN (aI iQ) oe.hd.bd) (pK x c7 g6)) af (pK be (p.od a (n+1) y v s (fY h (.f (.str z)) ks l).1 (fY h (.f (.str z)) ks l).2 []) u):=by
 refine⟨⟨ab (.f (lP (.str [84,65,71]) (AE h z) m aU)),x.b,x.c,ab (.f (.str h)),ab (.f (.str z))⟩, ?_⟩
 have c:=kL L (.dir _ _ _ _) (cs:= []) (c:= .str pA) (b:=aa) rfl (by decide)
 cases s with
 |a=>exact cb λ_ _ F k=>F _ _ c aa rfl _ _ (oj L.hU) ac rfl aa rfl ac cy aA k
 |b=>exact cb λ_ _ F k=>F _ _ c aa rfl _ _ (oj L.hU) ac rfl aa rfl ac cy aA k
 |c=>exact cb λ_ _ F k=>F _ _ c aa rfl _ _ (oj L.hU) ac rfl aa rfl ac cy aA k
def eo (e:List Nat):Prop:=e= [10]\/e= [13]\/e= [13,10]
theorem eo.nl {e:List Nat} (h:eo e) {c:Nat} {r:List Nat} (aD:c≠10):ha e (c::r):=by
 rcases h with rfl|rfl|rfl
 ·exact .lf
 ·exact .cr (h9 aD)
 ·exact .x8
theorem eo.hd {e:List Nat} (h:eo e):io (e.headD 0):=by
 rcases h with rfl|rfl|rfl
 ·exact d7 rfl
 ·exact cW rfl
 ·exact cW rfl
inductive f5|y (d:Nat) |t (h x:List Nat)
def f5.w:f5->List Nat
 | .y d=> [89,65,77,76]++32::49::46::dv d
 | .t h x=> [84,65,71]++32::(h++32::x)
noncomputable def f5.n:f5->aj
 | .y _=> .str [89,65,77,76]
 | .t _ _=> .str [84,65,71]
def f5.v:f5->aj
 | .y d=>mf d
 | .t h x=>AE h x
def f5.ok:f5->Prop
 | .y d=>d<12
 | .t h x=>ey h/\zP x
theorem f5.VJ: ∀{d:f5},d.ok->rM d.w d.n d.v
 | .y _,h=> .y _ h
 | .t _ _,h=> .t _ _ h.1 h.2
noncomputable def gW (e:List Nat):List f5->List Nat->List Nat
 | [],r=>45::45::45::32::r
 |d::ds,r=>37::(d.w++(e++gW e ds r))
theorem V0 (e:List Nat) (ds:List f5) (r:List Nat): ∃c x,gW e ds r=c::x/\c≠10:=by
 cases ds with
 |nil=>exact⟨45,_,rfl,by decide⟩
 |cons d ds=>exact⟨37,_,rfl,by decide⟩
theorem yg {e r:List Nat} {ds:List f5} (bw:eo e):ha e (gW e ds r)/\gW e ds r≠ []:=
 bT (V0 e ds r) λc x q=> ⟨q.1▸bw.nl q.2,q.1▸c9 _ _⟩
def lj:List f5->aj->aj->aj
 | [],m,aU=>mP m aU
 |d::_,m,aU=>lP d.n d.v m aU
def jH (e:List Nat):List f5->List Nat->List Nat
 | [],r=>32::r
 |_::ds,r=>gW e ds r
theorem yP {p:Ps} {e r u:List Nat} {b:Bool}: ∀{ds:List f5},eo e->(∀d∈ds,d.ok)->lB p->mo (gW e ds r) u b->(cz p.buf (gW e ds r)).2=0->bD p.buf u-> ∃m aU,ku p u (p.cq ac (lj ds m aU)) (jH e ds r)
 | [],_,_,E,g,aD,h=>abB E g aD h
 |d::ds,bw,bW,E,g,aD,h=>abz E g aD (f5.VJ (bW d et)) (yg bw).1 bw.hd (yg bw).2 h
noncomputable def m9:eJ->List f5
 | .no=> []
 | .one=> [.t [33,101,33] [33,120]]
 | .two=> [.t [33] [33,121],.t [33,101,33] [116]]
noncomputable def ic:List f5->aj×List (List Nat)×List ae->aj×List (List Nat)×List ae
 | [],z=>z
 | .y d::ds,z=>ic ds (mf d,z.2)
 | .t h x::ds,z=>ic ds (z.1,fY h (.f (.str x)) z.2.1 z.2.2)
def tc:List f5->aj×List (List Nat)×List ae->Prop
 | [],_=>True
 | .y d::ds,z=>z.1= .none/\tc ds (mf d,z.2)
 | .t h x::ds,z=> (il h z.2.1=ac/\cn z.2.2=aa)/\tc ds (z.1,fY h (.f (.str x)) z.2.1 z.2.2)
def Ps.rk (p:Ps) (a:Bool) (n:Nat) (v:Nat->cc) (s:gS) (z:aj×List (List Nat)×List ae) (t:List ae):Ps:=p.od a n z.1 v s z.2.1 z.2.2 t
theorem yQ {p:Ps} {e r:List Nat} (bw:eo e): ∀{ds:List f5},bD p.buf (gW e ds r)->bD p.buf (jH e ds r)/\(ds≠ []->(cz p.buf (jH e ds r)).2=0)
 | [],h=> ⟨h.aO (s:= [45,45,45]),λq=>absurd rfl q⟩
 |d::ds,h=>have ap:=bD.aO (s:=37::d.w) h;⟨ap.aO,λ_=>nO ap (yg bw).1⟩
theorem adA {p:Ps} {e r:List Nat} {v:Nat->cc} {s:gS} (bw:eo e) (hp:p.dJ=33) (hd:p.done=ac): ∀(ds:List f5) (a:Bool) (n:Nat) (z:aj×List (List Nat)×List ae) (c7:Ps) (g6:List Nat) (x:qd) (m aU:aj),(∀d∈ds,d.ok)->tc ds z->
  h1 c7 g6 (p.rk a n v s z [.f (lj ds m aU)]) (jH e ds r) (lj ds m aU)->bD p.buf (jH e ds r)->(ds≠ []->(cz p.buf (jH e ds r)).2=0)->
  ∃i3 fA m aU be,aJ (adw (pK x c7 g6)) .aQ (pK be (p.rk i3 fA v s (ic ds z) [.f (mP m aU)]) (32::r)):=λds=>by
 induction ds with
 |nil=>exact λa n z c7 g6 x m aU _ _ L _ _=> ⟨a,n,m,aU,x,eS (by exact cb λ_ _ F k=>F _ _ (kL L (.ds _ _) (cs:= []) (c:= .str pA) (b:=ac) rfl (by decide)) ac rfl k)⟩
 |cons d ds ai=>
  intro a n z c7 g6 x m aU bW aw L h aD
  have st: ∃be,aJ (kP (ev (aI iQ) oe.hd.df).t (bN (aI iQ) oe.hd.bd) (pK x c7 g6)) af (pK be (p.rk a (n+1) v s (ic [d] z) []) (gW e ds r))/\tc ds (ic [d] z)/\ic (d::ds) z=ic ds (ic [d] z):=by
   cases d with
   |y d=>
    obtain ⟨y,z⟩:=z
    cases aw.1
    exact ak (ady (x:=x) L) λbe R=> ⟨be,R,aw.2,rfl⟩
   |t h' AJ=>exact ak (adx (x:=x) aw.1.1 aw.1.2 L) λbe R=> ⟨be,R,aw.2,rfl⟩
  refine ak st λbe q=> ?_
  rw[q.2.2]
  exact bT (yP (p:=p.rk a (n+1) v s (ic [d] z) []) bw (λd hd=>bW d (eZ _ hd)) ⟨hp,rfl,hd⟩ .no (aD (c9 _ _)) h) λm aU hY=>
   have k:=yQ (p:=p) bw h
   have i:=ai ac (n+1) (ic [d] z) (p.rk a (n+1) v s (ic [d] z) []) (gW e ds r) be m aU (λd hd=>bW d (eZ _ hd)) q.2.1 ⟨⟨rfl,cW hp⟩,cW ⟨rfl,hd,hY⟩⟩ k.1 k.2
   wy i λa n m aU x i=> ⟨a,n,m,aU,x,fc q.1 i⟩
def Po:S:=oe.aO.aO.hd
def zN (x:qd) (w k:Option ae) (p:Ps) (u:List Nat):St:=⟨[(37,ab (.aq 30)),(70,x.a),(59,x.b),(61,x.c),(87,x.d),(91,x.e),(71,w),(13,k)],p.hp u,[],[]⟩
noncomputable def pa (b:Bool):List Nat×aj:=cond b ([33],.str [33]) ([33,33],.str [116,97,103,58,121,97,109,108,46,111,114,103,44,50,48,48,50,58])
def qE (b:Bool) (z:List (List Nat)×List ae):List (List Nat)×List ae:=cond (il (pa b).1 z.1) z (fY (pa b).1 (.f (pa b).2) z.1 z.2)
theorem Pp {p:Ps} {v:Nat->cc} {s:gS} {x:qd} {a b:Bool} {n:Nat} {y:aj} {t:List ae} {u:List Nat} {w:Option ae} {z:List (List Nat)×List ae} (cH:cn z.2=aa):
  aJ (jC (bN (aI iQ) Po.bd) (zN x w (ab (.f (.str (pa b).1))) (p.od a n y v s z.1 z.2 t) u)) af (zN x w (ab (.f (.str (pa b).1))) (p.od a n y v s (qE b z).1 (qE b z).2 t) u):=by
 cases h:il (pa b).1 z.1 with
 |true=>
  rw[show qE b z=z from congrArg (λc=>cond c z _) h]
  cases s with
  |a=>exact gU λ_ _ F k=>F _ (congrArg not h) k
  |b=>exact gU λ_ _ F k=>F _ (congrArg not h) k
  |c=>exact gU λ_ _ F k=>F _ (congrArg not h) k
 |false=>
  rw[show qE b z=fY (pa b).1 (.f (pa b).2) z.1 z.2 from congrArg (λc=>cond c z _) h]
  cases b<;>cases s
  ·exact gU λ_ _ F k=>F _ (congrArg not h) _ rfl cH k
  ·exact gU λ_ _ F k=>F _ (congrArg not h) _ rfl cH k
  ·exact gU λ_ _ F k=>F _ (congrArg not h) _ rfl cH k
  ·exact gU λ_ _ F k=>F _ (congrArg not h) _ rfl cH k
  ·exact gU λ_ _ F k=>F _ (congrArg not h) _ rfl cH k
  ·exact gU λ_ _ F k=>F _ (congrArg not h) _ rfl cH k
def zO (z:aj×List (List Nat)×List ae):List (List Nat)×List ae:=qE ac (qE aa z.2)
theorem adz {p:Ps} {v:Nat->cc} {s:gS} {x:qd} {a:Bool} {n:Nat} {t:List ae} {u:List Nat} {w k:Option ae} {z:aj×List (List Nat)×List ae} (ap:cn z.2.2=aa) (aC:cn (qE aa z.2).2=aa):
  aJ (gX 13 (bN (aI iQ) Po.bd) (za [[33],[33,33]]) (zN x w k (p.rk a n v s z t) u)) .aQ (zN x w (ab (.f (.str [33,33]))) (p.od a n z.1 v s (zO z).1 (zO z).2 t) u):=
 la (Pp (b:=aa) ap) (la (Pp (b:=ac) aC) lc)
def Ps.Fn (p:Ps) (a:Bool) (n:Nat) (v:Nat->cc) (s:gS) (z:aj×List (List Nat)×List ae) (t:aj):Ps:=p.od a n z.1 v s (zO z).1 (zO z).2 [.f t]
def eP (cZ:Option Nat) (tg:eJ):List f5:=(match cZ with
 |none=> []
 |some d=> [.y d])++m9 tg
noncomputable def ly:aj×List (List Nat)×List ae:=(.none,[],[])
theorem ye {cZ:Option Nat} {tg:eJ} (aW: ∀d,cZ=ab d->d<12):(∀d∈eP cZ tg,d.ok)/\tc (eP cZ tg) ly/\ic (eP cZ tg) ly=(c4 cZ,(ic (m9 tg) ly).2):=by
 have A: ∀d∈m9 tg,d.ok:=by
  cases tg with
  |no=>exact nofun
  |one=>exact λd h=> (jU.mp h)▸⟨cW rfl,d7 rfl⟩
  |two=>exact λd h=> (e6.mp h).elim (λe=>e▸⟨d7 rfl,cW (d7 rfl)⟩) λh=> (jU.mp h)▸⟨cW rfl,cW (cW rfl)⟩
 have B: ∀y,tc (m9 tg) (y,[],[])/\ic (m9 tg) (y,[],[])=(y,(ic (m9 tg) ly).2):=λy=>by
  cases tg with
  |no=>exact⟨trivial,rfl⟩
  |one=>exact⟨⟨⟨rfl,rfl⟩,trivial⟩,rfl⟩
  |two=>exact⟨⟨⟨rfl,rfl⟩,⟨rfl,rfl⟩,trivial⟩,rfl⟩
 cases cZ with
 |none=>exact⟨A,B .none⟩
 |some d=>exact⟨λx h=> (e6.mp h).elim (λe=>e▸aW d rfl) (A x),⟨rfl,(B (mf d)).1⟩,(B (mf d)).2⟩
noncomputable def Ps.PF (p:Ps) (r:b5):Ps:={p with r:=r}
theorem Ps.zV {p:Ps} {r:b5} (h:p.r=r):p=p.PF r:=by cases p;cases h;rfl
theorem afC {p:Ps} {e r:List Nat} {v:Nat->cc} {s:gS} {cZ:Option Nat} {tg:eJ} {m aU:aj} (bw:eo e) (aW: ∀d,cZ=ab d->d<12) (hp:p.dJ=33) (hd:p.done=ac) (c6:p.r=ip v s) (cj:p.tok= [.f (lj (eP cZ tg) m aU)]) (h:bD p.buf (jH e (eP cZ tg) r)) (aD:eP cZ tg≠ []->(cz p.buf (jH e (eP cZ tg) r)).2=0):
  ∃a n m aU,aJ (Av [.aq 30] (p.hp (jH e (eP cZ tg) r))) (.f (.tup [c4 cZ,tg.bI])) ((p.Fn a n v s (c4 cZ,(ic (m9 tg) ly).2) (mP m aU)).hp (32::r)):=by
 have D:=ye (tg:=tg) aW
 have L:=adA (p:=p) (v:=v) (s:=s) bw hp hd (eP cZ tg) p.ask p.tt ly (p.rk p.ask p.tt v s ly [.f (lj (eP cZ tg) m aU)]) (jH e (eP cZ tg) r) ⟨af,af,af,af,af⟩ m aU D.1 D.2.1 (jX.aL ⟨rfl,cW hp⟩) h aD
 rw[D.2.2] at L
 rw[p.zV c6,(p.PF (ip v s)).nc cj]
 clear cj aD h D
 revert L
 generalize lj (eP cZ tg) m aU=cq
 generalize jH e (eP cZ tg) r=u
 delta Av
 refine λL=>wy L λa n m aU x L=> ⟨a,n,m,aU, ?_⟩
 have nr:=λw k=>adz (p:=p) (v:=v) (s:=s) (x:=x) (a:=a) (n:=n) (t:= [.f (mP m aU)]) (u:=32::r) (w:=w) (k:=k) (z:=(c4 cZ,(ic (m9 tg) ly).2)) (by cases tg<;>rfl) (by cases tg<;>rfl)
 cases tg<;>cases s
 ·exact aV λ_ _ F k=>F _ rfl _ _ L rfl ac rfl _ _ (nr _ _) k
 ·exact aV λ_ _ F k=>F _ rfl _ _ L rfl ac rfl _ _ (nr _ _) k
 ·exact aV λ_ _ F k=>F _ rfl _ _ L rfl ac rfl _ _ (nr _ _) k
 ·exact aV λ_ _ F k=>F _ rfl _ _ L rfl aa rfl _ rfl rfl _ _ (nr _ _) k
 ·exact aV λ_ _ F k=>F _ rfl _ _ L rfl aa rfl _ rfl rfl _ _ (nr _ _) k
 ·exact aV λ_ _ F k=>F _ rfl _ _ L rfl aa rfl _ rfl rfl _ _ (nr _ _) k
 ·exact aV λ_ _ F k=>F _ rfl _ _ L rfl aa rfl _ rfl rfl _ _ (nr _ _) k
 ·exact aV λ_ _ F k=>F _ rfl _ _ L rfl aa rfl _ rfl rfl _ _ (nr _ _) k
 ·exact aV λ_ _ F k=>F _ rfl _ _ L rfl aa rfl _ rfl rfl _ _ (nr _ _) k
theorem DE (ds:List f5) (m aU:aj): ∃id,Tk (lj ds m aU) id/\kI (.str id) [.str sP]=ab ac/\kI (.str id) [.str sR]=ab ac/\kI (.str id) [.str pA,.str sQ,.str sR]=ab aa:=by
 cases ds with
 |nil=>exact⟨sQ,.ds _ _,rfl,rfl,rfl⟩
 |cons d ds=>exact⟨pA,.dir _ _ _ _,rfl,rfl,rfl⟩
noncomputable def Ps.yc (p:Ps):Ps:={p with tok:= [],tt:=p.tt+1,fC:= [.dy 30 1869],st:= .dy 30 1876}
def VL:St->(cE->St->Prop)->Prop:=fb (ev (aI pO) xK.hd.df).t (bN (aI pO) xK.hd.bd)
def LM (p:Ps) (u:List Nat):St:=⟨[(37,ab (.aq 30)),(70,af),(158,af),(110,af),(39,af),(117,af),(50,af)],p.hp u,[],[]⟩
theorem LN {p q:Ps} {u r id:List Nat} {t:aj} (h:h1 p u q r t) (dQ:Tk t id) (ag:kI (.str id) [.str sP]=ab ac):aJ (VL (LM p u)) .aQ (LM q r):=eS (by exact cb λ_ _ F k=>F _ _ (kL h dQ ag (by decide)) ac rfl k)
theorem VT {p c7 q:Ps} {u g6 g5:List Nat} {ds:List f5} {m aU fZ hE y t:aj} (h:h1 c7 g6 p u (lj ds m aU)) (P:aJ (Av [.aq 30] (p.hp u)) (.f (.tup [y,t])) (q.hp g5)) (dC:jX q (mP fZ hE)) (hs:q.fC= []):
  ∃vD,aJ (rz [.aq 30] (c7.hp g6)) (.f (gV vD hE aa y t)) (q.yc.hp g5):=by
 delta rz
 obtain ⟨id,dQ,pz,vj,_⟩:=DE ds m aU
 have W:=LN h dQ pz
 have c:=kL (u:=u) h.hU.aL dQ vj (by decide)
 have Pr:=pR (u:=u) h.hU.aL
 have d:=kL (u:=g5) dC.aL (.ds _ _) (cs:= []) (c:= .str sQ) (b:=aa) rfl (by decide)
 have g:=oj (u:=g5) dC
 rw[q.Ab hs] at P d g⊢
 clear h dQ
 cases ds with
 |nil=>exact⟨m,by exact aV λ_ _ F k=>F _ _ W _ _ c ac rfl _ _ Pr _ _ P _ _ d aa rfl _ _ g _ _ (hS rfl rfl) rfl k⟩
 |cons x ds=>exact⟨m,by exact aV λ_ _ F k=>F _ _ W _ _ c ac rfl _ _ Pr _ _ P _ _ d aa rfl _ _ g _ _ (hS rfl rfl) rfl k⟩
noncomputable def Ps.kl (p:Ps):Ps:={p with tok:= [],tt:=p.tt+1,st:= .f .none}
theorem afY {p c7:Ps} {u g6:List Nat} {m aU:aj} (h:h1 c7 g6 p u (z4 m aU)) (hs:p.fC= []):aJ (rz [.aq 30] (c7.hp g6)) (.f (ma m aU)) (p.kl.hp u):=by
 delta rz
 have W:=LN h (.kl _ _) rfl
 have c:=kL (u:=u) h.hU.aL (.kl _ _) (cs:= []) (c:= .str sR) (b:=aa) rfl (by decide)
 have g:=oj (u:=u) h.hU
 rw[p.Ab hs] at W c g⊢
 exact aV λ_ _ F k=>F _ _ W _ _ c aa rfl _ _ g _ _ (hS rfl rfl) rfl ac rfl rfl ac rfl k
theorem Zd {p c7 q:Ps} {u g6 g5:List Nat} {ds:List f5} {m aU ev:aj} (h:h1 c7 g6 p u (lj ds m aU)) (D:aJ (rz [.aq 30] (p.hp u)) (.f ev) (q.hp g5)):aJ (tB [.aq 30] (c7.hp g6)) (.f ev) (q.hp g5):=by
 delta tB
 obtain ⟨id,dQ,_,_,Y8⟩:=DE ds m aU
 exact aV λ_ _ F k=>F _ _ (kL h dQ Y8 (by decide)) aa rfl _ _ D k
noncomputable def Ps.ev (p:Ps) (e:aj):Ps:={p with ce:=e}
noncomputable def Ps.cs (p:Ps) (s:ae):Ps:={p with ce:= .none,st:=s}
theorem Ps.LB {p:Ps} {s:ae} (h:p.ce= .none) (hs:p.st=s):p=p.cs s:=by cases p;cases h;cases hs;rfl
inductive oN:Nat->a4->Prop
 |a:oN 1848 Au
 |b:oN 1855 tB
 |c:oN 1862 rz
 |d:oN 1869 tA
 |e:oN 1876 As
 |f:oN 1890 Ar
theorem afD {p q:Ps} {u r:List Nat} {ev:aj} {s:Nat} {P:a4} (ay:oN s P) (aD:p.ce= .none) (hs:p.st= .dy 30 s) (f:aJ (P [.aq 30] (p.hp u)) (.f ev) (q.hp r)):aJ (tC [.aq 30] (p.hp u)) (.f ev) ((q.ev ev).hp r):=by
 delta tC
 rw[p.LB aD hs] at f⊢
 cases ay
 ·exact aV λ_ _ F k=>F aa rfl aa rfl _ _ f k
 ·exact aV λ_ _ F k=>F aa rfl aa rfl _ _ f k
 ·exact aV λ_ _ F k=>F aa rfl aa rfl _ _ f k
 ·exact aV λ_ _ F k=>F aa rfl aa rfl _ _ f k
 ·exact aV λ_ _ F k=>F aa rfl aa rfl _ _ f k
 ·exact aV λ_ _ F k=>F aa rfl aa rfl _ _ f k
theorem afE {p:Ps} {u:List Nat} (h:p.ce= .none) (hs:p.st= .f .none):aJ (tC [.aq 30] (p.hp u)) (.f .none) (p.hp u):=by
 delta tC
 rw[p.LB h hs]
 exact aV λ_ _ F k=>F aa rfl ac rfl k
theorem afk {p:Ps} {u:List Nat} {C:Nat} {ns:List Nat} {vs:List aj}:aJ (Gl [.aq 30] ((p.ev (.inst C ns vs)).hp u)) (.f (.inst C ns vs)) ((p.ev .none).hp u):=by
 delta Gl
 exact aV λ_ _ F k=>F ac rfl k
inductive Told:aj->aj->Prop
 |ss (m aU e:aj):Told (oo m aU e) (.tup [.str [115,116,114,101,97,109]])
 |ds (m aU:aj) (b:Bool) (x y:aj):Told (gV m aU b x y) (.tup [.str [100,111,99,117,109,101,110,116],.bool b,x,y])
 |sc (val m aU y:aj):Told (z3 val m aU y) (.tup [.str [116,101,120,116],val,y])
 |nP (m aU:aj) (b:Bool):Told (kC m aU b) (.tup [.str [100,111,99,117,109,101,110,116,32,101,110,100],.bool b])
 |kl (m aU:aj):Told (ma m aU) (.tup [.str [115,116,114,101,97,109,32,101,110,100]])
theorem Told.run {ev v:aj} (h:Told ev v) {hp:b5}:aJ (GY [.f ev] hp) (.f v) hp:=by
 delta GY
 cases h
 ·exact aV λ_ _ F k=>F ac rfl ac rfl ac rfl aa rfl k
 ·exact aV λ_ _ F k=>F ac rfl aa rfl k
 ·exact aV λ_ _ F k=>F aa rfl k
 ·exact aV λ_ _ F k=>F ac rfl ac rfl aa rfl k
 ·exact aV λ_ _ F k=>F ac rfl ac rfl ac rfl ac rfl aa rfl k
noncomputable abbrev iT:aj:= .tup [.str [115,116,114,101,97,109,32,101,110,100]]
noncomputable abbrev fJ (b:Bool):aj:= .tup [.str [100,111,99,117,109,101,110,116,32,101,110,100],.bool b]
abbrev kp (val:List Nat) (fold:Bool):aj:= .tup [.str [116,101,120,116],.str val,.str [bJ fold]]
noncomputable abbrev kQ (b:Bool) (x y:aj):aj:= .tup [.str [100,111,99,117,109,101,110,116],.bool b,x,y]
noncomputable abbrev lx:aj:= .tup [.str [115,116,114,101,97,109]]
def Run:List aj->Ps->List Nat->Prop
 | [],p,_=>p.ce= .none/\p.st= .f .none
 |v::vs,p,u=> ∃ev q r,Told ev v/\Run vs q r/\q.ce= .none/\aJ (tC [.aq 30] (p.hp u)) (.f ev) ((q.ev ev).hp r)
structure Rm (b:List Nat) (r:b5) (l:List ae) (dJ:Nat) (done:Bool) (ce:aj) (fC:List ae) (iu:b5) (buf:List Nat):Prop where
 dJ:dJ=33
 done:done=ac
 ce:ce= .none
 fC:fC=l
 r:iu=r
 buf:buf=b
abbrev tL (b:List Nat) (r:b5) (l:List ae) (q:Ps):Prop:=Rm b r l q.dJ q.done q.ce q.fC q.r q.buf
structure jS (b:List Nat) (r:b5) (l:List ae) (s:Nat) (t:List Nat) (q:Ps):Prop where
 bs:tL b r l q
 tok:q.tok= []
 st:q.st= .dy 30 s
 fU:bD b t
theorem jS.em {b:List Nat} {r:b5} {l:List ae} {s:Nat} {t:List Nat} {q:Ps} (h:jS b r l s t q):lB q:=⟨h.bs.dJ,h.tok,h.bs.done⟩
theorem jS.z5 {b:List Nat} {r:b5} {l:List ae} {s:Nat} {t:List Nat} {q:Ps} (h:jS b r l s t q):bD q.buf t:=h.bs.buf.symm▸h.fU
theorem jS.aL {b:List Nat} {r:b5} {l:List ae} {s:Nat} {t dR:List Nat} {q fa:Ps} {k:aj} (h:jS b r l s t q) (F:ku q t fa dR) (Q:jX fa k):h1 q t fa dR k:=⟨Q,cW ⟨h.tok,h.bs.done,F⟩⟩
theorem Xn {b t:List Nat} (E:List (List Nat)):lF E t->bD b (E.flatten++t)->(cz b (E.flatten++t)).2=0->(cz b t).2=0:=by
 induction E with
 |nil=>exact λ_ _ aD=>aD
 |cons e E ai=>
  rw[HN,bt]
  exact λbw h _=>ai bw.2 h.aO (nO h bw.1)
theorem UE {b t:List Nat} {k:Nat} (B:g8): ∀E,oc k B t->lF E (hH k B t)->bD b (E.flatten++hH k B t)->(cz b (E.flatten++hH k B t)).2=0->(cz b t).2=0:=by
 induction B with
 |nil=>exact λE _=>Xn E
 |cons x B ai=>exact λE eU _ h _=>have ap:=(bD.aO (bD.aO h)).aO;ai x.2.2 eU.2.2.2 eU.2.2.1 ap.aO (nO ap eU.2.1)
theorem BT.col {fold:Bool} {s:Nat} {w t val b:List Nat} (B:BT fold s w t val) (h:bD b (w++t)):(cz b t).2=0:=by
 obtain ⟨d,ch,e,dZ,K,k,e1,_⟩:=B
 rw[e1] at h
 have ap:=(bD.aO h).aO
 exact UE K dZ k.eU k.h0 ap.aO (nO ap k.he)
theorem Run.go {p q:Ps} {u r:List Nat} {ev v:aj} {vs:List aj} {s:Nat} {P:a4} (aD:p.ce= .none) (hs:p.st= .dy 30 s) (ay:oN s P) (f:aJ (P [.aq 30] (p.hp u)) (.f ev) (q.hp r)) (t:Told ev v) (adL:q.ce= .none) (k:Run vs q r):Run (v::vs) p u:=
 ⟨ev,q,r,t,k,adL,afD ay aD hs f⟩
def jl (b:List Nat) (r:b5) (t:List Nat) (q:Ps):Prop:=jS b r [] 1869 t q/\(cz b t).2=0
theorem aew {b:List Nat} {r:b5} {p:Ps} {fold:Bool} {n:Nat} {w t val:List Nat} {vs:List aj} (B:BT fold n w t val) (h:jS b r [.dy 30 1869] 1876 (32::bJ fold::(w++t)) p) (k: ∀q,jl b r t q->Run vs q t):Run (kp val fold::vs) p (32::bJ fold::(w++t)):=
 bT (N2 B h.em .ei h.z5) λm aU hY=>
  Run.go (q:=(p.cq aa (jO (.str val) m aU (.str [bJ fold]))).bY) h.bs.ce h.st .e (ae9 (h.aL hY ⟨rfl,cW h.bs.dJ⟩) h.bs.fC) (.sc _ _ _ _) h.bs.ce
   (k _ ⟨⟨⟨h.bs.dJ,h.bs.done,h.bs.ce,rfl,h.bs.r,h.bs.buf⟩,rfl,rfl,bD.aO (s:=32::bJ fold::w) h.fU⟩,B.col (bD.aO (s:= [32,bJ fold]) h.fU)⟩)
theorem aep {b:List Nat} {r:b5} {p:Ps} {fold:Bool} {n:Nat} {w t val:List Nat} {vs:List aj} (B:BT fold n w t val) (h:jS b r [] 1855 (bJ fold::(w++t)) p) (k: ∀q,jl b r t q->Run vs q t):Run (kQ ac .none .none::kp val fold::vs) p (bJ fold::(w++t)):=
 bT (N2 B h.em .no h.z5) λm aU hY=>
  Run.go (q:=(p.cq aa (jO (.str val) m aU (.str [bJ fold]))).im) h.bs.ce h.st .b (afp (h.aL hY ⟨rfl,cW h.bs.dJ⟩) h.bs.fC) (.ds _ _ _ _ _) h.bs.ce
   (Run.go (q:=(p.cq aa (jO (.str val) m aU (.str [bJ fold]))).im.bY) h.bs.ce rfl .f (PO ⟨rfl,cW h.bs.dJ⟩ rfl) (.sc _ _ _ _) h.bs.ce
    (k _ ⟨⟨⟨h.bs.dJ,h.bs.done,h.bs.ce,rfl,h.bs.r,h.bs.buf⟩,rfl,rfl,bD.aO (s:=bJ fold::w) h.fU⟩,B.col (bD.aO (s:= [bJ fold]) h.fU)⟩))
theorem FD {b:List Nat} {v:Nat->cc} {s:gS} {c7 p:Ps} {fold:Bool} {n rm:Nat} {e g6 w t val:List Nat} {cZ:Option Nat} {tg:eJ} {m aU:aj} {vs:List aj} (bw:eo e) (aW: ∀d,cZ=ab d->d<12) (B:BT fold n w t val) (L:h1 c7 g6 p (jH e (eP cZ tg) (bJ fold::(w++t))) (lj (eP cZ tg) m aU)) (de:c7.ce= .none) (s0:c7.st= .dy 30 rm) (Yi:rm=1855\/rm=1862)
  (h:tL b (ip v s) [] p) (hf:bD b (jH e (eP cZ tg) (bJ fold::(w++t)))) (aD:eP cZ tg≠ []->(cz b (jH e (eP cZ tg) (bJ fold::(w++t)))).2=0) (k: ∀q ks l,jl b (pC v s ks l) t q->Run vs q t):Run (kQ aa (c4 cZ) tg.bI::kp val fold::vs) c7 g6:=by
 have ag:=h.buf
 subst ag
 refine ni (afC bw aW h.dJ h.done h.r L.hU.tok hf aD) λa c fZ hE P=> ?_
 have Yy:bD p.buf (32::bJ fold::(w++t)):=by
  revert hf
  cases eP cZ tg with
  |nil=>exact id
  |cons d ds=>
   intro hf
   induction ds with
   |nil=>exact bD.aO (s:= [45,45,45]) hf
   |cons d ds ai=>exact ai (bD.aO (s:=37::d.w++e) (by rw[bt];exact hf))
 have N:Run (kp val fold::vs) (p.Fn a c v s (c4 cZ,(ic (m9 tg) ly).2) (mP fZ hE)).yc (32::bJ fold::(w++t)):=aew B ⟨⟨h.dJ,h.done,h.ce,rfl,rfl,rfl⟩,rfl,rfl,Yy⟩ λq dC=>k q _ _ dC
 have G:=λ{e9 tx} (L:h1 e9 tx p (jH e (eP cZ tg) (bJ fold::(w++t))) (lj (eP cZ tg) m aU))=>VT (q:=p.Fn a c v s (c4 cZ,(ic (m9 tg) ly).2) (mP fZ hE)) L P ⟨rfl,cW h.dJ⟩ h.fC
 rcases Yi with rfl|rfl
 ·exact ak (G L.hU.aL) λvD D=>Run.go de s0 .b (Zd L D) (.ds _ _ _ _ _) h.ce N
 ·exact ak (G L) λvD D=>Run.go de s0 .c D (.ds _ _ _ _ _) h.ce N
theorem eo.cons {e:List Nat} (h:eo e): ∃c cN,e=c::cN/\io c:=by
 rcases h with rfl|rfl|rfl
 ·exact⟨_,_,rfl,d7 rfl⟩
 ·exact⟨_,_,rfl,cW rfl⟩
 ·exact⟨_,_,rfl,cW rfl⟩
theorem PH {b e t:List Nat} {r:b5} {p:Ps} {vs:List aj} (bw:eo e) (h:jS b r [] 1869 (46::46::46::(e++t)) p) (aD:(cz b (46::46::46::(e++t))).2=0) (k: ∀q,jS b r [] 1862 (e++t) q->Run vs q (e++t)):Run (fJ aa::vs) p (46::46::46::(e++t)):=by
 have ag:=h.bs.buf
 subst ag
 refine ak bw.cons λc x=>ak x λcN q=> ?_
 have hs:=bD.aO (s:= [46,46,46]) h.fU
 rw[q.1] at h aD k hs⊢
 exact bT (abA h.em q.2 .no aD h.fU) λm aU hY=>
  Run.go (q:=(p.cq ac (uQ m aU)).gt.to 1862) h.bs.ce h.st .d (afb (h.aL hY ⟨rfl,cW h.bs.dJ⟩)) (.nP _ _ _) h.bs.ce
   (k _ ⟨⟨h.bs.dJ,h.bs.done,h.bs.ce,h.bs.fC,h.bs.r,rfl⟩,rfl,rfl,hs⟩)
theorem tL.aja {b:List Nat} {r:b5} {l:List ae} {q:Ps} (h:tL b r l q) (t:aj):tL b r l (q.cq ac t):=⟨h.dJ,h.done,h.ce,h.fC,h.r,h.buf⟩
theorem aet {b:List Nat} {v:Nat->cc} {s:gS} {p:Ps} {fold:Bool} {n:Nat} {e w t val:List Nat} {cZ:Option Nat} {tg:eJ} {vs:List aj} (bw:eo e) (aW: ∀d,cZ=ab d->d<12) (B:BT fold n w t val) (h:jl b (ip v s) (46::46::46::(e++gW e (eP cZ tg) (bJ fold::(w++t)))) p)
  (k: ∀q ks l,jl b (pC v s ks l) t q->Run vs q t):Run (fJ aa::kQ aa (c4 cZ) tg.bI::kp val fold::vs) p (46::46::46::(e++gW e (eP cZ tg) (bJ fold::(w++t)))):=
 PH bw h.1 h.2 λq g=>by
  have ag:=g.bs.buf
  subst ag
  have nl:=yg (ds:=eP cZ tg) (r:=bJ fold::(w++t)) bw
  have r:=yQ (p:=q) bw g.fU.aO
  exact bT (yP bw (ye aW).1 g.em (.nl nl.1) (nO g.fU nl.1) g.fU) λm aU hY=>
   FD bw aW B (g.aL hY ⟨rfl,cW g.bs.dJ⟩) g.bs.ce g.st (cW rfl) ⟨g.bs.dJ,g.bs.done,g.bs.ce,g.bs.fC,g.bs.r,rfl⟩ r.1 r.2 k
theorem aeu {b:List Nat} {v:Nat->cc} {s:gS} {p:Ps} {fold:Bool} {n:Nat} {e w t val:List Nat} {cZ:Option Nat} {tg:eJ} {vs:List aj} (bw:eo e) (aW: ∀d,cZ=ab d->d<12) (B:BT fold n w t val) (h:jl b (ip v s) (gW e (eP cZ tg) (bJ fold::(w++t))) p)
  (k: ∀q ks l,jl b (pC v s ks l) t q->Run vs q t):Run (fJ ac::kQ aa (c4 cZ) tg.bI::kp val fold::vs) p (gW e (eP cZ tg) (bJ fold::(w++t))):=by
 have ag:=h.1.bs.buf
 subst ag
 have r:=yQ (p:=p) bw h.1.fU
 exact bT (yP bw (ye aW).1 h.1.em .no h.2 h.1.fU) λm aU hY=>ak (DE (eP cZ tg) m aU) λid T=>
  ak (PQ (h.1.aL hY ⟨rfl,cW h.1.bs.dJ⟩) T.1 T.2.1) λvD D=>Run.go (q:=(p.cq ac (lj (eP cZ tg) m aU)).to 1862) h.1.bs.ce h.1.st .d D (.nP _ _ _) h.1.bs.ce
   (FD bw aW B (jX.aL ⟨rfl,cW h.1.bs.dJ⟩) h.1.bs.ce rfl (cW rfl) ⟨h.1.bs.dJ,h.1.bs.done,h.1.bs.ce,h.1.bs.fC,h.1.bs.r,rfl⟩ r.1 r.2 k)
theorem aes {b:List Nat} {v:Nat->cc} {s:gS} {p:Ps} {fold:Bool} {n:Nat} {e w t val:List Nat} {cZ:Option Nat} {tg:eJ} {vs:List aj} (bw:eo e) (aW: ∀d,cZ=ab d->d<12) (B:BT fold n w t val) (h:jS b (ip v s) [] 1855 (gW e (eP cZ tg) (bJ fold::(w++t))) p) (aD:(cz b (gW e (eP cZ tg) (bJ fold::(w++t)))).2=0)
  (k: ∀q ks l,jl b (pC v s ks l) t q->Run vs q t):Run (kQ aa (c4 cZ) tg.bI::kp val fold::vs) p (gW e (eP cZ tg) (bJ fold::(w++t))):=by
 have ag:=h.bs.buf
 subst ag
 have r:=yQ (p:=p) bw h.fU
 exact bT (yP bw (ye aW).1 h.em .no aD h.fU) λm aU hY=>
  FD bw aW B (h.aL hY ⟨rfl,cW h.bs.dJ⟩) h.bs.ce h.st (d7 rfl) ⟨h.bs.dJ,h.bs.done,h.bs.ce,h.bs.fC,h.bs.r,rfl⟩ r.1 r.2 k
theorem PK {b u vT:List Nat} {r:b5} {p e9:Ps} {m:aj} (L:h1 p u e9 vT (z4 m m)) (de:p.ce= .none) (s0:p.st= .dy 30 1862) (hs:e9.fC= []) (aD:e9.ce= .none):Run [iT] p u:=
 Run.go (q:=e9.kl) de s0 .c (afY L hs) (.kl _ _) aD ⟨aD,rfl⟩
theorem aeq {b e:List Nat} {r:b5} {p:Ps} (bw:eo e) (aS:aL 34 r=af) (h:jl b r (46::46::46::(e++ [0])) p):Run [fJ aa,iT] p (46::46::46::(e++ [0])):=
 PH bw h.1 h.2 λq g=>ak (N3 g.em (g.bs.r.symm▸aS) (.nl (bw.nl (by decide))) g.z5) λm hY=>PK (b:=b) (r:=r) (g.aL hY ⟨rfl,d7 rfl⟩) g.bs.ce g.st g.bs.fC g.bs.ce
theorem aer {b:List Nat} {r:b5} {p:Ps} (aS:aL 34 r=af) (h:jl b r [0] p):Run [fJ ac,iT] p [0]:=
 ak (N3 h.1.em (h.1.bs.r.symm▸aS) .no h.1.z5) λm hY=>ak (PQ (h.1.aL hY ⟨rfl,d7 rfl⟩) (.kl _ _) rfl) λvD D=>
  Run.go (q:=(p.Hc m).to 1862) h.1.bs.ce h.1.st .d D (.nP _ _ _) h.1.bs.ce (PK (b:=b) (r:=r) (jX.aL ⟨rfl,d7 rfl⟩) h.1.bs.ce rfl h.1.bs.fC h.1.bs.ce)
noncomputable abbrev k1:List Nat:= [97,32,98,99,100,45,101,35,102,58,103,46,124,233,8232,37,89,65,77,76,48,49,50,51,52,53,54,55,56,57,84,71,33,120,121,116,62,43,10,13]
inductive Sm (c:Nat):Prop
 |a (h:bO [c] [9,10,13,133]=aa)
 |b (h0:bO [c] [9,10,13,133]=ac) (ap:(!en [c] [32])=aa) (aC:(!en [126] [c])=aa)
 |c (h0:bO [c] [9,10,13,133]=ac) (ap:(!en [c] [32])=aa) (aC:(!en [126] [c])=ac) (bu:(!en [c] [160])=aa) (d8:(!en [55295] [c])=aa)
theorem adE {c:Nat} (h:c∈k1):Sm c:=by
 have:=fM.mp (show k1.all (λc=>bO [c] [9,10,13,133] || (!bO [c] [9,10,13,133]&&((!en [c] [32])&&((!en [126] [c]) || (en [126] [c]&&((!en [c] [160])&&(!en [55295] [c])))))))=aa by decide) c h
 cases h0:bO [c] [9,10,13,133] with
 |true=>exact .a h0
 |false=>
  rw[h0,oD,Rk,Ho] at this
  have q:=fW.mp this
  cases aC:en [126] [c] with
  |false=>exact .b h0 q.1 (congrArg not aC)
  |true=>
   have gO:=q.2
   rw[aC,wK,oD,Ho] at gO
   exact .c h0 q.1 (congrArg not aC) (fW.mp gO).1 (fW.mp gO).2
theorem aft {c:Nat} {hp:b5} (h:c∈k1):aJ (GV [.f (.str [c])] hp) (.f (.bool aa)) hp:=by
 delta GV
 cases adE h with
 |a h=>exact kK (a:= .f (.bool (bO [c] [9,10,13,133]))) (b:=hp) (by exact aV λ_ _ F k=>F aa h k) (congrArg (λb=>ae.f (.bool b)) h) rfl
 |b h0 ap aC=>exact kK (a:= .f (.bool (!en [126] [c]))) (b:=hp) (by exact aV λ_ _ F k=>F ac h0 aa ap aa aC k) (congrArg (λb=>ae.f (.bool b)) aC) rfl
 |c h0 ap aC bu d8=>exact kK (a:= .f (.bool (!en [55295] [c]))) (b:=hp) (by exact aV λ_ _ F k=>F ac h0 aa ap ac aC aa bu aa d8 k) (congrArg (λb=>ae.f (.bool b)) d8) rfl
def LA:S:=Cy.hd
noncomputable def x7 (t:List Nat) (hp:b5) (x y:Option ae):St:=⟨[(37,ab (.aq 30)),(23,ab (.f (.str t))),(66,x),(130,y)],hp,[],[]⟩
theorem Vl {t:List Nat} {hp:b5} {c:Nat} {x:Option ae} (h:c∈k1):aJ (jC (bN (aI eM) LA.bd) (x7 t hp x (ab (.f (.str [c]))))) af (x7 t hp x (ab (.f (.str [c])))):=by exact gU λ_ _ F k=>F _ _ (aft h) aa rfl k
theorem Vm {t:List Nat} {hp:b5}: ∀(l:List Nat) (n:Nat) (x y:Option ae),(∀c∈l,c∈k1)-> ∃be mi,aJ (pg 66 130 (bN (aI eM) LA.bd) (pe n l) (x7 t hp x y)) .aQ (x7 t hp be mi):=λl=>by
 induction l with
 |nil=>exact λn x y _=> ⟨x,y,λ_ q=>q⟩
 |cons c l ai=>exact λn x y h=>bT (ai (n+1) _ _ λd hd=>h d (eZ _ hd)) λbe mi i=> ⟨be,mi,λK q=>Vl (h c et) _ (i K q)⟩
theorem ae5 {t:List Nat} {hp:b5} (h: ∀c∈t,c∈k1) (hs:t.length<=16777216):aJ (Gn [.aq 30,.f (.str t)] hp) (.f .none) hp:=by
 delta Gn
 exact bT (Vm t 0 af af h) λx y i=>by exact aV λ_ _ F k=>F hs _ _ i k
noncomputable abbrev Fb:List Nat:= [33,97,218,10,79,109,155,156,116,55,30,82]
abbrev G4 (t:List Nat):List ae:= [.f (.str zZ),.f .none,.f (.int 0),.f (.bool aa),.f (.str (t++ [0])),.f (.int 0),.f .none,.f .none,.f .none,.f (.int 0),.f (.int 0),.f (.int 0)]
theorem afJ {t:List Nat} (h: ∀c∈t,c∈k1) (hs:(t++ [0]).length<=16777216):aJ (Gp [.aq 30,.f (.str t)] [(30,.inst 2029 [] [])]) (.f .none) [(30,.inst 2029 Fb (G4 t))]:=by
 delta Gp
 exact aV λ_ _ F k=>F aa rfl _ _ (ae5 h (bf (bL▸gH ..) hs)) hs k
abbrev yV (t:List Nat) (l:List ae):b5:= [(30,.inst 2029 (Fb++ [24,145,98]) (G4 t++ [.f (.bool ac),.f (.int 0),.aq 31])),(31,.list l)]
theorem afg {t:List Nat}: ∃m,aJ (GC [.aq 30] (yV t [])) (.f .none) (yV t [.f (.inst 920 [158,117,116] [m,m,.none])]):=by
 have M: ∃m,aJ (wi [.aq 30] (yV t [])) (.f m) (yV t []):=⟨.inst 53 [33,55,30,82,79,109] [.str zZ,.int 0,.int 0,.int 0,.str (t++ [0]),.int 0],by
  delta wi
  exact aV λ_ _ F k=>F aa rfl _ _ (hS rfl rfl) k⟩
 delta GC
 exact ak M λm M=> ⟨m,by exact aV λ_ _ F k=>F _ _ M _ _ (hS rfl rfl) rfl k⟩
noncomputable def kg (t:List Nat) (m:aj) (r:b5):Ps:=⟨t++ [0],ac,0,aa,33,.none,.none,.aq 36,.dy 30 1848,[.f (.inst 920 [158,117,116] [m,m,.none])],[],r⟩
theorem Pu (b:List Nat):pos b b=0:=w6 _
theorem afB {t:List Nat} {hp:b5} (h: ∀c∈t,c∈k1) (hs:(t++ [0]).length<=16777216) (hd: ∀m,nR ((kg t m []).hp (t++ [0])) hp=aa): ∃m,aJ (QD [.f (.str t)] hp) (.aq 30) ((kg t m hp).hp (t++ [0])):=by
 refine ak (afg (t:=t)) λm M=> ⟨m, ?_⟩
 have e: ∀r,(kg t m r).hp (t++ [0])=(kg t m r).sJ 0 (0,0):=λr=>by
  unfold Ps.hp cz
  rw[show(kg t m r).buf=t++ [0] from rfl,Pu];rfl
 have Tv: ∃dn,aJ (GF [.aq 30,.f (.str t)] [(30,.inst 2029 [] [])]) (.f .none) dn/\dn= [(30,.inst 2029 (Fb++ [24,145,98,191,88,107,243,294]) (G4 t++ [.f (.bool ac),.f (.int 0),.aq 31,.f (.int 0),.f (.int (-1)),.aq 32,.f (.bool aa),.aq 33])),(31,.list [.f (.inst 920 [158,117,116] [m,m,.none])]),(32,.list []),(33,.dict [] [])]:=⟨_,by
  delta GF
  exact aV λ_ _ F k=>F _ _ (afJ h hs) _ rfl _ _ M _ rfl _ rfl k,rfl⟩
 obtain ⟨dn,jy,e1⟩:=Tv
 subst e1
 have P:aJ (Aq [.aq 30,.f (.str t)] [(30,.inst 2029 [] [])]) (.f .none) ((kg t m []).sJ 0 (0,0)):=by
  delta Aq
  exact aV λ_ _ F k=>F _ _ jy _ rfl _ rfl _ rfl k
 rw[e]
 exact λK k=> ⟨rfl,P _ ⟨rfl,e []▸hd m,rfl,k⟩⟩
structure aF where
 st:ae
 ev:aj
 ind:aj
 root:Bool
 seq:Bool
 map:Bool
 hl:Bool
 col:Nat
 ws:Bool
 iJ:Bool
 dW:Bool
 dE:Bool
 dd:Nat
 lb:List Nat
 d4:ae
 an:aj
 rt:aj
 fC:List ae
 yr:List ae
 DX:List ae
 out:List ae
 Qv:cc
 r:b5
noncomputable abbrev O6:List Nat:= [97,116,96,67,84,50,107,88,145,188,250,230,273,30,82,160,136,151,129,198,168,144,224,190,233,187,114,68]
def aF.hp (p:aF) (ln:Nat):b5:=(10,.inst 799 O6 [.aq 14,.f .none,.aq 11,p.st,.aq 12,.f p.ev,.aq 13,.f p.ind,.f (.int 0),.f (.bool p.root),.f (.bool p.seq),.f (.bool p.map),.f (.bool p.hl),.f (.int (.ofNat ln)),.f (.int (.ofNat p.col)),.f (.bool p.ws),.f (.bool p.iJ),.f (.bool p.dW),
  .f .none,.f (.bool p.dE),.f (.int (.ofNat p.dd)),.f (.int 80),.f (.str p.lb),p.d4,.f .none,.f .none,.f p.an,.f p.rt])::
  (14,.inst 834 [36] [.aq 15])::(20,p.Qv)::(15,.list p.out)::(11,.list p.fC)::(12,.list p.yr)::(13,.list p.DX)::p.r
def aF.o (p:aF) (l:List (List Nat)):aF:={p with out:=p.out++cg l}
noncomputable def aF.qt (p:aF):aF:={p with ws:=aa,iJ:=aa,col:=0}
def aF.w (p:aF) (l:List (List Nat)):aF:={p with ws:=aa,iJ:=aa,col:=0,out:=p.out++cg l}
noncomputable def aF.vi (p:aF) (c:Nat):aF:={p with ws:=ac,iJ:=ac,col:=p.col+c,dW:=ac}
def aF.kH (p:aF) (d:List Nat):aF:=(p.vi d.length).o [d]
noncomputable def aF.s0 (p:aF) (n:Nat):aF:={p with ws:=aa,col:=n}
noncomputable def aF.af2 (p:aF) (b:Bool):aF:={p with iJ:=b}
theorem aF.MI {p:aF} {b:Bool} (h:p.iJ=b):p=p.af2 b:=by cases p;cases h;rfl
def b9 (p:aF) (k:Nat):Prop:=p.out.length+k<=1000000
theorem b9.eC {p:aF} {k:Nat} (h:b9 p k):cn p.out=aa:=f3 (bf (gH ..) h)
theorem b9.le {p:aF} {k j:Nat} (h:b9 p k) (e:j<=k):b9 p j:=bf (iX e _) h
theorem b9.o {p q:aF} {k:Nat} (l:List (List Nat)) (e:q.out=p.out++cg l) (h:b9 p (l.length+k)):b9 q k:=by
 show q.out.length+k<=1000000
 rw[e,bL,lO,p9];exact h
theorem kM {p:aF} {x:List Nat} {ln:Nat} (ar:cn p.out=aa):aJ (Gu [.aq 14,.f (.str x)] (p.hp ln)) (.f .none) ((p.o [x]).hp ln):=by
 delta Gu
 exact aV λ_ _ F k=>F ar k
theorem ol {p:aF} {ln:Nat} (ar:cn p.out=aa):aJ (tz [.aq 10,.f .none] (p.hp ln)) (.f .none) ((p.w [p.lb]).hp (ln+1)):=by
 delta tz
 exact aV λ_ _ F k=>F aa rfl _ _ (kM (p:=p.qt) ar) k
theorem PT {p:aF} {b:List Nat} {ln:Nat} (ar:cn p.out=aa):aJ (tz [.aq 10,.f (.str b)] (p.hp ln)) (.f .none) ((p.w [b]).hp (ln+1)):=by
 delta tz
 exact aV λ_ _ F k=>F ac rfl _ _ (kM (p:=p.qt) ar) k
noncomputable def mU (ws:Bool) (x:List Nat):List Nat:=cond ws x (32::x)
theorem vW {p:aF} {x:List Nat} {ln:Nat} (ar:cn p.out=aa) (aH:x.length<=1000):aJ (Ap [.aq 10,.f (.str x),.f (.bool aa),.f (.bool ac),.f (.bool ac)] (p.hp ln)) (.f .none) ((p.kH (mU p.ws x)).hp ln):=by
 delta Ap
 cases hw:p.ws with
 |true=>
  have R:=kM (p:=p.vi x.length) (x:=x) (ln:=ln) ar
  cases bj:p.iJ with
  |true=>exact aV λ_ _ F k=>F aa hw aa bj _ _ R k
  |false=>rw[p.MI bj] at R hw⊢;exact aV λ_ _ F k=>F aa hw ac rfl _ _ R k
 |false=>
  have R:=kM (p:=p.vi (32::x).length) (x:=32::x) (ln:=ln) ar
  have z:(32::x).length<=16777216:=bf (iY aH) (by decide)
  cases bj:p.iJ with
  |true=>exact aV λ_ _ F k=>F ac hw aa rfl z aa bj _ _ R k
  |false=>rw[p.MI bj] at R hw⊢;exact aV λ_ _ F k=>F ac hw aa rfl z ac rfl _ _ R k
noncomputable def aF.sin (p:aF) (i:aj):aF:={p with ind:=i}
theorem aF.DW {p:aF} {i:aj} (h:p.ind=i):p=p.sin i:=by cases p;cases h;rfl
theorem P1 {p:aF} {ln:Nat} (ap:p.ind= .none) (aC:p.ws=aa) (bu:p.iJ=aa) (d8:p.col=0):aJ (ov [.aq 10] (p.hp ln)) (.f .none) (p.hp ln):=by
 delta ov
 rw[p.DW ap]
 exact aV λ_ _ F k=>F ac rfl aa bu ac (n5 (a:=0) (fi d8)) aa (sv (b:=0) d8) aa aC ac rfl k
theorem P2 {p:aF} {ln:Nat} (ar:cn p.out=aa) (ap:p.ind= .none) (bu:p.iJ=ac):aJ (ov [.aq 10] (p.hp ln)) (.f .none) ((p.w [p.lb]).hp (ln+1)):=by
 delta ov
 have L:=ol (ln:=ln) ar
 rw[p.DW ap] at L⊢
 exact aV λ_ _ F k=>F ac rfl ac bu _ _ L ac rfl k
def ft (n:Nat):Prop:=n=2\/n=3\/n=4
def aF.fT (p:aF) (n:Nat):aF:=(p.s0 n).o [gQ n 32]
noncomputable def aF.P5 (p:aF) (n:Nat):aF:={p with col:=n}
theorem aF.Vg {p:aF} {n:Nat} (h:p.col=n):p=p.P5 n:=by cases p;cases h;rfl
theorem P4 {p:aF} {n ln:Nat} (ar:cn p.out=aa) (h0:ft n) (ap:p.ind= .int (.ofNat n)) (bu:p.iJ=aa) (d8:p.col=0) (fq:p.ws=aa):aJ (ov [.aq 10] (p.hp ln)) (.f .none) ((p.fT n).hp ln):=by
 delta ov
 have R:=λx=>kM (p:=p.s0 n) (ln:=ln) (x:=x) ar
 rw[p.Vg d8,(p.P5 0).DW ap] at R⊢
 rcases h0 with rfl|rfl|rfl
 ·exact aV λ_ _ F k=>F aa rfl aa bu ac rfl ac rfl aa rfl (by decide:(-1000:Int)<2/\(2:Int)<1000) _ _ (R _) k
 ·exact aV λ_ _ F k=>F aa rfl aa bu ac rfl ac rfl aa rfl (by decide:(-1000:Int)<3/\(3:Int)<1000) _ _ (R _) k
 ·exact aV λ_ _ F k=>F aa rfl aa bu ac rfl ac rfl aa rfl (by decide:(-1000:Int)<4/\(4:Int)<1000) _ _ (R _) k
noncomputable abbrev dA:List Nat:= [10,133,8232,8233]
def lW (n a:Nat):List Nat:=cond (bO [a] [32,10,133,8232,8233]) (dv n) []
def iG (x:List Nat) (z y:Nat):List Nat:=cond (bO [z] dA) (cond (decide (c1 x.length=1)) [43] (cond (bO [y] dA) [43] [])) [45]
theorem sU {l:List Nat} {i:Int} {c:Nat} (h:gf l i=ab c):mV (.f (.str l)) (.f (.int i)) p1=ab (.f (.str [c])):=
 congrArg (λo=>match(o:Option Nat) with
   |some c=>ab (ae.f (.str [c]))
   |none=>af) h
def YK:S:=Cr.aO.hd.bd.aO.hd
def DL (p:aF) (x h:List Nat) (ln:Nat):St:=⟨[(37,ab (.aq 10)),(41,ab (.f (.str x))),(54,ab (.f (.str h)))],p.hp ln,[],[]⟩
theorem MB {p:aF} {x h:List Nat} {z y ln:Nat} {G:Prop} {K:cE->St->aB} (ap:gf x (-1)=ab z) (aC:x.length≠1->gf x (-2)=ab y) (aA:h.length<=1000) (F:aB.path G (bN (aI []) YK (DL p x h ln) K)):aB.path G (K .aQ (DL p x (h++iG x z y) ln)):=by
 have cG: ∀c:Nat,(h++ [c]).length<=16777216:=λc=>bL▸bf (h2 aA 1) (by decide)
 unfold iG
 cases cH:bO [z] dA with
 |false=>exact F _ (sU ap) _ (congrArg not cH) (cG 45)
 |true=>cases pu:decide (c1 x.length=1) with
  |true=>exact F _ (sU ap) _ (congrArg not cH) aa pu (cG 43)
  |false=>cases cP:bO [y] dA with
   |true=>exact F _ (sU ap) _ (congrArg not cH) ac pu _ (sU (aC λe=>absurd (e▸pu) (by decide))) aa cP (cG 43)
   |false=>
    show aB.path G (K .aQ (DL p x (h++ []) ln))
    rw[dj]
    exact F _ (sU ap) _ (congrArg not cH) ac pu _ (sU (aC λe=>absurd (e▸pu) (by decide))) ac cP
theorem afm {p:aF} {x be:List Nat} {a z y ln:Nat} (ag:ft p.dd) (aH:x=a::be) (ap:gf x (-1)=ab z) (aC:x.length≠1->gf x (-2)=ab y):aJ (Am [.aq 10,.f (.str x)] (p.hp ln)) (.f (.str (lW p.dd a++iG x z y))) (p.hp ln):=by
 delta Am
 unfold lW
 have hd:(dv p.dd).length<=1000/\p.dd<100:=by rcases ag with h|h|h<;>rw[h]<;>decide
 cases aE:bO [a] [32,10,133,8232,8233] with
 |true=>
  subst aH
  refine aV λG K F k=> ?_
  exact MB ap aC hd.1 (F aa rfl _ rfl aa aE hd.2 (bf hd.1 (by decide))) k
 |false=>
  subst aH
  refine aV λG K F k=> ?_
  exact MB (h:= []) ap aC (by decide) (F aa rfl _ rfl ac aE) k
theorem YE: ∀d∈ [[],[50],[51],[52]],∀c∈ [[],[45],[43]],(d++c).length<=10/\(iv (d++c) (.int (-1)) .none).map (aM · [43])=ab (aM c [43]):=by decide
theorem YD {n a z y:Nat} {x:List Nat} (ar:ft n):(lW n a++iG x z y).length<=10/\ ∃s,iv (lW n a++iG x z y) (.int (-1)) .none=ab s/\aM s [43]=aM (iG x z y) [43]:=by
 have D:lW n a∈ [[],[50],[51],[52]]:=by
  unfold lW
  cases bO [a] [32,10,133,8232,8233] with
  |false=>exact et
  |true=>rcases ar with rfl|rfl|rfl<;>decide
 have C:iG x z y∈ [[],[45],[43]]:=by
  unfold iG
  cases bO [z] dA<;>cases decide (c1 x.length=1)<;>cases bO [y] dA<;>decide
 have T:=YE _ D _ C
 exact⟨T.1,qc.mp T.2⟩
def fm (lb:List Nat) (c:Nat):List Nat:=cond (aM [c] [10]) lb [c]
noncomputable def ia (lb ind:List Nat):Bool->List Nat->List Nat->List (List Nat)
 |b,bs,[]=>cond b (bs.map (fm lb)) [bs,lb]
 |b,bs,c::r=>cond b (cond (bO [c] dA) (ia lb ind aa (bs++ [c]) r) (bs.map (fm lb)++ind::ia lb ind ac [c] r))
   (cond (bO [c] dA) (bs::ia lb ind aa [c] r) (ia lb ind ac (bs++ [c]) r))
theorem gm {α:Type} {b:Bool} {x y:α} (h:b=aa):cond b x y=x:=congrArg (cond · x y) h
theorem fo {α:Type} {b:Bool} {x y:α} (h:b=ac):cond b x y=y:=congrArg (cond · x y) h
theorem km {x pre acc r:List Nat} (h:x=pre++(acc++r)):tm (.f (.str x)) (.f (.int (.ofNat pre.length))) (.f (.int (.ofNat (pre++acc).length))) p1=ab (.f (.str acc)):=by
 have e:(x.drop pre.length).take ((pre++acc).length-pre.length)=acc:=by
  subst h
  rw[RQ,bL,Be,R2]
 exact congrArg (λl=>ab (ae.f (.str l))) e
theorem ka {x pre acc r:List Nat} {c:Nat} (h:x=pre++(acc++c::r)):mV (.f (.str x)) (.f (.int (.ofNat (pre++acc).length))) p1=ab (.f (.str [c])):=
 jJ (by rw[h,<-bt];exact uA)
def AG:S:=Cw.aO.aO.aO.aO.aO.aO.hd
def aiy:St->(cE->St->Prop)->Prop:=fb (ev (aI dr) AG.df).t (bN (aI dr) AG.bd)
noncomputable def uF:S:= .cons (.ite (.cmp .Eq (.lo 5) (.ks [10])) (.cons (.exp (.aG (.lo 37) 251 .nil .nil)) .nil) (.cons (.exp (.aG (.lo 37) 251 (.cons (.lo 5) .nil) .nil)) .nil)) .nil
structure o1 where
 x:List Nat
 h:aj
 c:Option ae
 c0:Option ae
 d:Option ae
def oy (l:o1) (b:Bool) (s e:Nat) (p:aF) (ln:Nat):St:=⟨[(37,ab (.aq 10)),(41,ab (.f (.str l.x))),(54,ab (.f l.h)),(78,ab (.f (.bool b))),(66,ab (.f (.int (.ofNat s)))),(9,ab (.f (.int (.ofNat e)))),(6,l.c),(5,l.c0),(23,l.d)],p.hp ln,[],[]⟩
structure rJ (p:aF):Prop where
 ws:p.ws=aa
 iJ:p.iJ=aa
 col:p.col=0
theorem aF.AH {p:aF} {a b:List (List Nat)}:(p.w a).w b=p.w (a++b):=congrArg (aF.mk _ _ _ _ _ _ _ _ _ _ _ _ _ _ _ _ _ _ _ _ · _ _) ((bt p.out _ _).trans (congrArg (p.out++ ·) (h5 a b).symm))
theorem UJ {l:o1} {b:Bool} {s e a ln:Nat} {p:aF} (ar:cn p.out=aa):aJ (jC (bN (aI dr) uF) (oy {l with c0:=ab (.f (.str [a]))} b s e p ln)) af (oy {l with c0:=ab (.f (.str [a]))} b s e (p.w [fm p.lb a]) (ln+1)):=by
 unfold fm
 cases h:aM [a] [10] with
 |true=>exact gU λ_ _ F k=>F aa h _ _ (ol ar) k
 |false=>exact gU λ_ _ F k=>F ac h _ _ (PT ar) k
theorem Le {l:o1} {b:Bool} {s e:Nat}: ∀(bs:List Nat) (p:aF) (c0:Option ae) (ln:Nat),b9 p (bs.length+1)-> ∃fQ bx,aJ (gX 5 (bN (aI dr) uF) (qB bs) (oy {l with c0:=c0} b s e p ln)) .aQ (oy {l with c0:=fQ} b s e (cond bs.isEmpty p (p.w (bs.map (fm p.lb)))) bx):=λbs=>by
 induction bs with
 |nil=>exact λp c0 ln _=> ⟨c0,ln,lc⟩
 |cons a bs ai=>
  intro p c0 ln ar
  refine bT (ai (p.w [fm p.lb a]) (ab (.f (.str [a]))) (ln+1) (b9.o [fm p.lb a] rfl (ar.le (by rw[du,du,eY];omega)))) λfQ bx i=> ⟨fQ,bx,la (UJ ar.eC) ?_⟩
  cases bs with
  |nil=>exact i
  |cons i3 bs=>exact kK i rfl (congrArg (λq=>oy {l with c0:=fQ} b s e q bx) aF.AH)
def j0 (p:aF) (bs:List Nat):aF:=cond bs.isEmpty p (p.w (bs.map (fm p.lb)))
theorem aF.M6 {p:aF} {n:Nat} {l:List (List Nat)}:(p.fT n).w l=p.w (gQ n 32::l):=congrArg (aF.mk _ _ _ _ _ _ _ _ _ _ _ _ _ _ _ _ _ _ _ _ · _ _) ((bt p.out _ _).trans (congrArg (p.out++ ·) (h5 [gQ n 32] l).symm))
theorem aF.hk {p:aF} {a l:List (List Nat)}:(p.o a).w l=p.w (a++l):=congrArg (aF.mk _ _ _ _ _ _ _ _ _ _ _ _ _ _ _ _ _ _ _ _ · _ _) ((bt p.out _ _).trans (congrArg (p.out++ ·) (h5 a l).symm))
theorem Ld {p:aF} {n:Nat} {l:List (List Nat)} (bs:List Nat):((j0 p bs).fT n).w l=p.w (bs.map (fm p.lb)++gQ n 32::l):=by
 cases bs with
 |nil=>exact aF.M6
 |cons a bs=>exact aF.M6.trans aF.AH
theorem Lb {p:aF} {bs:List Nat} (h:bs= []->rJ p):rJ (j0 p bs)/\(j0 p bs).ind=p.ind:=by
 cases bs with
 |nil=>exact⟨h rfl,rfl⟩
 |cons a bs=>exact⟨⟨rfl,rfl,rfl⟩,rfl⟩
theorem CG {p:aF} {k:Nat} (bs:List Nat) (h:b9 p (bs.length+k)):b9 (j0 p bs) k:=by
 cases bs with
 |nil=>exact h.le (lG ..)
 |cons a bs=>exact b9.o _ rfl (by rw[eg];exact h)
theorem jb {a b:Nat} (h:a<=b):decide (c1 a<=c1 b)=aa:=decide_eq_true (oH.mpr h)
theorem ND {a b:Nat} (h:b<a):decide (c1 a<=c1 b)=ac:=decide_eq_false λx=>absurd (oH.mp x) (H4 h)
structure hJ (x pre acc r:List Nat):Prop where
 eq:x=pre++(acc++r)
theorem hJ.len {x pre acc r:List Nat} (h:hJ x pre acc r):x.length=(pre++acc).length+r.length:=by rw[h.eq,<-bt,bL]
theorem hJ.on {x pre acc r:List Nat} {a:Nat} (h:hJ x pre acc (a::r)):hJ x pre (acc++ [a]) r/\(pre++(acc++ [a])).length=(pre++acc).length+1:=⟨⟨h.eq.trans (by rw[bt];rfl)⟩,by rw[<-bt,bL];rfl⟩
theorem hJ.cut {x pre acc r:List Nat} {a:Nat} (h:hJ x pre acc (a::r)):hJ x (pre++acc) [a] r/\((pre++acc)++ [a]).length=(pre++acc).length+1:=⟨⟨h.eq.trans (bt ..).symm⟩,bL⟩
noncomputable abbrev ind (n:Nat):List Nat:=gQ n 32
def jR (l:o1) (b:Bool) (s e:Nat) (p:aF) (ln:Nat) (q:aF):Prop:= ∃cA fO s' cN bx,aJ (aiy (oy l b s e p ln)) .aQ (oy cA fO s' cN q bx)
theorem jR.go {l l1:o1} {b b1:Bool} {s e s1 e1 ln vz:Nat} {p e9 q fa:aF} (h:aJ (kP (ev (aI dr) AG.df).t (bN (aI dr) AG.bd) (oy l b s e p ln)) af (oy l1 b1 s1 e1 e9 vz)) (k:jR l1 b1 s1 e1 e9 vz q) (dC:q=fa):jR l b s e p ln fa:=
 wy k λcA fO s' cN bx k=> ⟨cA,fO,s',cN,bx,dC▸fc h k⟩
theorem jR.fin {l:o1} {b:Bool} {s e ln:Nat} {p:aF} (h:l.x.length<e):jR l b s e p ln p:=⟨l,b,s,e,ln,eS (by exact cb λ_ _ F k=>F ac (ND h) k)⟩
theorem aiz {n:Nat} (h0:ft n): ∀(r pre acc:List Nat) (b:Bool) (l:o1) (p:aF) (ln:Nat),hJ l.x pre acc r->p.ind= .int (.ofNat n)->(b=aa->acc= []->rJ p/\r≠ [])->b9 p (acc.length+3*r.length+5)->
  jR l b pre.length (pre++acc).length p ln (p.w (ia p.lb (ind n) b acc r)):=λr=>by
 induction r with
 |nil=>
  intro pre acc b l p ln m bj ag ar
  have dw:(pre++acc).length=l.x.length:=m.len.symm
  cases b with
  |true=>
   cases acc with
   |nil=>exact absurd rfl (ag rfl rfl).2
   |cons a acc=>
    exact ak (Le (l:={l with c:=ab (.f .none)}) (b:=aa) (s:=pre.length) (e:=(pre++a::acc).length) (a::acc) p l.c0 ln (ar.le (by omega))) λfQ y=>ak y λbx i=>
     jR.go (l1:={l with c:=ab (.f .none),c0:=fQ}) (by exact cb λ_ _ F k=>F aa (jb (fi dw)) ac (n5 (fi dw.symm)) aa rfl aa rfl _ (km m.eq) _ _ i ac rfl ac rfl k) (jR.fin (tW (fi dw.symm))) rfl
  |false=>
   have hw:=ol (p:=p.o [acc]) (ln:=ln) (b9.eC (b9.o (k:=1) [acc] rfl (ar.le (by rw[du,eY];omega))))
   exact jR.go (l1:={l with c:=ab (.f .none),d:=ab (.f (.str acc))}) (b1:=ac) (by exact cb λ_ _ F k=>F aa (jb (fi dw)) ac (n5 (fi dw.symm)) ac rfl aa rfl _ (km m.eq) _ _ (kM ar.eC) aa rfl _ _ hw ac rfl k) (jR.fin (tW (fi dw.symm))) aF.hk
 |cons a r ai=>
  intro pre acc b l p ln m bj ag ar
  rw[du] at ar
  have dw:=m.len
  have aA:(pre++acc).length<l.x.length:=by rw[dw,du];omega
  have aG:=m.cut
  have q6:=m.on
  have keep: ∀b,bO [a] dA=b->jR {l with c:=ab (.f (.str [a]))} (bO [a] dA) pre.length ((pre++acc).length+1) p ln (p.w (ia p.lb (ind n) b (acc++ [a]) r)):=λb ag=>by
   rw[ag,<-q6.2]
   exact ai pre (acc++ [a]) b {l with c:=ab (.f (.str [a]))} p ln q6.1 bj (λ_ h=>absurd h (i5 (c9 _ _))) (ar.le (by rw[bL,du,eY];omega))
  cases b with
  |true=>cases aE:bO [a] dA with
   |true=>exact jR.go (by exact cb λ_ _ F k=>F aa (jb (kx aA)) aa (iq aA) _ (ka m.eq) aa rfl ac rfl _ (congrArg not aE) aa rfl k) (keep aa aE) (congrArg p.w (gm aE).symm)
   |false=>
    have dC:=Lb (bs:=acc) λh=> (ag rfl h).1
    have PE:=CG (k:=3*r.length+7) acc (ar.le (by omega))
    have W:=λln=>P4 (ln:=ln) PE.eC h0 (dC.2.trans bj) dC.1.iJ dC.1.col dC.1.ws
    refine bT (Le (l:={l with c:=ab (.f (.str [a]))}) (b:=aa) (s:=pre.length) (e:=(pre++acc).length) acc p l.c0 ln (ar.le (by omega))) λfQ bx i=> ?_
    have j:=ai (pre++acc) [a] ac {l with c:=ab (.f (.str [a])),c0:=fQ} ((j0 p acc).fT n) bx aG.1 (dC.2.trans bj) nofun (b9.o [ind n] rfl (PE.le (by simp only[du,eY];omega)))
    rw[aG.2,<-aE] at j
    exact jR.go (by exact cb λ_ _ F k=>F aa (jb (kx aA)) aa (iq aA) _ (ka m.eq) aa rfl ac rfl _ (congrArg not aE) _ (km m.eq) _ _ i aa rfl _ _ (W _) aa rfl k) j ((Ld acc).trans (congrArg p.w (by rw[aE,show((j0 p acc).fT n).lb=p.lb by cases acc<;>rfl];exact(fo aE).symm)))
  |false=>cases aE:bO [a] dA with
   |true=>
    have j:=ai (pre++acc) [a] aa {l with c:=ab (.f (.str [a])),d:=ab (.f (.str acc))} (p.o [acc]) ln aG.1 bj (λ_ h=>absurd h (c9 _ _)) (b9.o [acc] rfl (ar.le (by simp only[du,eY];omega)))
    rw[aG.2,<-aE] at j
    exact jR.go (by exact cb λ_ _ F k=>F aa (jb (kx aA)) aa (iq aA) _ (ka m.eq) ac rfl ac rfl aa aE _ (km m.eq) _ _ (kM ar.eC) ac rfl aa rfl k) j (aF.hk.trans (congrArg p.w (by rw[aE];exact(gm aE).symm)))
   |false=>exact jR.go (by exact cb λ_ _ F k=>F aa (jb (kx aA)) aa (iq aA) _ (ka m.eq) ac rfl ac rfl ac aE aa rfl k) (keep ac aE) (congrArg p.w (fo aE).symm)
noncomputable def aF.eL (p:aF) (b:Bool):aF:={p with dW:=b}
def aF.qT (p:aF) (d:List Nat) (b:Bool):aF:=((p.kH d).eL b).w [p.lb]
theorem aF.Mv {p:aF} {d:List Nat} {b:Bool} {l:List (List Nat)}:(p.qT d b).w l=(p.eL b).w (d::p.lb::l):=
 congrArg (aF.mk _ _ _ _ _ _ _ _ _ _ _ _ _ _ _ _ _ _ _ _ · _ _) ((bt (p.out++cg [d]) (cg [p.lb]) (cg l)).trans (bt p.out (cg [d]) _))
theorem Mw {p:aF} {d:List Nat} {b:Bool} {k:Nat} (h:b9 p (2+k)):b9 (p.qT d b) k:=b9.o (p:=p) [d,p.lb] (bt p.out _ _) h
structure wU (p:aF) (x:List Nat) (a z y:Nat):Prop where
 dd:ft p.dd
 hd: ∃be,x=a::be
 ap:gf x (-1)=ab z
 aC:x.length≠1->gf x (-2)=ab y
theorem Mu {p:aF} {x:List Nat} {a z y c ln:Nat} (H:wU p x a z y) (ar:b9 p 10): ∃h,h=lW p.dd a++iG x z y/\aJ (Am [.aq 10,.f (.str x)] (p.hp ln)) (.f (.str h)) (p.hp ln)/\(c::h).length<=16777216/\
  aJ (Ap [.aq 10,.f (.str (c::h)),.f (.bool aa),.f (.bool ac),.f (.bool ac)] (p.hp ln)) (.f .none) ((p.kH (mU p.ws (c::h))).hp ln)/\(∀b,aJ (tz [.aq 10,.f .none] (((p.kH (mU p.ws (c::h))).eL b).hp ln)) (.f .none) ((p.qT (mU p.ws (c::h)) b).hp (ln+1)))/\
  ∃s,tm (.f (.str h)) (.f (.int (-1))) (.f .none) p1=ab (.f (.str s))/\aM s [43]=aM (iG x z y) [43]:=
 have T:=YD (a:=a) (z:=z) (y:=y) (x:=x) H.dd
 ak H.hd λ_ aH=> ⟨_,rfl,afm H.dd aH H.ap H.aC,bf (iY T.1) (by decide),vW ar.eC (bf (iY T.1) (by decide)),λ_=>ol (b9.eC (b9.o (k:=1) (p:=p) [_] rfl (ar.le (by rw[du];decide)))),
  ak T.2 λs q=> ⟨s,congrArg (λo=>match(o:Option (List Nat)) with|some r=>ab (ae.f (.str r)) |none=>af) q.1,q.2⟩⟩
theorem afR {p:aF} {x:List Nat} {a z y n ln:Nat} (H:wU p x a z y) (ar:b9 p (3*x.length+10)) (h0:ft n) (bj:p.ind= .int (.ofNat n)):
  ∃bx,aJ (Gi [.aq 10,.f (.str x)] (p.hp ln)) (.f .none) (((p.qT (mU p.ws (124::(lW p.dd a++iG x z y))) (aM (iG x z y) [43])).w (ia p.lb (ind n) aa [] x)).hp bx):=by
 delta Gi
 refine ak (Mu (c:=124) (ln:=ln) H (ar.le (lG ..))) λh T=> ?_
 rw[<-T.1]
 refine ak T.2.2.2.2.2 λs q=> ?_
 rw[<-q.2]
 refine wy (aiz h0 x [] [] aa ⟨x,.str h,af,af,af⟩ (p.qT (mU p.ws (124::h)) (aM s [43])) (ln+1) ⟨rfl⟩ bj (λ_ _=> ⟨⟨rfl,rfl,rfl⟩,ak H.hd λ_ aH=>aH▸c9 _ _⟩) (Mw (ar.le (by rw[eY];omega)))) λcA fO s' cN bx W=> ⟨bx, ?_⟩
 revert W
 cases hs:aM s [43] with
 |true=>exact λW=>by exact aV λ_ _ F k=>F _ _ T.2.1 T.2.2.1 _ _ T.2.2.2.1 _ q.1 aa hs _ _ (T.2.2.2.2.1 aa) _ _ W k
 |false=>exact λW=>by exact aV λ_ _ F k=>F _ _ T.2.1 T.2.2.1 _ _ T.2.2.2.1 _ q.1 ac hs _ _ (T.2.2.2.2.1 ac) _ _ W k
noncomputable abbrev pT:List Nat:= [32,10,133,8232,8233]
def sx (lb bs:List Nat) (ls:Bool) (c:Nat):List (List Nat):=cond (!ls&&(!aM [c] [32]&&aM [bs.headD 0] [10])) [lb] []
noncomputable def gq (lb ind:List Nat):Bool->Bool->Bool->List Nat->List Nat->List (List Nat)
 |b,s,_,bs,[]=>cond b (bs.map (fm lb)) (cond s [bs] [bs,lb])
 |b,s,ls,bs,c::r=>cond b (cond (bO [c] dA) (gq lb ind (bO [c] dA) (aM [c] [32]) ls (bs++ [c]) r) (sx lb bs ls c++(bs.map (fm lb)++ind::gq lb ind (bO [c] dA) (aM [c] [32]) (aM [c] [32]) [c] r)))
   (cond s (cond (aM [c] [32]) (gq lb ind (bO [c] dA) (aM [c] [32]) ls (bs++ [c]) r) (bs::gq lb ind (bO [c] dA) (aM [c] [32]) ls [c] r))
    (cond (bO [c] pT) (bs::gq lb ind (bO [c] dA) (aM [c] [32]) ls [c] r) (gq lb ind (bO [c] dA) (aM [c] [32]) ls (bs++ [c]) r)))
def AF:S:=Cv.aO.aO.aO.aO.aO.aO.aO.aO.hd
def ain:St->(cE->St->Prop)->Prop:=fb (ev (aI dr) AF.df).t (bN (aI dr) AF.bd)
structure jA where
 l:o1
 ls:Bool
 s:Bool
 b:Bool
def gh (l:jA) (s e:Nat) (p:aF) (ln:Nat):St:=⟨[(37,ab (.aq 10)),(41,ab (.f (.str l.l.x))),(54,ab (.f l.l.h)),(203,ab (.f (.bool l.ls))),(95,ab (.f (.bool l.s))),(78,ab (.f (.bool l.b))),(66,ab (.f (.int (.ofNat s)))),(9,ab (.f (.int (.ofNat e)))),(6,l.l.c),(5,l.l.c0),(23,l.l.d)],p.hp ln,[],[]⟩
abbrev ox (σ σ':St):Prop:=aJ (kP (ev (aI dr) AF.df).t (bN (aI dr) AF.bd) σ) af σ'
theorem Ur {l:jA} {s e a ln:Nat} {p:aF} (ar:cn p.out=aa):aJ (jC (bN (aI dr) uF) (gh {l with l:={l.l with c0:=ab (.f (.str [a]))}} s e p ln)) af (gh {l with l:={l.l with c0:=ab (.f (.str [a]))}} s e (p.w [fm p.lb a]) (ln+1)):=by
 unfold fm
 cases h:aM [a] [10] with
 |true=>exact gU λ_ _ F k=>F aa h _ _ (ol ar) k
 |false=>exact gU λ_ _ F k=>F ac h _ _ (PT ar) k
noncomputable def jA.c0 (l:jA) (c0:Option ae):jA:={l with l:={l.l with c0:=c0}}
theorem K3 {l:jA} {s e:Nat}: ∀(bs:List Nat) (p:aF) (c0:Option ae) (ln:Nat),b9 p (bs.length+1)-> ∃fQ bx,aJ (gX 5 (bN (aI dr) uF) (qB bs) (gh (l.c0 c0) s e p ln)) .aQ (gh (l.c0 fQ) s e (j0 p bs) bx):=λbs=>by
 induction bs with
 |nil=>exact λp c0 ln _=> ⟨c0,ln,lc⟩
 |cons a bs ai=>
  intro p c0 ln ar
  refine bT (ai (p.w [fm p.lb a]) (ab (.f (.str [a]))) (ln+1) (b9.o [fm p.lb a] rfl (ar.le (by rw[du,du,eY];omega)))) λfQ bx i=> ⟨fQ,bx,la (Ur (l:=l) ar.eC) ?_⟩
  cases bs with
  |nil=>exact i
  |cons i3 bs=>exact kK i rfl (congrArg (λq=>gh (l.c0 fQ) s e q bx) aF.AH)
def jA.on (l:jA) (ls:Bool) (a:Nat) (c0 d:Option ae):jA:=⟨⟨l.l.x,l.l.h,ab (.f (.str [a])),c0,d⟩,ls,aM [a] [32],bO [a] dA⟩
theorem M9 {x pre acc r:List Nat} (h:x=pre++(acc++r)) (pv:acc≠ []):mV (.f (.str x)) (.f (.int (.ofNat pre.length))) p1=ab (.f (.str [acc.headD 0])):=by
 cases acc with
 |nil=>exact absurd rfl pv
 |cons a acc=>exact jJ (by rw[h];exact uA)
noncomputable def aF.cl (p:aF) (k:Nat):aF:={p with col:=p.col+k}
section
variable {l:jA} {pre acc r:List Nat} {a ln:Nat} {p:aF}
theorem aio (m:hJ l.l.x pre acc (a::r)) (ag:l.b=aa) (aE:bO [a] dA=aa):ox (gh l pre.length (pre++acc).length p ln) (gh (l.on l.ls a l.l.c0 l.l.d) pre.length ((pre++acc).length+1) p ln):=by
 have aA:(pre++acc).length<l.l.x.length:=by rw[m.len,du];omega
 exact cb λ_ _ F k=>F aa (jb (kx aA)) aa (iq aA) _ (ka m.eq) aa ag ac rfl _ (congrArg not aE) aa rfl k
theorem ait (m:hJ l.l.x pre acc (a::r)) (ag:l.b=ac) (hs:l.s=aa) (aE:aM [a] [32]=aa):ox (gh l pre.length (pre++acc).length p ln) (gh (l.on l.ls a l.l.c0 l.l.d) pre.length ((pre++acc).length+1) p ln):=by
 have aA:(pre++acc).length<l.l.x.length:=by rw[m.len,du];omega
 exact cb λ_ _ F k=>F aa (jb (kx aA)) aa (iq aA) _ (ka m.eq) ac ag aa hs _ (congrArg not aE) aa rfl k
theorem aiw (m:hJ l.l.x pre acc (a::r)) (ag:l.b=ac) (hs:l.s=ac) (aE:bO [a] pT=ac):ox (gh l pre.length (pre++acc).length p ln) (gh (l.on l.ls a l.l.c0 l.l.d) pre.length ((pre++acc).length+1) p ln):=by
 have aA:(pre++acc).length<l.l.x.length:=by rw[m.len,du];omega
 exact cb λ_ _ F k=>F aa (jb (kx aA)) aa (iq aA) _ (ka m.eq) ac ag ac hs ac rfl ac aE aa rfl k
theorem aiu (m:hJ l.l.x pre acc (a::r)) (ag:l.b=ac) (hs:l.s=aa) (aE:aM [a] [32]=ac) (ar:cn p.out=aa) (aD:p.col<=80):ox (gh l pre.length (pre++acc).length p ln) (gh (l.on l.ls a l.l.c0 (ab (.f (.str acc)))) (pre++acc).length ((pre++acc).length+1) ((p.cl acc.length).o [acc]) ln):=by
 have aA:(pre++acc).length<l.l.x.length:=by rw[m.len,du];omega
 cases h:decide (c1 (pre.length+1)=c1 (pre++acc).length) with
 |true=>exact cb λ_ _ F k=>F aa (jb (kx aA)) aa (iq aA) _ (ka m.eq) ac ag aa hs _ (congrArg not aE) aa h ac (n5 (a:=80) aD) _ (km m.eq) _ _ (kM (p:=p.cl acc.length) ar) aa rfl k
 |false=>exact cb λ_ _ F k=>F aa (jb (kx aA)) aa (iq aA) _ (ka m.eq) ac ag aa hs _ (congrArg not aE) ac h _ (km m.eq) _ _ (kM (p:=p.cl acc.length) ar) aa rfl k
theorem aiv (m:hJ l.l.x pre acc (a::r)) (ag:l.b=ac) (hs:l.s=ac) (aE:bO [a] pT=aa) (ar:cn p.out=aa):ox (gh l pre.length (pre++acc).length p ln) (gh (l.on l.ls a l.l.c0 (ab (.f (.str acc)))) (pre++acc).length ((pre++acc).length+1) ((p.cl acc.length).o [acc]) ln):=by
 have aA:(pre++acc).length<l.l.x.length:=by rw[m.len,du];omega
 exact cb λ_ _ F k=>F aa (jb (kx aA)) aa (iq aA) _ (ka m.eq) ac ag ac hs ac rfl aa aE _ (km m.eq) _ _ (kM (p:=p.cl acc.length) ar) ac rfl aa rfl k
def e1 (p:aF) (ls:Bool) (acc:List Nat) (a:Nat):aF:=cond (!ls&&(!aM [a] [32]&&aM [acc.headD 0] [10])) (p.w [p.lb]) p
theorem V8 {ls:Bool} (h:(!ls&&(!aM [a] [32]&&aM [acc.headD 0] [10]))=ac):e1 p ls acc a=p:=fo h
theorem cK (b:Bool):b=aa\/b=ac:=by cases b<;>decide
theorem aip {n:Nat} (h0:ft n) (bj:p.ind= .int (.ofNat n)) (m:hJ l.l.x pre acc (a::r)) (ag:l.b=aa) (aE:bO [a] dA=ac) (cJ:acc= []->rJ p/\l.ls=aa) (ar:b9 p (acc.length+3)):
  ∃fQ bx,ox (gh l pre.length (pre++acc).length p ln) (gh (l.on (aM [a] [32]) a fQ l.l.d) (pre++acc).length ((pre++acc).length+1) ((j0 (e1 p l.ls acc a) acc).fT n) bx):=by
 have aA:(pre++acc).length<l.l.x.length:=by rw[m.len,du];omega
 have G: ∀(q:aF) (ln:Nat),q.ind=p.ind->(acc= []->rJ q)->b9 q (acc.length+2)-> ∃fQ bx,aJ (gX 5 (bN (aI dr) uF) (qB acc) (gh ⟨⟨l.l.x,l.l.h,ab (.f (.str [a])),l.l.c0,l.l.d⟩,aM [a] [32],l.s,l.b⟩ pre.length (pre++acc).length q ln)) .aQ (gh ⟨⟨l.l.x,l.l.h,ab (.f (.str [a])),fQ,l.l.d⟩,aM [a] [32],l.s,l.b⟩ pre.length (pre++acc).length (j0 q acc) bx)/\aJ (ov [.aq 10] ((j0 q acc).hp bx)) (.f .none) (((j0 q acc).fT n).hp bx):=λq ln ap aC bu=>
  have dC:=Lb aC
  bT (K3 (l:=⟨⟨l.l.x,l.l.h,ab (.f (.str [a])),l.l.c0,l.l.d⟩,aM [a] [32],l.s,l.b⟩) (s:=pre.length) (e:=(pre++acc).length) acc q l.l.c0 ln (bu.le (ky _))) λfQ bx i=> ⟨fQ,bx,i,P4 (CG (k:=1) acc (bu.le (ky _))).eC h0 (dC.2.trans (ap.trans bj)) dC.1.iJ dC.1.col dC.1.ws⟩
 have g:=G p ln rfl (λh=> (cJ h).1) (ar.le (ky _))
 have L:=jb (kx aA)
 have E:=λq=>V8 (p:=p) (acc:=acc) (a:=a) (ls:=l.ls) q
 rcases cK l.ls with hs|hs
 ·rw[E (by rw[hs];rfl)]
  exact bT g λfQ bx g=> ⟨fQ,bx,by exact cb λ_ _ F k=>F aa L aa (iq aA) _ (ka m.eq) aa ag ac rfl _ (congrArg not aE) aa hs _ (km m.eq) _ _ g.1 aa rfl _ _ g.2 aa rfl k⟩
 have pv:acc≠ []:=λh=>absurd ((cJ h).2.symm.trans hs) (by decide)
 rcases cK (aM [a] [32]) with ap|ap
 ·rw[E (by rw[ap,wK,wJ,hq])]
  exact bT g λfQ bx g=> ⟨fQ,bx,by exact cb λ_ _ F k=>F aa L aa (iq aA) _ (ka m.eq) aa ag ac rfl _ (congrArg not aE) ac hs aa rfl _ (congrArg not ap) _ (km m.eq) _ _ g.1 aa rfl _ _ g.2 aa rfl k⟩
 rcases cK (aM [acc.headD 0] [10]) with aC|aC
 ·rw[show e1 p l.ls acc a=p.w [p.lb] from gm (by rw[hs,ap,aC];rfl)]
  exact bT (G (p.w [p.lb]) (ln+1) rfl (λh=>absurd h pv) (b9.o [p.lb] rfl (ar.le (by rw[du,eY];omega)))) λfQ bx g=> ⟨fQ,bx,by exact cb λ_ _ F k=>F aa L aa (iq aA) _ (ka m.eq) aa ag ac rfl _ (congrArg not aE) ac hs aa rfl _ (congrArg not ap) _ (M9 m.eq pv) aa aC _ _ (ol ar.eC) _ (km m.eq) _ _ g.1 aa rfl _ _ g.2 aa rfl k⟩
 ·rw[E (by rw[aC,hq,hq])]
  exact bT g λfQ bx g=> ⟨fQ,bx,by exact cb λ_ _ F k=>F aa L aa (iq aA) _ (ka m.eq) aa ag ac rfl _ (congrArg not aE) ac hs aa rfl _ (congrArg not ap) _ (M9 m.eq pv) ac aC _ (km m.eq) _ _ g.1 aa rfl _ _ g.2 aa rfl k⟩
theorem aiq (m:hJ l.l.x pre acc []) (ag:l.b=aa) (ar:b9 p (acc.length+1)):
  ∃cA bx,ox (gh l pre.length (pre++acc).length p ln) (gh cA (pre++acc).length ((pre++acc).length+1) (j0 p acc) bx)/\cA.l.x=l.l.x:=by
 have dw:(pre++acc).length=l.l.x.length:=m.len.symm
 refine bT (K3 (l:=⟨⟨l.l.x,l.l.h,ab (.f .none),l.l.c0,l.l.d⟩,ac,l.s,l.b⟩) (s:=pre.length) (e:=(pre++acc).length) acc p l.l.c0 ln ar) λfQ bx i=> ⟨⟨⟨l.l.x,l.l.h,ab (.f .none),fQ,l.l.d⟩,ac,l.s,l.b⟩,bx, ?_,rfl⟩
 cases hs:l.ls with
 |true=>exact cb λ_ _ F k=>F aa (jb (fi dw)) ac (n5 (fi dw.symm)) aa ag aa rfl aa hs _ (km m.eq) _ _ i ac rfl ac rfl k
 |false=>exact cb λ_ _ F k=>F aa (jb (fi dw)) ac (n5 (fi dw.symm)) aa ag aa rfl ac hs ac rfl _ (km m.eq) _ _ i ac rfl ac rfl k
theorem air (m:hJ l.l.x pre acc []) (ag:l.b=ac) (hs:l.s=ac) (ar:b9 p 2):
  ∃cA bx,ox (gh l pre.length (pre++acc).length p ln) (gh cA (pre++acc).length ((pre++acc).length+1) (((p.cl acc.length).o [acc]).w [p.lb]) bx)/\cA.l.x=l.l.x:=by
 have dw:(pre++acc).length=l.l.x.length:=m.len.symm
 have L:=ol (p:=(p.cl acc.length).o [acc]) (ln:=ln) (b9.eC (b9.o (p:=p) (k:=1) [acc] rfl ar))
 exact⟨⟨⟨l.l.x,l.l.h,ab (.f .none),l.l.c0,ab (.f (.str acc))⟩,l.ls,l.s,l.b⟩,ln+1,by exact cb λ_ _ F k=>F aa (jb (fi dw)) ac (n5 (fi dw.symm)) ac ag ac hs aa rfl _ (km m.eq) _ _ (kM (p:=p.cl acc.length) ar.eC) aa rfl _ _ L ac rfl k,rfl⟩
end
def ig (l:jA) (s e:Nat) (p:aF) (ln:Nat) (q:aF):Prop:= ∃cA s' cN bx,aJ (ain (gh l s e p ln)) .aQ (gh cA s' cN q bx)
theorem ig.go {l l1:jA} {s e s1 e1 ln vz:Nat} {p e9 q fa:aF} (h:ox (gh l s e p ln) (gh l1 s1 e1 e9 vz)) (k:ig l1 s1 e1 e9 vz q) (dC:q=fa):ig l s e p ln fa:=
 ni k λcA s' cN bx k=> ⟨cA,s',cN,bx,dC▸fc h k⟩
theorem ig.fin {l:jA} {s e ln:Nat} {p:aF} (h:l.l.x.length<e):ig l s e p ln p:=⟨l,s,e,ln,eS (by exact cb λ_ _ F k=>F ac (ND h) k)⟩
structure TU (l:jA) (p:aF) (n:Nat) (pre acc r:List Nat):Prop where
 m:hJ l.l.x pre acc r
 ind:p.ind= .int (.ofNat n)
 col:p.col<=4+pre.length
 MS:l.b=aa->acc= []->(rJ p/\l.ls=aa)/\r≠ []
 ei:l.b=ac->l.s=aa-> ∃u,acc=u++ [32]
 out:b9 p (acc.length+5*r.length+10)
theorem ajq {a:Nat} (h:bO [a] dA=ac) (k:aM [a] [32]=ac):bO [a] pT=ac:=by
 show(bA a 32&&aa||bO [a] dA)=ac
 rw[h,rL];exact k
theorem uU {p:aF} {acc:List Nat} {ls:Bool} {a:Nat}:(e1 p ls acc a).ind=p.ind/\(e1 p ls acc a).lb=p.lb/\(∀l,(e1 p ls acc a).w l=p.w (sx p.lb acc ls a++l))/\ ∀k,b9 p (1+k)->b9 (e1 p ls acc a) k:=by
 unfold e1 sx
 cases !ls&&(!aM [a] [32]&&aM [acc.headD 0] [10]) with
 |true=>exact⟨rfl,rfl,λ_=>aF.AH,λk h=>b9.o [p.lb] rfl h⟩
 |false=>exact⟨rfl,rfl,λ_=>rfl,λk h=>h.le (lG ..)⟩
theorem Lc {p:aF} (bs:List Nat):(j0 p bs).ind=p.ind/\(j0 p bs).lb=p.lb:=by cases bs<;>exact⟨rfl,rfl⟩
theorem ais {n:Nat} (h0:ft n): ∀(r pre acc:List Nat) (l:jA) (p:aF) (ln:Nat),TU l p n pre acc r->l.l.x.length<=70->(∀u,l.l.x≠u++ [32])->ig l pre.length (pre++acc).length p ln (p.w (gq p.lb (ind n) l.b l.s l.ls acc r)):=λr=>by
 induction r with
 |nil=>
  intro pre acc l p ln w _ sM
  have dw:(pre++acc).length=l.l.x.length:=w.m.len.symm
  rcases cK l.b with ag|ag
  ·refine bT (aiq w.m ag (w.out.le (iX (by decide) _))) λcA bx e=>ig.go e.1 (ig.fin (e.2▸tW (fi dw.symm))) ?_
   cases acc with
   |nil=>exact absurd rfl (w.MS ag rfl).2
   |cons a acc=>exact congrArg p.w (gm ag).symm
  ·rcases cK l.s with hs|hs
   ·exact ak (w.ei ag hs) λu d3=>absurd (w.m.eq.trans (by rw[d3,dj,<-bt])) (sM (pre++u))
   ·exact bT (air w.m ag hs (w.out.le (by omega))) λcA bx e=>ig.go e.1 (ig.fin (e.2▸tW (fi dw.symm))) (aF.hk.trans (congrArg p.w ((fo ag).trans (fo hs)).symm))
 |cons a r ai=>
  intro pre acc l p ln w yI sM
  have q6:=w.m.on
  have aG:=w.m.cut
  have ar:=w.out
  rw[du] at ar
  have hp:pre.length+acc.length<=70:=by have:=w.m.len;rw[bL] at this;omega
  have gs:aM [a] [32]=aa->a=32:=λh=> (gw (gM.mp h)).1
  have on:(l.b=ac->l.s=aa->aM [a] [32]=aa)->ig (l.on l.ls a l.l.c0 l.l.d) pre.length ((pre++acc).length+1) p ln (p.w (gq p.lb (ind n) (bO [a] dA) (aM [a] [32]) l.ls (acc++ [a]) r)):=λcy=>by
   rw[<-q6.2]
   exact ai pre (acc++ [a]) (l.on l.ls a l.l.c0 l.l.d) p ln ⟨q6.1,w.ind,w.col,λ_ h=>absurd h (i5 (c9 _ _)),λ_ h=> ⟨acc,by rw[gs h]⟩,ar.le (by rw[bL,du,eY];omega)⟩ yI sM
  have new: ∀(ls:Bool) (c0 d:Option ae) (q:aF) (ln:Nat),q.ind=p.ind->q.lb=p.lb->q.col<=4+(pre++acc).length->b9 q (1+5*r.length+10)->ig (l.on ls a c0 d) (pre++acc).length ((pre++acc).length+1) q ln (q.w (gq p.lb (ind n) (bO [a] dA) (aM [a] [32]) ls [a] r)):=λls c0 d q ln ap aC bu d8=>by
   rw[<-aG.2,<-aC]
   exact ai (pre++acc) [a] (l.on ls a c0 d) q ln ⟨aG.1,ap.trans w.ind,bu,λ_ h=>absurd h (c9 _ _),λ_ h=> ⟨[],by rw[gs h];rfl⟩,d8⟩ yI sM
  have cut: ∀d,ig (l.on l.ls a l.l.c0 d) (pre++acc).length ((pre++acc).length+1) ((p.cl acc.length).o [acc]) ln (p.w (acc::gq p.lb (ind n) (bO [a] dA) (aM [a] [32]) l.ls [a] r)):=λd=>
   (aF.hk (p:=p) (a:= [acc]))▸new l.ls l.l.c0 d ((p.cl acc.length).o [acc]) ln rfl rfl (by rw[bL,<-p9];exact h2 w.col _) (b9.o (p:=p) [acc] rfl (ar.le (by rw[du,eY];omega)))
  rcases cK l.b with ag|ag
  ·rcases cK (bO [a] dA) with aE|aE
   ·exact ig.go (aio w.m ag aE) (on λh=>absurd (ag.symm.trans h) (by decide)) (congrArg p.w ((gm ag).trans (gm aE)).symm)
   ·refine bT (aip h0 w.ind w.m ag aE (λh=> (w.MS ag h).1) (ar.le (by omega))) λc0 bx e=>ig.go e (new (aM [a] [32]) c0 l.l.d _ bx ?_ ?_ ?_ ?_) ?_
    ·exact(Lc acc).1.trans uU.1
    ·exact(Lc acc).2.trans uU.2.1
    ·exact bf (show n<=4 by rcases h0 with rfl|rfl|rfl<;>decide) (gH ..)
    ·exact b9.o [ind n] rfl (CG acc (uU.2.2.2 _ (ar.le (by rw[du,eY];omega))))
    ·rw[Ld,uU.2.1,uU.2.2.1]
     exact congrArg p.w ((gm ag).trans (fo aE)).symm
  ·rcases cK l.s with hs|hs
   ·rcases cK (aM [a] [32]) with aE|aE
    ·exact ig.go (ait w.m ag hs aE) (on λ_ _=>aE) (congrArg p.w ((fo ag).trans ((gm hs).trans (gm aE))).symm)
    ·exact ig.go (aiu w.m ag hs aE ar.eC (bf w.col (by omega))) (cut _) (congrArg p.w ((fo ag).trans ((gm hs).trans (fo aE))).symm)
   ·rcases cK (bO [a] pT) with aE|aE
    ·exact ig.go (aiv w.m ag hs aE ar.eC) (cut _) (congrArg p.w ((fo ag).trans ((fo hs).trans (gm aE))).symm)
    ·exact ig.go (aiw w.m ag hs aE) (on λ_ h=>absurd (hs.symm.trans h) (by decide)) (congrArg p.w ((fo ag).trans ((fo hs).trans (fo aE))).symm)
theorem afQ {p:aF} {x:List Nat} {a z y n ln:Nat} (H:wU p x a z y) (ar:b9 p (5*x.length+20)) (h0:ft n) (bj:p.ind= .int (.ofNat n)) (yI:x.length<=70) (sM: ∀u,x≠u++ [32]):
  ∃bx,aJ (Gh [.aq 10,.f (.str x)] (p.hp ln)) (.f .none) (((p.qT (mU p.ws (62::(lW p.dd a++iG x z y))) (aM (iG x z y) [43])).w (gq p.lb (ind n) aa ac aa [] x)).hp bx):=by
 delta Gh
 refine ak (Mu (c:=62) (ln:=ln) H (ar.le (HY (by decide)))) λh T=> ?_
 rw[<-T.1]
 refine ak T.2.2.2.2.2 λs q=> ?_
 rw[<-q.2]
 refine ni (ais h0 x [] [] ⟨⟨x,.str h,af,af,af⟩,aa,ac,aa⟩ (p.qT (mU p.ws (62::h)) (aM s [43])) (ln+1) ⟨⟨rfl⟩,bj,fw _,λ_ _=> ⟨⟨⟨rfl,rfl,rfl⟩,rfl⟩,ak H.hd λ_ aH=>aH▸c9 _ _⟩,nofun,Mw (ar.le (by rw[eY];omega))⟩ yI sM) λcA s' cN bx W=> ⟨bx, ?_⟩
 revert W
 cases hs:aM s [43] with
 |true=>exact λW=>by exact aV λ_ _ F k=>F _ _ T.2.1 T.2.2.1 _ _ T.2.2.2.1 _ q.1 aa hs _ _ (T.2.2.2.2.1 aa) _ _ W k
 |false=>exact λW=>by exact aV λ_ _ F k=>F _ _ T.2.1 T.2.2.1 _ _ T.2.2.2.1 _ q.1 ac hs _ _ (T.2.2.2.2.1 ac) _ _ W k
noncomputable abbrev mg:List Nat:= [97,10,32,98,99,100,45,101,35,102,58,103,46,124,8232,233]
def ji (dE:Bool):Bool->List Nat->Prop
 |ei,[]=>ei=ac
 |ei,c::r=>c∈mg/\(127<=c->dE=aa)/\(bO [c] dA=aa->ei=ac)/\ji dE (aM [c] [32]) r
theorem tH {q:Nat->Bool} (h:mg.all q=aa) {c:Nat} (aD:c∈mg):q c=aa:=fM.mp h c aD
structure fE where
 e1:Bool
 e2:Bool
 ik:Bool
 nT:Bool
 nU:Bool
 qG:Bool
 uV:Bool
 De:Bool
 qH:Bool
 lR:Bool
 sy:Bool
 u:Option ae
noncomputable def fE.zY (f:fE) (a b:Bool):fE:={f with e1:=a,e2:=b}
noncomputable def fE.s3 (f:fE):fE:={f with ik:=aa}
noncomputable def fE.kn (f:fE):fE:={f with u:=ab (.f (.bool aa))}
noncomputable def fE.s4 (f:fE) (a b:Bool):fE:={f with nT:=a,uV:=b,lR:=aa,sy:=ac}
noncomputable def fE.s5 (f:fE) (a b:Bool):fE:={f with nU:=a,qG:=b,lR:=ac,sy:=aa}
noncomputable def fE.aez (f:fE):fE:={f with lR:=ac,sy:=ac}
noncomputable def fE.PL (f:fE) (a b:Bool):fE:={f with De:=a,qH:=b}
noncomputable def Jk (x:List Nat) (f:fE) (n:Nat) (c:Option ae) (t:List (Nat×Option ae)):List (Nat×Option ae):=
 [(37,ab (.aq 10)),(92,ab (.f (.str x))),(244,ab (.f (.bool f.e1))),(228,ab (.f (.bool f.e2))),(174,ab (.f (.bool f.ik))),(274,ab (.f (.bool ac))),(203,ab (.f (.bool f.nT))),(202,ab (.f (.bool f.nU))),(220,ab (.f (.bool ac))),(219,ab (.f (.bool f.qG))),(169,ab (.f (.bool f.uV))),(178,ab (.f (.bool ac))),(302,ab (.f (.bool f.De))),(300,ab (.f (.bool f.qH))),(214,ab (.f (.bool f.lR))),(213,ab (.f (.bool f.sy))),(55,ab (.f (.int (.ofNat n)))),(6,c),(275,f.u)]++t
def sb (x:List Nat) (p:aF) (ln:Nat) (f:fE) (n:Nat) (c:Option ae):St:=⟨Jk x f n c [(242,af),(254,af),(279,af),(278,af),(167,af)],p.hp ln,[],[]⟩
def us (n:Nat):S:=n.repeat S.aO Cq
def an (n:Nat):S:=n.repeat S.aO (us 17).hd.bd
def oB (x:List Nat) (p:aF) (ln:Nat) (i:Nat) (f:fE) (n a:Nat) (ei:Bool):Prop:= ∃h6:fE,h6.lR=ei/\ ∀(G:Prop) (K:cE->St->aB),aB.path G (bN (aI eR) (an i) (sb x p ln f n (ab (.f (.str [a])))) K)->aB.path G (K .aQ (sb x p ln h6 (n+1) (ab (.f (.str [a])))))
theorem oB.st {x:List Nat} {p:aF} {ln i j n a:Nat} {f f1:fE} {ei:Bool} (h:oB x p ln j f1 n a ei) (w: ∀(G:Prop) (K:cE->St->aB),aB.path G (bN (aI eR) (an i) (sb x p ln f n (ab (.f (.str [a])))) K)->aB.path G (bN (aI eR) (an j) (sb x p ln f1 n (ab (.f (.str [a])))) K)):oB x p ln i f n a ei:=
 ak h λh6 h=> ⟨h6,h.1,λG K F=>h.2 G K (w G K F)⟩
section
variable {x:List Nat} {p:aF} {ln n a:Nat} {G:Prop} {K:cE->St->aB} {f:fE}
theorem nJ (ar:n<x.length):oB x p ln 5 f n a f.lR:=by
 have l:decide (c1 (n+1+1)≥c1 x.length)=ac->n+1+1<x.length:=λh=>Nat.lt_of_not_le λg=>absurd (oH.mpr g) (of_decide_eq_false h)
 rcases cK (decide (c1 (n+1+1)≥c1 x.length)) with h|h
 ·refine⟨(f.PL (bO [a] [0,32,9,13,10,133,8232,8233]) (decide (c1 (n+1+1)≥c1 x.length))),rfl,λG K F=> ?_⟩
  exact F aa h
 ·refine⟨(f.PL (bO [a] [0,32,9,13,10,133,8232,8233]) (bO [x[n+1+1]'(l h)] [0,32,9,13,10,133,8232,8233])),rfl,λG K F=> ?_⟩
  exact F ac h _ (jJ (n:=n+1+1) (nt (l h)))
theorem xD (ar:n<x.length) (gs:aM [a] [32]=aa->n+1<x.length) (ag:bO [a] dA=aa->f.lR=ac):oB x p ln 4 f n a (aM [a] [32]):=by
 have N: ∀gs:n+1<x.length,decide (c1 n=c1 x.length-1)=ac:=λh=>decide_eq_false λh=>by have h:(n:Int)=(x.length:Int) -1:=h;omega
 rcases cK (aM [a] [32]) with hs|hs
 ·rw[hs]
  rcases cK (decide (c1 n=0)) with h0|h0
  ·rcases cK f.sy with gy|gy
   ·refine(nJ (f:=f.s4 aa aa) ar).st λG K F=> ?_
    exact F aa hs aa h0 ac (N (gs hs)) aa gy
   ·refine(nJ (f:=f.s4 aa f.uV) ar).st λG K F=> ?_
    exact F aa hs aa h0 ac (N (gs hs)) ac gy
  ·rcases cK f.sy with gy|gy
   ·refine(nJ (f:=f.s4 f.nT aa) ar).st λG K F=> ?_
    exact F aa hs ac h0 ac (N (gs hs)) aa gy
   ·refine(nJ (f:=f.s4 f.nT f.uV) ar).st λG K F=> ?_
    exact F aa hs ac h0 ac (N (gs hs)) ac gy
 rw[hs]
 rcases cK (bO [a] dA) with aS|aS
 ·rcases cK (decide (c1 n=0)) with h0|h0
  ·rcases cK (decide (c1 n=c1 x.length-1)) with gy|gy
   ·refine(nJ (f:=f.s5 aa aa) ar).st λG K F=> ?_
    exact F ac hs aa aS aa h0 aa gy ac (ag aS)
   ·refine(nJ (f:=f.s5 aa f.qG) ar).st λG K F=> ?_
    exact F ac hs aa aS aa h0 ac gy ac (ag aS)
  ·rcases cK (decide (c1 n=c1 x.length-1)) with gy|gy
   ·refine(nJ (f:=f.s5 f.nU aa) ar).st λG K F=> ?_
    exact F ac hs aa aS ac h0 aa gy ac (ag aS)
   ·refine(nJ (f:=f.s5 f.nU f.qG) ar).st λG K F=> ?_
    exact F ac hs aa aS ac h0 ac gy ac (ag aS)
 ·refine(nJ (f:=f.aez) ar).st λG K F=> ?_
  exact F ac hs ac aS
def adH (a:Nat):Bool:=aM [a] [10] || ((!en [a] [32])&&((!en [126] [a]) || (en [126] [a]&&((gG 127 a&&(!aM [a] [65279]))&&(aM [a] [133] || ((!en [a] [160])&&(!en [55295] [a])))))))
theorem Jl (ar:n<x.length) (aD:a∈mg) (d3:127<=a->p.dE=aa) (gs:aM [a] [32]=aa->n+1<x.length) (ag:bO [a] dA=aa->f.lR=ac):oB x p ln 3 f n a (aM [a] [32]):=by
 have V:aM [a] [10] || ((!en [a] [32])&&((!en [126] [a]) || (en [126] [a]&&((gG 127 a&&(!aM [a] [65279]))&&(aM [a] [133] || ((!en [a] [160])&&(!en [55295] [a]))))))):=tH (q:=adH) (by decide) aD
 rcases cK (aM [a] [10]) with ap|ap
 ·refine(xD ar gs ag).st λG K F=> ?_
  exact F aa ap
 rw[ap,oD,gF,nk] at V
 rcases V.2 with bu|bu
 ·refine(xD ar gs ag).st λG K F=> ?_
  exact F ac ap aa V.1 aa bu
 rw[gF,gF,gF,nk] at bu
 have dE:=d3 (cS bu.2.1.1)
 rcases cK (aM [a] [133]) with d8|d8
 ·refine(xD (f:=f.kn) ar gs ag).st λG K F=> ?_
  exact F ac ap aa V.1 _ (congrArg not bu.1) aa d8 aa bu.2.1.2 aa dE
 ·rcases bu.2.2 with fq|fq
  ·exact absurd (d8.symm.trans fq) (by decide)
  rw[gF] at fq
  refine(xD (f:=f.kn) ar gs ag).st λG K F=> ?_
  exact F ac ap aa V.1 _ (congrArg not bu.1) ac d8 aa fq.1 aa fq.2 aa bu.2.1.2 aa dE
theorem T8 (ar:n<x.length) (aD:a∈mg) (d3:127<=a->p.dE=aa) (gs:aM [a] [32]=aa->n+1<x.length) (ag:bO [a] dA=aa->f.lR=ac):oB x p ln 2 f n a (aM [a] [32]):=by
 rcases cK (bO [a] dA) with ap|ap
 ·refine(Jl (f:=f.s3) ar aD d3 gs ag).st λG K F=> ?_
  exact F aa ap
 ·refine(Jl ar aD d3 gs ag).st λG K F=> ?_
  exact F ac ap
theorem T7 (ar:n<x.length) (aD:a∈mg) (d3:127<=a->p.dE=aa) (gs:aM [a] [32]=aa->n+1<x.length) (ag:bO [a] dA=aa->f.lR=ac) (h0:n=0->a≠58/\(a=45->f.qH=ac)):oB x p ln 1 f n a (aM [a] [32]):=by
 have k:=λf ag=>T8 (ln:=ln) (f:=f) ar aD d3 gs ag
 clear gs ar d3
 rcases Nat.eq_zero_or_pos n with cH|hp
 ·have z:decide (c1 n=0)=aa:=decide_eq_true (congrArg c1 cH)
  obtain ⟨g1,g2⟩:=h0 cH
  have V:aM [a] [58] || !bO [a] [63,58]:=tH (q:=λa=>aM [a] [58] || !bO [a] [63,58]) (by decide) aD
  rw[h9 g1,oD,oE] at V
  have g3:aM [a] [45]=aa->f.qH=ac:=λh=>g2 (gw (gM.mp h)).1
  rcases cK (bO [a] [35,44,91,93,123,125,38,42,33,124,62,39,34,37,64,96]) with ap|ap
  ·refine(k (f.zY aa aa) ag).st λG K F=> ?_
   rcases cK (aM [a] [45]) with aC|aC
   ·exact F aa z aa ap ac V aa aC ac (g3 aC)
   ·exact F aa z aa ap ac V ac aC
  ·refine(k f ag).st λG K F=> ?_
   rcases cK (aM [a] [45]) with aC|aC
   ·exact F aa z ac ap ac V aa aC ac (g3 aC)
   ·exact F aa z ac ap ac V ac aC
 ·have z:decide (c1 n=0)=ac:=decide_eq_false λh=>absurd (AY h) (H3 hp)
  have V: !bO [a] [44,63,91,93,123,125]:=tH (q:=λa=> !bO [a] [44,63,91,93,123,125]) (by decide) aD
  rw[oE] at V
  rcases cK (aM [a] [58]) with ap|ap
  ·have aC:aM [a] [35]=ac:=by rw[(gw (gM.mp ap)).1];rfl
   rcases cK f.qH with bu|bu
   ·refine(k (f.zY aa aa) ag).st λG K F=> ?_
    exact F ac z ac V aa ap aa bu ac aC
   ·refine(k (f.zY f.e1 aa) ag).st λG K F=> ?_
    exact F ac z ac V aa ap ac bu ac aC
  ·rcases cK (aM [a] [35]) with aC|aC
   ·rcases cK f.De with bu|bu
    ·refine(k (f.zY aa aa) ag).st λG K F=> ?_
     exact F ac z ac V ac ap aa aC aa bu
    ·refine(k f ag).st λG K F=> ?_
     exact F ac z ac V ac ap aa aC ac bu
   ·refine(k f ag).st λG K F=> ?_
    exact F ac z ac V ac ap ac aC
theorem T9: ∀(r pre:List Nat) (f:fE) (c:Option ae),x=pre++r->ji p.dE f.lR r->(pre= []-> ∀c iu,r=c::iu->c≠58/\(c=45->f.qH=ac))->
  ∃h6 fA f7,aJ (fb (ev (aI eR) (us 17).hd.df).t (bN (aI eR) (an 0)) (sb x p ln f pre.length c)) .aQ (sb x p ln h6 fA f7):=λr=>by
 induction r with
 |nil=>exact λpre f c aH _ _=> ⟨f,pre.length,c,eS (by exact cb λ_ _ F k=>F ac (n5 (fi ((congrArg A6 aH).trans (by rw[dj])))) k)⟩
 |cons a r ai=>
  intro pre f c aH bW h0
  have Y4:x=(pre++ [a])++r:=aH.trans (by rw[bt];rfl)
  have aA:pre.length<x.length:=by rw[aH,bL,du];omega
  have N:(pre++ [a]).length=pre.length+1:=bL
  have gs:aM [a] [32]=aa->pre.length+1<x.length:=λh=>by
   cases r with
   |nil=>exact absurd (h.symm.trans bW.2.2.2) (by decide)
   |cons b r=>rw[aH,bL,du,du];omega
  refine ak (T7 (p:=p) (ln:=ln) (f:=f) (n:=pre.length) aA bW.1 bW.2.1 gs bW.2.2.1 (λh=>h0 (List.length_eq_zero_iff.mp h) a r rfl)) λh6 M=>c5 (ai (pre++ [a]) h6 (ab (.f (.str [a]))) Y4 (M.1▸bW.2.2.2) λh=>absurd h (i5 (c9 _ _))) λXc fA f7 R6=> ⟨Xc,fA,f7,fc ?_ (N▸R6)⟩
  refine cb λG W F k=>M.2 G (cq W) ?_ k
  exact F aa (iq aA) _ (jJ (n:=pre.length) (c:=a) (by rw[aH];exact uA))
end
noncomputable def mE (x:List Nat) (v:Bool×Bool×Bool×Bool):aj:= .inst 359 [92,49,138,242,254,279,278,167] [.str x,.bool ac,.bool v.1,.bool v.2.1,.bool v.2.2.1,.bool v.2.2.2,.bool aa,.bool aa]
def uu (x:List Nat) (p:aF) (ln:Nat) (f:fE) (n:Nat) (c:Option ae) (a b d:Bool):St:=⟨Jk x f n c [(242,ab (.f (.bool a))),(254,ab (.f (.bool b))),(279,ab (.f (.bool d))),(278,ab (.f (.bool aa))),(167,ab (.f (.bool aa)))],p.hp ln,[],[]⟩
def mm (x:List Nat) (p:aF) (ln i:Nat) (σ:St):Prop:= ∃v,∀(G:Prop) (W:ae->b5->Prop),aB.path G (bN (aI eR) (us i) σ (ki W))->(W (.f (mE x v)) (p.hp ln)->G)
theorem mm.st {x:List Nat} {p:aF} {ln i j:Nat} {σ σ':St} (h:mm x p ln j σ') (w: ∀(G:Prop) (W:ae->b5->Prop),aB.path G (bN (aI eR) (us i) σ (ki W))->aB.path G (bN (aI eR) (us j) σ' (ki W))):mm x p ln i σ:=
 ak h λv h=> ⟨v,λG W F=>h G W (w G W F)⟩
section
variable {x:List Nat} {p:aF} {ln n a:Nat} {f:fE} {c:Option ae} {g1 g2 g3:Bool}
theorem Jz:mm x p ln 29 (uu x p ln f n c g1 g2 g3):=by
 rcases cK f.e1 with h|h
 ·refine⟨⟨f.ik,g1,ac,g3⟩,λG W F k=> ?_⟩
  exact F aa h _ _ (hS rfl rfl) k
 ·refine⟨⟨f.ik,g1,g2,g3⟩,λG W F k=> ?_⟩
  exact F ac h _ _ (hS rfl rfl) k
theorem Jy:mm x p ln 28 (uu x p ln f n c g1 g2 g3):=by
 rcases cK f.e2 with h|h
 ·refine(Jz (f:=f) (n:=n) (c:=c) (g1:=ac) (g2:=g2) (g3:=g3)).st λG W F=> ?_
  exact F aa h
 ·refine(Jz (f:=f) (n:=n) (c:=c) (g1:=g1) (g2:=g2) (g3:=g3)).st λG W F=> ?_
  exact F ac h
theorem Jx:mm x p ln 27 (uu x p ln f n c g1 g2 g3):=by
 rcases cK f.ik with h|h
 ·refine(Jy (f:=f) (n:=n) (c:=c) (g1:=ac) (g2:=ac) (g3:=g3)).st λG W F=> ?_
  exact F aa h
 ·refine(Jy (f:=f) (n:=n) (c:=c) (g1:=g1) (g2:=g2) (g3:=g3)).st λG W F=> ?_
  exact F ac h
theorem xH:mm x p ln 25 (uu x p ln f n c g1 g2 g3):=by
 rcases cK f.uV with h|h
 ·refine(Jx (f:=f) (n:=n) (c:=c) (g1:=ac) (g2:=ac) (g3:=ac)).st λG W F=> ?_
  exact F aa h ac rfl ac rfl
 ·refine(Jx (f:=f) (n:=n) (c:=c) (g1:=g1) (g2:=g2) (g3:=g3)).st λG W F=> ?_
  exact F ac h ac rfl ac rfl
theorem Un:mm x p ln 23 (uu x p ln f n c g1 g2 g3):=by
 rcases cK f.nT with h|h
 ·refine(xH (f:=f) (n:=n) (c:=c) (g1:=ac) (g2:=ac) (g3:=g3)).st λG W F=> ?_
  exact F aa h ac rfl
 rcases cK f.nU with ap|ap
 ·refine(xH (f:=f) (n:=n) (c:=c) (g1:=ac) (g2:=ac) (g3:=g3)).st λG W F=> ?_
  exact F ac h aa ap ac rfl
 rcases cK f.qG with aC|aC
 ·refine(xH (f:=f) (n:=n) (c:=c) (g1:=ac) (g2:=ac) (g3:=g3)).st λG W F=> ?_
  exact F ac h ac ap ac rfl aa aC ac rfl
 ·refine(xH (f:=f) (n:=n) (c:=c) (g1:=g1) (g2:=g2) (g3:=g3)).st λG W F=> ?_
  exact F ac h ac ap ac rfl ac aC ac rfl
def Jj (x:List Nat) (p:aF) (ln:Nat) (b:Bool) (u v:Option ae):St:=⟨[(37,ab (.aq 10)),(92,ab (.f (.str x))),(244,ab (.f (.bool b))),(228,ab (.f (.bool b))),(174,ab (.f (.bool ac))),(274,ab (.f (.bool ac))),(203,ab (.f (.bool ac))),(202,ab (.f (.bool ac))),(220,ab (.f (.bool ac))),(219,ab (.f (.bool ac))),(169,ab (.f (.bool ac))),(178,ab (.f (.bool ac))),(302,u),(300,v),(214,af),(213,af),(55,af),(6,af),(275,af),(242,af),(254,af),(279,af),(278,af),(167,af)],p.hp ln,[],[]⟩
theorem Jw {b v:Bool} (bW:ji p.dE ac x) (h0: ∀c iu,x=c::iu->c≠58/\(c=45->v=ac)):mm x p ln 14 (Jj x p ln b (ab (.f (.bool aa))) (ab (.f (.bool v)))):=by
 refine c5 (T9 (x:=x) (p:=p) (ln:=ln) x [] ⟨b,b,ac,ac,ac,ac,ac,aa,v,ac,ac,af⟩ af rfl bW λ_=>h0) λf n c L=> (Un (f:=f) (n:=n) (c:=c) (g1:=aa) (g2:=aa) (g3:=aa)).st λG W F=> ?_
 exact F _ _ L
theorem Um {b:Bool} {be:List Nat} (bW:ji p.dE ac (a::be)) (h0:a≠58/\(a=45-> ∃r,be=45::r)):mm (a::be) p ln 12 (Jj (a::be) p ln b af af):=by
 cases be with
 |nil=>
  refine(Jw (x:= [a]) (b:=b) (v:=aa) bW ?_).st λG W F=> ?_
  ·exact λc iu e=> ⟨(gw e).1▸h0.1,λh=>ak (h0.2 ((gw e).1.trans h)) λr h=>nomatch h⟩
  exact F aa rfl
 |cons d r=>
  refine(Jw (x:=a::d::r) (b:=b) (v:=bO [d] [0,32,9,13,10,133,8232,8233]) bW ?_).st λG W F=> ?_
  ·exact λc iu e=> ⟨(gw e).1▸h0.1,λh=>ak (h0.2 ((gw e).1.trans h)) λr h=>by rw[(gw h).1];rfl⟩
  exact F ac rfl _ rfl
theorem ae3 {be:List Nat} (bW:ji p.dE ac (a::be)) (h0:a≠58/\(a=45-> ∃r,be=45::r)): ∃v,aJ (F2 [.aq 10,.f (.str (a::be))] (p.hp ln)) (.f (mE (a::be) v)) (p.hp ln):=by
 delta F2
 have T:=λb=>Um (b:=b) (ln:=ln) bW h0
 rcases cK (pre [45,45,45] (a::be)) with h|h
 ·refine ak (T aa) λv T=> ⟨v,aV λG W F k=>T G W ?_ k⟩
  exact F aa rfl aa h
 rcases cK (pre [46,46,46] (a::be)) with ap|ap
 ·refine ak (T aa) λv T=> ⟨v,aV λG W F k=>T G W ?_ k⟩
  exact F aa rfl ac h aa ap
 ·refine ak (T ac) λv T=> ⟨v,aV λG W F k=>T G W ?_ k⟩
  exact F aa rfl ac h ac ap
end
structure jz (dE:Bool) (x:List Nat):Prop where
 hd: ∃a be,x=a::be/\a≠58/\(a=45-> ∃r,be=45::r)
 ok:ji dE ac x
 le:x.length<=12
theorem Pj {dE:Bool}: ∀(x:List Nat) (ei:Bool),ji dE ei x-> ∀u,x≠u++ [32]:=λx=>by
 induction x with
 |nil=>exact λ_ _ u h=>absurd (RM.mp h.symm).2 (c9 _ _)
 |cons c r ai=>
  intro ei h u e
  cases u with
  |nil=>
   have e:=gw e
   have h:=h.2.2.2
   rw[e.1,e.2] at h
   exact absurd (show aM [32] [32]=ac from h) (by decide)
  |cons a u=>exact ai _ h.2.2.2 u (gw e).2
theorem ZE (be:List Nat): ∀a,gf (a::be) (-1)=ab ((a::be).getLastD 0):=λa=>by
 show(match gG 1 (be.length+1) with
  |true=> (a::be)[be.length+1-1]?
  |false=>af)=_
 rw[mr (lG 1 _)]
 show(a::be)[be.length+1-1]? =_
 rw[RU,R8]
 induction be generalizing a with
 |nil=>rfl
 |cons b r ai=>
  rw[RU]
  exact ai b
theorem ZF {a:Nat} {be:List Nat} (aA:(a::be).length≠1):gf (a::be) (-2)=ab ((a::be).getD ((a::be).length-2) 0):=by
 cases be with
 |nil=>exact absurd rfl aA
 |cons b r=>
  show(match gG 2 (r.length+1+1) with
   |true=> (a::b::r)[r.length+1+1-2]?
   |false=>af)=_
  rw[mr (lG 2 _)]
  show(a::b::r)[r.length]? =ab ((a::b::r)[r.length]?.getD 0)
  rw[nt (qa (nu _) (ky _):r.length<r.length+1+1)]
  rfl
def f9 (x:List Nat):List Nat:=iG x (x.getLastD 0) (x.getD (x.length-2) 0)
def dI (n:Nat) (x:List Nat):List Nat:=lW n (x.headD 0)
def yl (fold:Bool) (lb:List Nat) (n:Nat) (x:List Nat):List (List Nat):=cond fold (gq lb (ind n) aa ac aa [] x) (ia lb (ind n) aa [] x)
def kk (ws fold:Bool) (lb:List Nat) (n:Nat) (x:List Nat):List (List Nat):=mU ws (bJ fold::(dI n x++f9 x))::lb::yl fold lb n x
noncomputable def aF.vJ (p:aF):aF:={p with hl:=ac,ind:= .int (.ofNat p.dd)}
noncomputable def aF.as (p:aF) (a s:aj):aF:={p with an:=a,rt:=s}
theorem afF {p:aF} {x:List Nat} {fold:Bool} {ln:Nat} {v:Bool×Bool×Bool×Bool} (aH:jz p.dE x) (ar:b9 p 100) (h0:ft p.dd):
  ∃bx,aJ (Gf [.aq 10] ((p.vJ.as (mE x v) (.str [bJ fold])).hp ln)) (.f .none) ((((p.vJ.eL (aM (f9 x) [43])).w (kk p.ws fold p.lb p.dd x)).as .none .none).hp bx):=by
 refine bT aH.hd λa be h=> ?_
 have H: ∀s,wU (p.vJ.as (mE x v) s) x a (x.getLastD 0) (x.getD (x.length-2) 0):=λ_=> ⟨h0,⟨be,h.1⟩,h.1▸ZE be a,h.1▸ZF⟩
 have e:dI p.dd x=lW p.dd a:=by rw[h.1];rfl
 have ar:b9 p (5*x.length+20):=ar.le (by have:=aH.le;omega)
 delta Gf
 unfold kk
 rw[e]
 cases fold with
 |true=>
  refine ak (afQ (p:=p.vJ.as (mE x v) (.str [62])) (n:=p.dd) (ln:=ln) (H _) ar h0 rfl (bf aH.le (by decide)) (Pj x _ aH.ok)) λbx W=> ⟨bx, ?_⟩
  rw[aF.Mv] at W
  exact aV λ_ _ F k=>F ac rfl ac rfl ac rfl ac rfl ac rfl aa rfl _ _ W k
 |false=>
  refine ak (afR (p:=p.vJ.as (mE x v) (.str [124])) (n:=p.dd) (ln:=ln) (H _) (ar.le (fX (Nat.mul_le_mul_right _ (by decide)) (by decide))) h0 rfl) λbx W=> ⟨bx, ?_⟩
  rw[aF.Mv] at W
  exact aV λ_ _ F k=>F ac rfl ac rfl ac rfl ac rfl ac rfl ac rfl aa rfl _ _ W k
abbrev eV (x:List Nat) (fold:Bool):aj:= .inst 280 [76,19,120,71,158,117,68] [.none,.none,.tup [.bool aa,.bool aa],.str x,.none,.none,.str [bJ fold]]
noncomputable def aF.gC (p:aF):aF:={p with ind:= .none,DX:= [],fC:= [],an:= .none,rt:= .none}
noncomputable def aF.di (p:aF) (e:aj):aF:={p with ev:=e}
noncomputable def aF.iN (p:aF):aF:={p with root:=aa,seq:=ac,map:=ac,hl:=ac}
noncomputable def aF.aQ (p:aF) (n:Nat):aF:={p with st:= .dy 10 n}
noncomputable def aF.tt (p:aF) (i:aj) (is ss:List ae):aF:={p with ind:=i,DX:=is,fC:=ss}
section
variable {p:aF} {x:List Nat} {fold:Bool} {ln:Nat}
theorem afL (aH:jz p.dE x): ∃v,aJ (F4 [.aq 10] ((((p.di (eV x fold)).iN.as .none .none)).hp ln)) (.f (.str [bJ fold])) (((p.di (eV x fold)).iN.as (mE x v) .none).hp ln):=by
 delta F4
 refine bT aH.hd λa be h=> ?_
 have ok:=aH.ok
 rw[h.1] at ok⊢
 refine ak (ae3 (p:=(p.di (eV (a::be) fold)).iN.as .none .none) (ln:=ln) ok h.2) λv A=> ⟨v, ?_⟩
 cases fold with
 |true=>exact aV λ_ _ F k=>F aa rfl _ _ A ac rfl ac rfl aa rfl aa rfl aa rfl ac rfl ac rfl aa rfl k
 |false=>exact aV λ_ _ F k=>F aa rfl _ _ A ac rfl ac rfl aa rfl aa rfl aa rfl ac rfl ac rfl aa rfl k
theorem afH (aH:jz p.dE x): ∃v,aJ (Gg [.aq 10] ((((p.di (eV x fold)).iN.as .none .none)).hp ln)) (.f .none) (((p.di (eV x fold)).iN.as (mE x v) (.str [bJ fold])).hp ln):=by
 delta Gg
 refine ak (afL (fold:=fold) (ln:=ln) aH) λv A=> ⟨v, ?_⟩
 cases fold with
 |true=>exact aV λ_ _ F k=>F aa rfl aa rfl _ _ A ac rfl ac rfl aa rfl _ rfl aa rfl k
 |false=>exact aV λ_ _ F k=>F aa rfl aa rfl _ _ A ac rfl ac rfl aa rfl _ rfl aa rfl k
theorem afq:aJ (Ga [.aq 10,.f (.bool aa),.f (.bool ac)] ((p.tt .none [] [.dy 10 451]).hp ln)) (.f .none) ((p.tt (.int (.ofNat p.dd)) [.f .none] [.dy 10 451]).hp ln):=by
 delta Ga
 exact aV λ_ _ F k=>F rfl aa rfl aa rfl k
theorem ae4:aJ (Ge [.aq 10,.f (.str [38])] ((p.di (eV x fold)).hp ln)) (.f .none) ((p.di (eV x fold)).hp ln):=by
 delta Ge
 exact aV λ_ _ F k=>F aa rfl k
theorem WN {v:Bool×Bool×Bool×Bool} (aH:jz p.dE x) (ar:b9 p 100) (h0:ft p.dd):
  ∃bx,aJ (F8 [.aq 10] (((((p.di (eV x fold)).iN).tt .none [] [.dy 10 451]).as (mE x v) (.str [bJ fold])).hp ln)) (.f .none) (((((((p.di (eV x fold)).iN).tt .none [] []).aQ 451).eL (aM (f9 x) [43])).w (kk p.ws fold p.lb p.dd x)).as .none .none|>.hp bx):=by
 delta F8
 exact ak (afF (p:=((p.di (eV x fold)).iN).tt .none [.f .none] [.dy 10 451]) (v:=v) (fold:=fold) (ln:=ln) aH ar h0) λbx A=> ⟨bx,by exact aV λ_ _ F k=>F _ _ (afq (p:=(((p.di (eV x fold)).iN).as (mE x v) (.str [bJ fold])))) _ _ A _ rfl rfl _ rfl rfl k⟩
theorem WM (aH:jz p.dE x) (ar:b9 p 100) (h0:ft p.dd):
  ∃bx,aJ (F7 [.aq 10,.f (.bool aa),.f (.bool ac),.f (.bool ac),.f (.bool ac)] ((((p.di (eV x fold)).tt .none [] [.dy 10 451]).as .none .none).hp ln)) (.f .none) (((((((p.di (eV x fold)).iN).tt .none [] []).aQ 451).eL (aM (f9 x) [43])).w (kk p.ws fold p.lb p.dd x)).as .none .none|>.hp bx):=by
 delta F7
 refine ak (afH (p:=p.tt .none [] [.dy 10 451]) (fold:=fold) (ln:=ln) aH) λv A=>ak (WN (v:=v) (fold:=fold) (ln:=ln) aH ar h0) λbx B=> ⟨bx, ?_⟩
 exact aV λ_ _ F k=>F ac rfl aa rfl _ _ (ae4 (p:=((p.iN).tt .none [] [.dy 10 451]).as .none .none)) _ _ A aa rfl _ _ B k
theorem LQ (aH:jz p.dE x) (ar:b9 p 100) (h0:ft p.dd):
  ∃bx,aJ (An [.aq 10] ((p.gC.di (eV x fold)).hp ln)) (.f .none) ((((((p.gC.di (eV x fold)).iN).aQ 451).eL (aM (f9 x) [43])).w (kk p.ws fold p.lb p.dd x)).hp bx):=by
 delta An
 exact ak (WM (p:=p.gC) (fold:=fold) (ln:=ln) aH ar h0) λbx A=> ⟨bx,by exact aV λ_ _ F k=>F rfl _ _ A k⟩
end
theorem PX {h:List Nat} {hp:b5} (cy:h= [33]\/h= [33,101,33]):aJ (Gb [.aq 10,.f (.str h)] hp) (.f (.str h)) hp:=by
 delta Gb
 rcases cy with rfl|rfl
 ·exact aV λ_ _ F k=>F aa rfl _ rfl ac rfl _ rfl ac rfl _ rfl _ _ (λK k=>k) k
 ·exact aV λ_ _ F k=>F aa rfl _ rfl ac rfl _ rfl ac rfl _ rfl _ _ (λK k=>k) k
def Px:S:=Cu.aO.aO.aO.aO.hd
noncomputable def oh (x:List Nat) (hp:b5) (n:Nat) (c:Option ae):St:=⟨[(37,ab (.aq 10)),(91,ab (.f (.str x))),(80,ab (.aq 100)),(66,ab (.f (.int 0))),(9,ab (.f (.int n))),(6,c),(23,af)],hp,[(100,.list [])],[100]⟩
def Fq:St->(cE->St->Prop)->Prop:=fb (ev (aI []) Px.df).t (bN (aI []) Px.bd)
theorem Fs {hp:b5}:aJ (Fq (oh [33,120] hp 1 af)) .aQ (oh [33,120] hp 2 (ab (.f (.str [120]))))/\aJ (Fq (oh [33,121] hp 1 af)) .aQ (oh [33,121] hp 2 (ab (.f (.str [121]))))/\aJ (Fq (oh [116] hp 0 af)) .aQ (oh [116] hp 1 (ab (.f (.str [116])))):=
 ⟨fc (by exact cb λ_ _ F k=>F aa rfl _ rfl aa rfl ac rfl aa rfl ac rfl aa rfl aa rfl k) (eS (σ:=oh [33,120] hp 2 (ab (.f (.str [120])))) (by exact cb λ_ _ F k=>F ac rfl k)),fc (by exact cb λ_ _ F k=>F aa rfl _ rfl aa rfl ac rfl aa rfl ac rfl aa rfl aa rfl k) (eS (σ:=oh [33,121] hp 2 (ab (.f (.str [121])))) (by exact cb λ_ _ F k=>F ac rfl k)),fc (by exact cb λ_ _ F k=>F aa rfl _ rfl aa rfl ac rfl aa rfl ac rfl aa rfl aa rfl k) (eS (σ:=oh [116] hp 1 (ab (.f (.str [116])))) (by exact cb λ_ _ F k=>F ac rfl k))⟩
theorem PY {x:List Nat} {hp:b5} (cy:x= [33,120]\/x= [33,121]\/x= [116]):aJ (Gc [.aq 10,.f (.str x)] hp) (.f (.str x)) hp:=by
 delta Gc
 rcases cy with rfl|rfl|rfl
 ·exact aV λ_ _ F k=>F aa rfl _ rfl _ rfl aa rfl _ _ Fs.1 aa rfl _ rfl rfl _ rfl (cS rfl) k
 ·exact aV λ_ _ F k=>F aa rfl _ rfl _ rfl aa rfl _ _ Fs.2.1 aa rfl _ rfl rfl _ rfl (cS rfl) k
 ·exact aV λ_ _ F k=>F aa rfl _ rfl _ rfl ac rfl _ _ Fs.2.2 aa rfl _ rfl rfl _ rfl (cS rfl) k
noncomputable def eG (h x:List Nat):List Nat:= [37,84,65,71,32]++(h++(32::x))
theorem afS {p:aF} {h x:List Nat} {ln:Nat} (aA:h.length<=10/\x.length<=10) (ar:b9 p 2):aJ (Gj [.aq 10,.f (.str h),.f (.str x)] (p.hp ln)) (.f .none) ((p.w [eG h x,p.lb]).hp (ln+1)):=by
 delta Gj
 rw[<-show(p.o [eG h x]).w [p.lb]=p.w [eG h x,p.lb] from aF.hk]
 exact aV λ_ _ F k=>F ⟨bf aA.1 (by decide),bf aA.2 (by decide)⟩ _ _ (kM (p:=p) (x:=eG h x) ar.eC) _ _ (ol (p:=p.o [eG h x]) (b9.eC (b9.o (p:=p) (k:=1) [eG h x] rfl ar))) k
def vU (d:Nat):List Nat:= [37,89,65,77,76,32]++(49::46::dv d)
theorem afT {p:aF} {x:List Nat} {ln:Nat} (aA:x.length<=10) (ar:b9 p 2):aJ (Gk [.aq 10,.f (.str x)] (p.hp ln)) (.f .none) ((p.w [[37,89,65,77,76,32]++x,p.lb]).hp (ln+1)):=by
 delta Gk
 rw[<-show(p.o [[37,89,65,77,76,32]++x]).w [p.lb]=p.w [[37,89,65,77,76,32]++x,p.lb] from aF.hk]
 exact aV λ_ _ F k=>F (bf aA (by decide)) _ _ (kM (p:=p) (x:= [37,89,65,77,76,32]++x) ar.eC) _ _ (ol (p:=p.o [[37,89,65,77,76,32]++x]) (b9.eC (b9.o (p:=p) (k:=1) [[37,89,65,77,76,32]++x] rfl ar))) k
theorem afI {d:Nat} {hp:b5} (hd:d<12):aJ (Gd [.aq 10,.f (mf d)] hp) (.f (.str (49::46::dv d))) hp:=by
 delta Gd
 exact aV λ_ _ F k=>F ac rfl ⟨by decide,qa hd (by decide)⟩ k
def ko (lb:List Nat):eJ->List (List Nat)
 | .no=> []
 | .one=> [eG [33,101,33] [33,120],lb]
 | .two=> [eG [33] [33,121],lb,eG [33,101,33] [116],lb]
def jo (lb:List Nat):Option Nat->List (List Nat)
 |none=> []
 |some d=> [vU d,lb]
noncomputable def fS (lb:List Nat) (b:Bool):List (List Nat):=cond b [[46,46,46],lb] []
noncomputable def g0 (v:Option Nat) (t:eJ):Bool:=match v,t with
 |none,.no=>aa
 |_,_=>ac
def ps (dW:Bool) (lb:List Nat) (v:Option Nat) (t:eJ):List (List Nat):=fS lb (dW&& !g0 v t)++(jo lb v++ko lb t)
noncomputable def L7:Option cc->b5
 |none=> []
 |some D=> [(16,D)]
noncomputable def L8:Option cc->Nat
 |none=>16
 |some _=>17
noncomputable def jM:List (List Nat)×List ae:=([[33],[116,97,103,58,121,97,109,108,46,111,114,103,44,50,48,48,50,58]],[.f (.str [33]),.f (.str [33,33])])
def aF.f0 (p:aF) (f:Option cc):aF:={p with r:=L7 f}
def aF.f1 (p:aF) (f:Option cc) (D:List (List Nat)×List ae):aF:={p with d4:= .aq (L8 f),r:=L7 f++ [(L8 f,.dict D.1 D.2)]}
structure kr where
 f:Bool
 b:Bool
 v:Option Nat
 t:eJ
 x:List Nat
 fold:Bool
def aF.eE (p:aF) (i:kr):aF:={p with ws:=aa,iJ:=aa,col:=0,ind:= .none,ev:=gV .none .none i.b (c4 i.v) i.t.bI,yr:= [.f (eV i.x i.fold)]}
structure jT where
 a:Option ae
 b:Option ae
 c:Option ae
 d:Option ae
 e:Option ae
 g:Option ae
 z:Option ae
def hu (i:kr) (o:jT) (p:aF) (ln:Nat):St:=⟨[(37,ab (.aq 10)),(51,ab (.f (.bool i.f))),(192,o.a),(105,o.b),(87,o.c),(91,o.d),(173,o.e),(176,o.g),(120,o.z)],(p.eE i).hp ln,[],[]⟩
def C9 (n:Nat):S:=n.repeat S.aO Ct.hd.bd
def p3 (n:Nat) (σ σ':St):Prop:= ∀(G:Prop) (K:cE->St->aB),aB.path G (bN (aI dr) (C9 n).hd σ K)->aB.path G (K .aQ σ')
section
variable {p:aF} {i:kr} {o:jT} {ln:Nat}
theorem aF.Fg {p:aF} {a b:List (List Nat)}:(p.o a).o b=p.o (a++b):=congrArg (aF.mk _ _ _ _ _ _ _ _ _ _ _ _ _ _ _ _ _ _ _ _ · _ _) ((bt p.out _ _).trans (congrArg (p.out++ ·) (h5 a b).symm))
theorem aF.o0 {p:aF}:p.o []=p:=congrArg (aF.mk _ _ _ _ _ _ _ _ _ _ _ _ _ _ _ _ _ _ _ _ · _ _) (dj _)
def aF.j5 (p:aF) (b:Bool):aF:=(p.eL (p.dW&&b)).o (fS p.lb (p.dW&& !b))
theorem VM (ar:b9 p 100): ∃bx,p3 0 (hu i o p ln) (hu i o (p.j5 (g0 i.v i.t)) bx):=by
 have I:=vW (p:=p.eE i) (x:= [46,46,46]) (ln:=ln) ar.eC (by decide)
 have L:=P2 (p:=(p.eE i).kH [46,46,46]) (ln:=ln) (b9.eC (b9.o (p:=p) (k:=1) [[46,46,46]] rfl (ar.le (by decide)))) rfl rfl
 rw[show((p.eE i).kH [46,46,46]).w [((p.eE i).kH [46,46,46]).lb]=((p.eL ac).o [[46,46,46],p.lb]).eE i from congrArg (aF.mk _ _ _ _ _ _ _ _ _ _ _ _ _ _ _ _ _ _ _ _ · _ _) (bt ..)] at L
 have N: ∀c,p.dW=c->p3 0 (hu i o p ln) (hu i o p ln)-> ∃bx,p3 0 (hu i o p ln) (hu i o ((p.eL c).o []) bx):=λc h d=> ⟨ln,by rw[aF.o0,<-h];exact d⟩
 obtain ⟨f,b,v,t,x,fold⟩:=i
 unfold aF.j5
 rcases cK p.dW with h|h
 ·rw[h]
  cases v with
  |none=>cases t with
   |no=>
    exact N _ h λG K F=>by exact F ac rfl ac rfl
   |one=>exact⟨ln+1,λG K F=>by exact F ac rfl rfl aa rfl aa h _ _ I _ _ L⟩
   |two=>exact⟨ln+1,λG K F=>by exact F ac rfl rfl aa rfl aa h _ _ I _ _ L⟩
  |some d=>exact⟨ln+1,λG K F=>by exact F rfl aa rfl aa h _ _ I _ _ L⟩
 ·rw[h]
  refine N _ h λG K F=> ?_
  cases v with
  |none=>cases t with
   |no=>exact F ac rfl ac rfl
   |one=>exact F ac rfl rfl aa rfl ac h
   |two=>exact F ac rfl rfl aa rfl ac h
  |some d=>exact F rfl aa rfl ac h
theorem VN (ar:b9 p 100) (aW: ∀d,i.v=ab d->d<12): ∃bx eh,p3 1 (hu i o p ln) (hu i eh (p.o (jo p.lb i.v)) bx):=by
 obtain ⟨f,b,v,t,x,fold⟩:=i
 cases v with
 |none=>
  refine⟨ln,o,λG K F=> ?_⟩
  rw[show p.o (jo p.lb af)=p from aF.o0]
  exact F ac rfl
 |some d=>
  refine⟨ln+1,⟨ab (.f (.str (49::46::dv d))),o.b,o.c,o.d,o.e,o.g,o.z⟩,λG K F=> ?_⟩
  have dl:(49::46::dv d).length<=10:=by unfold dv;cases d6 d 10<;>exact cS rfl
  exact F rfl aa rfl _ _ (afI (aW d rfl)) _ _ (afT (p:=p.eE ⟨f,b,ab d,t,x,fold⟩) dl (ar.le (by decide)))
theorem VO {fr:Option cc}:p3 2 (hu i o (p.f0 fr) ln) (hu i o (p.f1 fr jM) ln):=λG K F=>by
 cases fr with
 |none=>exact F _ rfl rfl
 |some D=>exact F _ rfl rfl
noncomputable def jT.v (o:jT) (h:List Nat):jT:=⟨o.a,o.b,ab (.f (.str h)),o.d,o.e,o.g,o.z⟩
noncomputable def jT.w (o:jT) (h z:List Nat):jT:=⟨o.a,o.b,ab (.f (.str h)),ab (.f (.str z)),ab (.f (.str h)),ab (.f (.str z)),o.z⟩
def C8:S:=(C9 3).hd.bd.aO.hd.bd
theorem VS {fr:Option cc} {h z:List Nat} {D:List (List Nat)×List ae} (ar:b9 p 100) (cy:h= [33]\/h= [33,101,33]) (cH:z= [33,120]\/z= [33,121]\/z= [116]) (bj: ∀σ,mV (.f i.t.bI) (.f (.str h)) σ=ab (.f (.str z))) (aA:cn D.2=aa):
  aJ (jC (bN (aI dr) C8) (hu i (o.v h) (p.f1 fr D) ln)) af (hu i (o.w h z) ((p.f1 fr (fY z (.f (.str h)) D.1 D.2)).o [eG h z,p.lb]) (ln+1)):=by
 have W:=afS (p:=(p.f1 fr (fY z (.f (.str h)) D.1 D.2)).eE i) (ln:=ln) (h:=h) (x:=z) ⟨by rcases cy with rfl|rfl<;>decide,by rcases cH with rfl|rfl|rfl<;>decide⟩ (ar.le (by decide))
 cases fr with
 |none=>exact gU λ_ _ F k=>F _ (bj _) aA _ _ (PX cy) _ _ (PY cH) _ _ W k
 |some D=>exact gU λ_ _ F k=>F _ (bj _) aA _ _ (PX cy) _ _ (PY cH) _ _ W k
theorem Dc {fr:Option cc} {h z:List Nat} {cA:List ae} {D:List (List Nat)×List ae} {wD:cE} {σ':St} (ar:b9 p 100) (cy:h= [33]\/h= [33,101,33]) (cH:z= [33,120]\/z= [33,121]\/z= [116]) (bj: ∀σ,mV (.f i.t.bI) (.f (.str h)) σ=ab (.f (.str z))) (aA:cn D.2=aa)
  (k:aJ (gX 87 (bN (aI dr) C8) cA (hu i (o.w h z) ((p.f1 fr (fY z (.f (.str h)) D.1 D.2)).o [eG h z,p.lb]) (ln+1))) wD σ'):aJ (gX 87 (bN (aI dr) C8) (.f (.str h)::cA) (hu i o (p.f1 fr D) ln)) wD σ':=
 la (σ:=hu i o (p.f1 fr D) ln) (VS ar cy cH bj aA) k
noncomputable def yf (o:jT) (ks:List aj):jT:=⟨o.a,ab (.f (.lst ks)),o.c,o.d,o.e,o.g,o.z⟩
theorem VP {fr:Option cc} (ar:b9 p 200): ∃bx eh D,p3 3 (hu i o (p.f1 fr jM) ln) (hu i eh ((p.f1 fr D).o (ko p.lb i.t)) bx):=by
 obtain ⟨f,b,v,t,x,fold⟩:=i
 cases t with
 |no=>
  refine⟨ln,o,jM,λG K F=> ?_⟩
  rw[show(p.f1 fr jM).o (ko p.lb eJ.no)=p.f1 fr jM from aF.o0]
  exact F ac rfl
 |one=>
  have L:=Dc (i:=⟨f,b,v,.one,x,fold⟩) (o:=yf o [.str [33,101,33]]) (p:=p) (ln:=ln) (fr:=fr) (D:=jM) (ar.le (by decide)) (cW rfl) (d7 rfl) (λ_=>rfl) rfl lc
  refine⟨ln+1,(yf o [.str [33,101,33]]).w [33,101,33] [33,120],fY [33,120] (.f (.str [33,101,33])) jM.1 jM.2,λG K F=> ?_⟩
  cases fr with
  |none=>exact F rfl aa rfl rfl _ _ L
  |some D=>exact F rfl aa rfl rfl _ _ L
 |two=>
  have tQ:=λp o h ln=>Dc (i:=⟨f,b,v,.two,x,fold⟩) (o:=o) (p:=p) (ln:=ln) (fr:=fr) (D:=fY [33,121] (.f (.str [33])) jM.1 jM.2) h (cW rfl) (cW (cW rfl)) (λ_=>rfl) rfl lc
  have L:=Dc (i:=⟨f,b,v,.two,x,fold⟩) (o:=yf o [.str [33],.str [33,101,33]]) (p:=p) (ln:=ln) (fr:=fr) (D:=jM) (ar.le (by decide)) (d7 rfl) (cW (d7 rfl)) (λ_=>rfl) rfl (tQ (p.o [eG [33] [33,121],p.lb]) _ (b9.o (p:=p) (k:=100) [eG [33] [33,121],p.lb] rfl (ar.le (cS rfl))) _)
  refine⟨ln+1+1,((yf o [.str [33],.str [33,101,33]]).w [33] [33,121]).w [33,101,33] [116],fY [116] (.f (.str [33,101,33])) (fY [33,121] (.f (.str [33])) jM.1 jM.2).1 (fY [33,121] (.f (.str [33])) jM.1 jM.2).2,λG K F=> ?_⟩
  rw[<-show∀D,((p.o [eG [33] [33,121],p.lb]).f1 fr D).o [eG [33,101,33] [116],p.lb]=(p.f1 fr D).o (ko p.lb .two) from λD=>aF.Fg (p:=p.f1 fr D) (a:= [eG [33] [33,121],p.lb]) (b:= [eG [33,101,33] [116],p.lb])]
  cases fr with
  |none=>exact F rfl aa rfl rfl _ _ L
  |some D=>exact F rfl aa rfl rfl _ _ L
noncomputable def jT.u (o:jT) (c:Bool):jT:=⟨o.a,o.b,o.c,o.d,o.e,o.g,ab (.f (.bool c))⟩
def kr.im (i:kr):Bool:=i.f&&(!i.b&&g0 i.v i.t)
theorem VQ (aH:i.x≠ []):p3 4 (hu i o p ln) (hu i (o.u i.im) p ln):=λG K F=>by
 obtain ⟨f,b,v,t,x,fold⟩:=i
 cases x with
 |nil=>exact absurd rfl aH
 |cons a x=>
  cases f with
  |false=>exact F ac rfl
  |true=>cases b with
   |true=>exact F aa rfl aa rfl ac rfl
   |false=>cases v with
    |some d=>exact F aa rfl ac rfl aa rfl ac rfl aa rfl rfl aa rfl ac rfl
    |none=>cases t with
     |one=>exact F aa rfl ac rfl aa rfl ac rfl aa rfl ac rfl aa rfl rfl aa rfl ac rfl
     |two=>exact F aa rfl ac rfl aa rfl ac rfl aa rfl ac rfl aa rfl rfl aa rfl ac rfl
     |no=>
      have E:aJ (F3 [.aq 10] ((p.eE ⟨aa,ac,af,.no,a::x,fold⟩).hp ln)) (.f (.bool ac)) ((p.eE ⟨aa,ac,af,.no,a::x,fold⟩).hp ln):=by
       delta F3
       exact aV λ_ _ F k=>F aa rfl rfl aa rfl _ rfl aa rfl aa rfl aa rfl rfl aa rfl k
      exact F aa rfl ac rfl aa rfl ac rfl aa rfl ac rfl aa rfl ac rfl aa rfl _ _ E ac rfl
def kr.h (i:kr) (p:aF):aF:=cond i.im p (p.kH [45,45,45])
theorem VR (ar:b9 p 100) {c:Bool} {G:Prop} {K:cE->St->aB}:aB.path G (bN (aI dr) (C9 5) (hu i (o.u c) p ln) K)->aB.path G (K .aQ ⟨(hu i (o.u c) p ln).loc,((cond c (p.eE i) ((p.eE i).kH [45,45,45])).aQ 458).hp ln,[],[]⟩):=λF=>by
 cases c with
 |true=>exact F aa rfl
 |false=>
  have I:=vW (p:=p.eE i) (x:= [45,45,45]) (ln:=ln) ar.eC (by decide)
  exact F ac rfl _ _ (P1 (p:=p.eE i) rfl rfl rfl rfl) _ _ I ac rfl
theorem aF.XY {b:Bool} {k:Nat} (ar:b9 p (k+2)):b9 (p.j5 b) k:=by
 refine b9.o (fS p.lb (p.dW&& !b)) rfl (ar.le ?_)
 cases p.dW&& !b with
 |true=>exact fi (kW ..)
 |false=>exact kW k 2▸h2 (cS rfl) k
theorem aii {v:Option Nat} {k:Nat} (ar:b9 p (k+2)):b9 (p.o (jo p.lb v)) k:=by
 refine b9.o (jo p.lb v) rfl (ar.le ?_)
 cases v with
 |some d=>exact fi (kW ..)
 |none=>exact kW k 2▸h2 (cS rfl) k
theorem ahm {t:eJ} {k:Nat} (ar:b9 p (k+4)):b9 (p.o (ko p.lb t)) k:=by
 refine b9.o (ko p.lb t) rfl (ar.le ?_)
 cases t with
 |no=>exact kW k 4▸h2 (cS rfl) k
 |one=>exact kW k 4▸h2 (cS rfl) k
 |two=>exact fi (kW ..)
noncomputable def Pf:jT:=⟨af,af,af,af,af,af,af⟩
def aF.mN (p:aF) (i:kr) (fr:Option cc) (D:List (List Nat)×List ae):aF:=((p.eL (p.dW&&g0 i.v i.t)).o (ps p.dW p.lb i.v i.t)).f1 fr D
theorem aF.Vw {fr:Option cc} {D:List (List Nat)×List ae}:(((p.j5 (g0 i.v i.t)).o (jo p.lb i.v)).o (ko p.lb i.t)).f1 fr D=p.mN i fr D:=by
 rw[aF.Fg]
 exact congrArg (aF.f1 · fr D) (aF.Fg (p:=p.eL (p.dW&&g0 i.v i.t)))
def aF.qD (p:aF) (i:kr) (fr:Option cc) (D:List (List Nat)×List ae):aF:=(cond i.im ((p.mN i fr D).eE i) (((p.mN i fr D).eE i).kH [45,45,45])).aQ 458
theorem afe {fr:Option cc} (aW: ∀d,i.v=ab d->d<12) (aH:i.x≠ []) (ar:b9 p 300):
  ∃bx D,aJ (wg [.aq 10,.f (.bool i.f)] (((p.f0 fr).eE i).hp ln)) (.f .none) ((p.qD i fr D).hp bx):=by
 delta wg
 have IU:b9 ((p.f0 fr).j5 (g0 i.v i.t)) 298:=aF.XY ar
 have IV:b9 (((p.f0 fr).j5 (g0 i.v i.t)).o (jo p.lb i.v)) 296:=aii IU
 have Tr:b9 ((((p.f0 fr).j5 (g0 i.v i.t)).o (jo p.lb i.v)).o (ko p.lb i.t)) 292:=ahm IV
 refine ak (VM (p:=p.f0 fr) (i:=i) (o:=Pf) (ln:=ln) (ar.le (by decide))) λNq Ro=> ?_
 refine bT (VN (p:=(p.f0 fr).j5 (g0 i.v i.t)) (i:=i) (o:=Pf) (ln:=Nq) (IU.le (by decide)) aW) λl1 hT hX=> ?_
 have p2:=VO (p:=(p.j5 (g0 i.v i.t)).o (jo p.lb i.v)) (i:=i) (o:=hT) (ln:=l1) (fr:=fr)
 refine c5 (VP (p:=(p.j5 (g0 i.v i.t)).o (jo p.lb i.v)) (i:=i) (o:=hT) (ln:=l1) (fr:=fr) (IV.le (by decide))) λpD Pd D wM=> ⟨pD,D, ?_⟩
 unfold aF.qD
 rw[<-aF.Vw]
 have wN:=VQ (p:=(((p.j5 (g0 i.v i.t)).o (jo p.lb i.v)).o (ko p.lb i.t)).f1 fr D) (o:=Pd) (ln:=pD) aH
 have wO:=λG K=>VR (p:=(((p.j5 (g0 i.v i.t)).o (jo p.lb i.v)).o (ko p.lb i.t)).f1 fr D) (o:=Pd) (ln:=pD) (i:=i) (c:=i.im) (G:=G) (K:=K) (Tr.le (by decide))
 exact aV λG W F k=>wO _ _ (wN _ _ (wM _ _ (p2 _ _ (hX _ _ (Ro _ _ (F aa rfl)))))) k
end
noncomputable def aF.q (p:aF) (l:List ae):aF:={p with yr:=l}
section
variable {p q:aF} {ln bx:Nat} {b:Bool} {v t:aj} {x:List Nat} {fold:Bool}
theorem afy:aJ (ou [.aq 10] ((p.q []).hp ln)) (.f (.bool aa)) ((p.q []).hp ln):=by
 delta ou
 exact aV λ_ _ F k=>F rfl ac rfl k
inductive tJ:aj->Prop
 |ss:tJ (oo .none .none .none)
 |sc (x:List Nat) (fold:Bool):tJ (eV x fold)
 |nP (b:Bool):tJ (kC .none .none b)
 |kl:tJ (ma .none .none)
theorem z1 {e:aj} (he:tJ e):aJ (ou [.aq 10] ((p.q [.f e]).hp ln)) (.f (.bool ac)) ((p.q [.f e]).hp ln):=by
 delta ou
 cases he with
 |ss=>exact aV λ_ _ F k=>F rfl aa rfl _ rfl ac rfl ac rfl ac rfl k
 |sc=>exact aV λ_ _ F k=>F rfl aa rfl _ rfl ac rfl ac rfl ac rfl k
 |nP=>exact aV λ_ _ F k=>F rfl aa rfl _ rfl ac rfl ac rfl ac rfl k
 |kl=>exact aV λ_ _ F k=>F rfl aa rfl _ rfl ac rfl ac rfl ac rfl k
theorem afz:aJ (ou [.aq 10] ((p.q [.f (gV .none .none b v t)]).hp ln)) (.f (.bool aa)) ((p.q [.f (gV .none .none b v t)]).hp ln):=by
 have N:aJ (wh [.aq 10,.f (.int 1)] ((p.q [.f (gV .none .none b v t)]).hp ln)) (.f (.bool aa)) ((p.q [.f (gV .none .none b v t)]).hp ln):=by
  delta wh
  exact aV λ_ _ F k=>F _ rfl _ _ lc rfl k
 delta ou
 exact aV λ_ _ F k=>F rfl aa rfl _ rfl aa rfl _ _ N k
theorem PW:aJ (ou [.aq 10] ((p.q [.f (gV .none .none b v t),.f (eV x fold)]).hp ln)) (.f (.bool ac)) ((p.q [.f (gV .none .none b v t),.f (eV x fold)]).hp ln):=by
 have N:aJ (wh [.aq 10,.f (.int 1)] ((p.q [.f (gV .none .none b v t),.f (eV x fold)]).hp ln)) (.f (.bool ac)) ((p.q [.f (gV .none .none b v t),.f (eV x fold)]).hp ln):=by
  delta wh
  exact aV λ_ _ F k=>F _ rfl _ _ (λK k=>k) rfl k
 delta ou
 exact aV λ_ _ F k=>F rfl aa rfl _ rfl aa rfl _ _ N k
def ym:S:=Cs.aO.hd
def hO (p:aF) (x:aj) (ln:Nat):St:=⟨[(37,ab (.aq 10)),(50,ab (.f x))],p.hp ln,[],[]⟩
def uW (σ σ':St):Prop:=aJ (kP (ev (aI kh) ym.df).t (bN (aI kh) ym.bd) σ) af σ'
def yn:St->(cE->St->Prop)->Prop:=fb (ev (aI kh) ym.df).t (bN (aI kh) ym.bd)
theorem yo {x:aj}:aJ (yn (hO (p.q []) x ln)) .aQ (hO (p.q []) x ln):=eS (by exact cb λ_ _ F k=>F _ _ afy aa rfl k)
theorem W2:aJ (me [.aq 10,.f (oo .none .none .none)] (((p.q []).aQ 422).hp ln)) (.f .none) ((((p.q []).aQ 436).di .none).hp ln):=by
 have X:aJ (F9 [.aq 10] ((((p.q []).di (oo .none .none .none)).aQ 422).hp ln)) (.f .none) ((((p.q []).di (oo .none .none .none)).aQ 436).hp ln):=by
  delta F9
  exact aV λ_ _ F k=>F aa rfl _ _ (λK k=>k) k
 have T:uW (hO ((p.q [.f (oo .none .none .none)]).aQ 422) (oo .none .none .none) ln) (hO (((p.q []).aQ 436).di .none) (oo .none .none .none) ln):=by
  exact cb λ_ _ F k=>F _ _ (z1 (p:=p.aQ 422) .ss) ac rfl rfl _ _ X k
 delta me
 exact aV λ_ _ F k=>F rfl _ _ (fc T (yo (p:=(p.aQ 436).di .none))) k
theorem WZ:aJ (me [.aq 10,.f (gV .none .none b v t)] ((p.q []).hp ln)) (.f .none) ((p.q [.f (gV .none .none b v t)]).hp ln):=by
 have T:aJ (yn (hO (p.q [.f (gV .none .none b v t)]) (gV .none .none b v t) ln)) .aQ (hO (p.q [.f (gV .none .none b v t)]) (gV .none .none b v t) ln):=eS (by exact cb λ_ _ F k=>F _ _ afz aa rfl k)
 delta me
 exact aV λ_ _ F k=>F rfl _ _ T k
end
noncomputable def uT (b:Bool):List (List Nat):=cond b [] [[45,45,45]]
def nS (dW:Bool) (lb:List Nat) (v:Option Nat) (t:eJ) (im fold:Bool) (n:Nat) (x:List Nat):List (List Nat):=ps dW lb v t++(uT im++kk im fold lb n x)
def aF.b0 (p:aF) (l:List ae):aF:={p.gC with ws:=aa,iJ:=aa,col:=0,yr:=l}
noncomputable def lq (f:Bool):Nat:=cond f 436 444
theorem Mt (dW:Bool) (lb:List Nat) (v:Option Nat) (t:eJ):(ps dW lb v t).length<=8:=by
 have ap: ∀b,(fS lb b).length<=2:=λb=>by cases b<;>exact cS rfl
 have aC:(jo lb v).length<=2:=by cases v<;>exact cS rfl
 have bu:(ko lb t).length<=4:=by cases t<;>exact cS rfl
 show(fS lb (dW&& !g0 v t)++(jo lb v++ko lb t)).length<=8
 rw[bL,bL]
 exact fX (ap _) (fX aC bu)
theorem VF {dW fold:Bool} {lb:List Nat} {v:Option Nat} {t:eJ} {n:Nat} {x:List Nat} (o:List ae):(o++cg (ps dW lb v t))++cg (kk aa fold lb n x)=o++cg (nS dW lb v t aa fold n x):=
 (bt ..).trans (congrArg (o++ ·) (h5 _ _).symm)
theorem VE {dW fold:Bool} {lb:List Nat} {v:Option Nat} {t:eJ} {n:Nat} {x:List Nat} (o:List ae):((o++cg (ps dW lb v t))++cg [[45,45,45]])++cg (kk ac fold lb n x)=o++cg (nS dW lb v t ac fold n x):=
 (bt ..).trans ((bt ..).trans (congrArg (o++ ·) ((h5 _ _).trans (congrArg (cg (ps dW lb v t)++ ·) (h5 [[45,45,45]] _))).symm))
section
variable {p:aF} {ln:Nat} {b:Bool} {v t:aj} {i:kr}
def aF.j3 (p:aF) (i:kr) (fr:Option cc) (D:List (List Nat)×List ae):aF:=((((((p.f1 fr D).b0 []).iN).aQ 451).eL (aM (f9 i.x) [43])).di .none).o (nS p.dW p.lb i.v i.t i.im i.fold p.dd i.x)
theorem WY {fr:Option cc} {D:List (List Nat)×List ae} (aH:jz p.dE i.x) (ar:b9 p 300) (h0:ft p.dd):
  ∃bx,aJ (yn (hO (((p.gC.aQ (lq i.f)).qD i fr D).di .none) (eV i.x i.fold) ln)) .aQ (hO (p.j3 i fr D) (eV i.x i.fold) bx):=by
 have IW:b9 ((p.gC.aQ (lq i.f)).mN i fr D) 200:=b9.o (p:=p) (ps p.dW p.lb i.v i.t) rfl (ar.le (bf (h2 (Mt ..) _) (by decide)))
 have T: ∀(q:aF) (ln bx:Nat),aJ (An [.aq 10] ((((q.q []).aQ 458).gC.di (eV i.x i.fold)).hp ln)) (.f .none) (((((((q.q []).aQ 458).gC.di (eV i.x i.fold)).iN).aQ 451).eL (aM (f9 i.x) [43])).w (kk q.ws i.fold q.lb q.dd i.x) |>.hp bx)->
   aJ (yn (hO (((q.gC.q [.f (eV i.x i.fold)]).aQ 458).di .none) (eV i.x i.fold) ln)) .aQ (hO ((((((q.gC.q []).iN).aQ 451).eL (aM (f9 i.x) [43])).w (kk q.ws i.fold q.lb q.dd i.x)).di .none) (eV i.x i.fold) bx):=λq ln bx E=>
  fc (by exact cb λ_ _ F k=>F _ _ (z1 (p:=(q.gC.aQ 458).di .none) (.sc _ _)) ac rfl rfl _ _ E k) (yo (p:=((((q.gC.iN).aQ 451).eL (aM (f9 i.x) [43])).w (kk q.ws i.fold q.lb q.dd i.x)).di .none))
 unfold aF.qD
 have R:=λim (h:i.im=im)=>show p.j3 i fr D=((((((p.f1 fr D).b0 []).iN).aQ 451).eL (aM (f9 i.x) [43])).di .none).o (nS p.dW p.lb i.v i.t im i.fold p.dd i.x) by rw[<-h];rfl
 rcases cK i.im with h|h
 ·refine ak (LQ (p:=(((((p.gC.aQ (lq i.f)).mN i fr D).eE i).q []).aQ 458)) (fold:=i.fold) (ln:=ln) aH (IW.le (by decide)) h0) λbx E=> ⟨bx, ?_⟩
  rw[R _ h,h]
  exact kK (T _ _ _ E) rfl (congrArg (hO · _ bx) (congrArg (aF.mk _ _ _ _ _ _ _ _ _ _ _ _ _ _ _ _ _ _ _ _ · _ _) (VF p.out)))
 ·refine ak (LQ (p:=((((((p.gC.aQ (lq i.f)).mN i fr D).eE i).kH [45,45,45]).q []).aQ 458)) (fold:=i.fold) (ln:=ln) aH (b9.o (k:=100) [[45,45,45]] rfl (IW.le (by decide))) h0) λbx E=> ⟨bx, ?_⟩
  rw[R _ h,h]
  exact kK (T _ _ _ E) rfl (congrArg (hO · _ bx) (congrArg (aF.mk _ _ _ _ _ _ _ _ _ _ _ _ _ _ _ _ _ _ _ _ · _ _) (VE p.out)))
theorem W0 {fr:Option cc} (aW: ∀d,i.v=ab d->d<12) (aH:jz p.dE i.x) (ar:b9 p 400) (h0:ft p.dd):
  ∃bx D,aJ (me [.aq 10,.f (eV i.x i.fold)] ((((p.f0 fr).b0 [.f (gV .none .none i.b (c4 i.v) i.t.bI)]).aQ (lq i.f)).hp ln)) (.f .none) ((p.j3 i fr D).hp bx):=by
 have jq:i.x≠ []:=bT aH.hd λa be h=>h.1▸c9 _ _
 refine bT (afe (p:=(p.gC.aQ (lq i.f))) (i:=i) (fr:=fr) (ln:=ln) aW jq (ar.le (by decide))) λl1 D Q=> ?_
 refine ak (WY (p:=p) (ln:=l1) (i:=i) (fr:=fr) (D:=D) aH (ar.le (by decide)) h0) λe3 W=> ⟨e3,D, ?_⟩
 delta me
 revert Q W
 rcases cK i.f with h|h
 ·rw[h]
  intro Q W
  have oW:aJ (F6 [.aq 10] ((((p.gC.aQ 436).f0 fr).eE i).hp ln)) (.f .none) (((p.gC.aQ 436).qD i fr D).hp l1):=by
   delta F6
   exact aV λ_ _ F k=>F _ _ Q k
  have T:uW (hO (((p.f0 fr).b0 [.f (gV .none .none i.b (c4 i.v) i.t.bI),.f (eV i.x i.fold)]).aQ 436) (eV i.x i.fold) ln) (hO (((p.gC.aQ 436).qD i fr D).di .none) (eV i.x i.fold) l1):=by
   exact cb λ_ _ F k=>F _ _ (PW (p:=((p.f0 fr).b0 []).aQ 436)) ac rfl rfl _ _ oW k
  exact aV λ_ _ F k=>F rfl _ _ (fc T W) k
 ·rw[h]
  intro Q W
  have T:uW (hO (((p.f0 fr).b0 [.f (gV .none .none i.b (c4 i.v) i.t.bI),.f (eV i.x i.fold)]).aQ 444) (eV i.x i.fold) ln) (hO (((p.gC.aQ 444).qD i fr D).di .none) (eV i.x i.fold) l1):=by
   exact cb λ_ _ F k=>F _ _ (PW (p:=((p.f0 fr).b0 []).aQ 444)) ac rfl rfl _ _ Q k
  exact aV λ_ _ F k=>F rfl _ _ (fc T W) k
end
section
variable {p:aF} {ln:Nat} {b:Bool}
def aF.dP (p:aF) (b:Bool):aF:=(p.eL (p.dW&& !b)).o (fS p.lb b)
theorem aF.X6:p.dP ac=p:=by
 unfold aF.dP
 rw[Rk,Ri]
 exact aF.o0
theorem PR (ar:b9 p 10) {e:aj}:aJ (ov [.aq 10] ((((p.b0 []).di e).kH [46,46,46]).hp ln)) (.f .none) ((((p.eL ac).o [[46,46,46],p.lb]).b0 []).di e|>.hp (ln+1)):=
 kK (P2 (p:=((p.b0 []).di e).kH [46,46,46]) (ln:=ln) (b9.eC (b9.o (p:=p) (k:=1) [[46,46,46]] rfl (ar.le (by decide)))) rfl rfl) rfl (congrArg (aF.hp · (ln+1)) (congrArg (aF.mk _ _ _ _ _ _ _ _ _ _ _ _ _ _ _ _ _ _ _ _ · _ _) (bt ..)))
theorem afa (ar:b9 p 10): ∃bx,aJ (F5 [.aq 10] (((p.b0 []).di (kC .none .none b)).hp ln)) (.f .none) (((((p.dP b).b0 []).di (kC .none .none b)).aQ 444).hp bx):=by
 delta F5
 have A:=λp:aF=>P1 (p:=(p.b0 []).di (kC .none .none b)) (ln:=ln) rfl rfl rfl rfl
 have I:=vW (p:=(p.b0 []).di (kC .none .none b)) (x:= [46,46,46]) (ln:=ln) ar.eC (by decide)
 have D:=PR (ln:=ln) (e:=kC .none .none b) ar
 cases b with
 |false=>
  rw[aF.X6]
  exact⟨ln,by exact aV λ_ _ F k=>F aa rfl _ _ (A p) ac rfl _ _ (λK k=>k) k⟩
 |true=>
  refine⟨ln+1, ?_⟩
  rw[show p.dP aa=(p.eL ac).o [[46,46,46],p.lb] by unfold aF.dP;rw[wK,hq];rfl]
  exact aV λ_ _ F k=>F aa rfl _ _ (A p) aa rfl _ _ I _ _ D _ _ (λK k=>k) k
theorem WX (ar:b9 p 10): ∃bx,aJ (me [.aq 10,.f (kC .none .none b)] (((p.b0 []).aQ 451).hp ln)) (.f .none) (((((p.dP b).b0 []).di .none).aQ 444).hp bx):=by
 delta me
 refine ak (afa (p:=p.aQ 451) (b:=b) (ln:=ln) ar) λbx E=> ⟨bx, ?_⟩
 have T:uW (hO ((p.b0 [.f (kC .none .none b)]).aQ 451) (kC .none .none b) ln) (hO ((((p.dP b).b0 []).di .none).aQ 444) (kC .none .none b) bx):=by
  exact cb λ_ _ F k=>F _ _ (z1 (p:=(p.b0 []).aQ 451) (.nP b)) ac rfl rfl _ _ E k
 exact aV λ_ _ F k=>F rfl _ _ (fc T (yo (p:=(((p.dP b).b0 []).di .none).aQ 444))) k
theorem afd (ar:b9 p 10): ∃bx,aJ (wg [.aq 10,.f (.bool ac)] (((p.b0 []).di (ma .none .none)).hp ln)) (.f .none) ((((((p.eL ac).o (fS p.lb p.dW)).b0 []).di (ma .none .none)).aQ 429).hp bx):=by
 delta wg
 have I:=vW (p:=(p.b0 []).di (ma .none .none)) (x:= [46,46,46]) (ln:=ln) ar.eC (by decide)
 have D:=PR (ln:=ln) (e:=ma .none .none) ar
 rcases cK p.dW with h|h
 ·rw[h]
  exact⟨ln+1,by exact aV λ_ _ F k=>F ac rfl aa rfl aa h _ _ I _ _ D _ _ (λK k=>k) k⟩
 ·rw[h]
  refine⟨ln, ?_⟩
  rw[show(p.eL ac).o (fS p.lb ac)=p from(aF.o0 (p:=p.eL ac)).trans (by rw[<-h];rfl)]
  exact aV λ_ _ F k=>F ac rfl aa rfl ac h _ _ (λK k=>k) k
theorem W1 (ar:b9 p 10): ∃bx,aJ (me [.aq 10,.f (ma .none .none)] (((p.b0 []).aQ 444).hp ln)) (.f .none) ((((((p.eL ac).o (fS p.lb p.dW)).b0 []).di .none).aQ 429).hp bx):=by
 delta me
 refine ak (afd (p:=p.aQ 444) (ln:=ln) ar) λbx E=> ⟨bx, ?_⟩
 have T:uW (hO ((p.b0 [.f (ma .none .none)]).aQ 444) (ma .none .none) ln) (hO (((((p.eL ac).o (fS p.lb p.dW)).b0 []).di .none).aQ 429) (ma .none .none) bx):=by
  exact cb λ_ _ F k=>F _ _ (z1 (p:=(p.b0 []).aQ 444) .kl) ac rfl rfl _ _ E k
 exact aV λ_ _ F k=>F rfl _ _ (fc T (yo (p:=((((p.eL ac).o (fS p.lb p.dW)).b0 []).di .none).aQ 429))) k
end
abbrev cQ:=List Nat×List Nat
def ea (c:Nat):Bool:=aM [c] [10] ||aM [c] [8232]
noncomputable def b8:List Nat->List Nat->List cQ
 | [],[]=> []
 |a::l,[]=> [(a::l,[])]
 |l,c::r=>cond (ea c) ((l,[c])::b8 [] r) (b8 (l++ [c]) r)
def el (e d:List Nat):List Nat:=cond (aM d [8232]) d e
noncomputable def lk (n:Nat):List Nat->List Nat
 | []=> []
 |a::l=>gQ n 32++(a::l)
noncomputable def hR:List cQ->Bool
 | []=>ac
 | ([],_)::L=>hR L
 | (a::_,_)::_=> !aM [a] [32]
def hI (fold:Bool) (l d:List Nat) (L:List cQ):Bool:=fold&&(match l with
 | []=>ac
 |a::_=> !aM [a] [32]&&(aM d [10]&&hR L))
noncomputable def eQ (fold:Bool) (n:Nat) (e:List Nat):List cQ->List (List Nat)
 | []=> []
 | (l,d)::L=> (lk n l++el e d)::(cond (hI fold l d L) [e] []++eQ fold n e L)
theorem dG: ∀A B:List (List Nat),a0 (A++B)=a0 A++a0 B
 | [],_=>rfl
 |a::A,B=>by show a++a0 (A++B)=(a++a0 A)++a0 B;rw[dG A B,bt]
theorem qy (a:List Nat) (A:List (List Nat)):a0 (a::A)=a++a0 A:=rfl
theorem ai3:a0 []= []:=rfl
def rb (c:Nat):Prop:=bO [c] dA=ea c
theorem jd {l r:List Nat} {c:Nat} (h:ea c=aa):b8 l (c::r)=(l,[c])::b8 [] r:=by
 cases l<;>exact gm h
theorem iL {l r:List Nat} {c:Nat} (h:ea c=ac):b8 l (c::r)=b8 (l++ [c]) r:=by
 cases l<;>exact fo h
theorem CH {e:List Nat} {c:Nat} (h:ea c=aa):fm e c=el e [c]:=by
 rcases cK (aM [c] [10]) with ap|ap
 ·have:=(gw (gM.mp ap)).1
  subst this;rfl
 ·exact(fo ap).trans (gm ((oD _).symm.trans (ap▸h))).symm
theorem OH {α:Type} {f:Nat->α} {l:List Nat} {c:Nat}:(l++ [c]).map f=l.map f++ [f c]:=lE
theorem OF {fold:Bool} {e r:List Nat} {n c:Nat} (h:ea c=aa):a0 (eQ fold n e (b8 [] (c::r)))=fm e c++a0 (eQ fold n e (b8 [] r)):=by
 rw[jd h,CH h]
 show a0 (el e [c]::(cond (hI fold [] [c] (b8 [] r)) [e] []++eQ fold n e (b8 [] r)))=_
 cases fold<;>rfl
theorem abf {e:List Nat} {n:Nat}: ∀(r l:List Nat),(∀c∈r,rb c)->
  (a0 (ia e (ind n) aa l r)=a0 (l.map (fm e))++a0 (eQ ac n e (b8 [] r)))/\
  (l≠ []->ind n++a0 (ia e (ind n) ac l r)=a0 (eQ ac n e (b8 l r))):=λr=>by
 induction r with
 |nil=>
  refine λl _=> ⟨(dj _).symm,λh=> ?_⟩
  cases l with
  |nil=>exact absurd rfl h
  |cons a l=>
   show ind n++((a::l)++(e++ []))=((ind n++(a::l))++e)++ []
   rw[dj,dj,bt]
 |cons c r ai=>
  intro l c6
  have aD:bO [c] dA=ea c:=c6 c et
  have ai:=λl=>ai l λx aH=>c6 x (eZ _ aH)
  rcases cK (ea c) with ag|ag
  ·have t1:ia e (ind n) aa l (c::r)=ia e (ind n) aa (l++ [c]) r:=gm (aD.trans ag)
   have jP:ia e (ind n) ac l (c::r)=l::ia e (ind n) aa [c] r:=gm (aD.trans ag)
   rw[t1,jP,(ai _).1,qy,(ai _).1,OH,dG,show a0 [fm e c]=fm e c from dj _,bt]
   refine⟨congrArg _ (OF ag).symm,λh=> ?_⟩
   rw[jd ag]
   cases l with
   |nil=>exact absurd rfl h
   |cons a l=>
    show ind n++((a::l)++((fm e c++ [])++a0 (eQ ac n e (b8 [] r))))=((ind n++(a::l))++el e [c])++a0 (eQ ac n e (b8 [] r))
    rw[dj,CH ag,bt,bt]
  ·have t1:ia e (ind n) aa l (c::r)=l.map (fm e)++ind n::ia e (ind n) ac [c] r:=fo (aD.trans ag)
   have jP:ia e (ind n) ac l (c::r)=ia e (ind n) ac (l++ [c]) r:=fo (aD.trans ag)
   rw[t1,jP,iL ag,iL ag,dG,qy,(ai [c]).2 (c9 _ _)]
   exact⟨rfl,λ_=> (ai (l++ [c])).2 (i5 (c9 _ _))⟩
theorem abJ: ∀(r:List Nat) (a:Nat) (l:List Nat),hR (b8 (a::l) r)= !aM [a] [32]:=λr=>by
 induction r with
 |nil=>exact λ_ _=>rfl
 |cons c r ai=>
  intro a l
  rcases cK (ea c) with ag|ag
  ·rw[jd ag];rfl
  ·rw[iL ag];exact ai a (l++ [c])
def ra (r:List Nat):Prop:= ∀u,r≠u++ [32]
theorem ra.aO {c:Nat} {r:List Nat} (h:ra (c::r)):ra r:=λu e=>h (c::u) (congrArg (c:: ·) e)
theorem MU {c:Nat} (h:aM [c] [32]=aa):c=32:=(gw (gM.mp h)).1
theorem ra.hd {c:Nat} {r:List Nat} (h:ra (c::r)) (c6:r= []):aM [c] [32]=ac:=
 (cK _).resolve_left λe=>h [] (by rw[MU e,c6];rfl)
def rE (e:List Nat) (ls:Bool) (bs:List Nat) (L:List cQ):List Nat:=cond (!ls&&(aM [bs.headD 0] [10]&&hR L)) e []
theorem Xa {e bs:List Nat} {ls:Bool} {c:Nat} {r:List Nat}:a0 (sx e bs ls c)=rE e ls bs (b8 [c] r):=by
 unfold sx rE
 rw[abJ,Hm (!aM [c] [32])]
 cases !ls&&(aM [bs.headD 0] [10]&& !aM [c] [32]) with
 |true=>exact dj _
 |false=>rfl
theorem aiJ {e l:List Nat} {a c:Nat} {L:List cQ} (ag:ea c=aa):rE e (aM [a] [32]) [c] L++fm e c=el e [c]++a0 (cond (hI aa (a::l) [c] L) [e] []):=by
 rw[CH ag]
 show cond (!aM [a] [32]&&(aM [c] [10]&&hR L)) e []++_=_++a0 (cond (!aM [a] [32]&&(aM [c] [10]&&hR L)) [e] [])
 rcases cK (aM [c] [10]) with h|h
 ·have:=(gw (gM.mp h)).1
  subst this
  cases !aM [a] [32]&&(aM [10] [10]&&hR L) with
  |true=>exact congrArg (e++ ·) (dj e).symm
  |false=>exact(dj e).symm
 ·rw[h,wJ,hq]
  exact(dj _).symm
section
variable {e:List Nat} {n:Nat}
theorem abM {a c:Nat} {k:List Nat} {L:List cQ} (ag:ea c=aa):ind n++((a::k)++(rE e (aM [a] [32]) [c] L++(fm e c++a0 (eQ aa n e L))))=a0 (eQ aa n e ((a::k,[c])::L)):=by
 show _=((ind n++(a::k))++el e [c])++a0 (cond (hI aa (a::k) [c] L) [e] []++eQ aa n e L)
 rw[dG,bt,bt,<-bt (el e [c]),<-aiJ ag,bt]
theorem XD: ∀(r:List Nat),(∀c∈r,rb c)->ra r->
  (∀(s ls:Bool) (bs:List Nat),(bs= []->ls=aa)->a0 (gq e (ind n) aa s ls bs r)=rE e ls bs (b8 [] r)++(a0 (bs.map (fm e))++a0 (eQ aa n e (b8 [] r))))/\
  (∀(s:Bool) (jj l:List Nat) (a:Nat) (k:List Nat),jj++l=a::k->(r= []->s=ac)->l≠ []->ind n++(jj++a0 (gq e (ind n) ac s (aM [a] [32]) l r))=a0 (eQ aa n e (b8 (jj++l) r))):=λr=>by
 induction r with
 |nil=>
  refine λ_ _=> ⟨λs ls bs h=> ?_,λs jj l a k h hs _=> ?_⟩
  ·rw[show rE e ls bs (b8 [] [])= [] from fo (by show(!ls&&(aM [bs.headD 0] [10]&&ac))=ac;rw[hq,hq])]
   exact(dj _).symm
  ·rw[hs rfl,h]
   show ind n++(jj++(l++(e++ [])))=((ind n++(a::k))++e)++a0 (cond (hI aa (a::k) [] []) [e] []++ [])
   rw[dj,<-bt jj,h,bt,show cond (hI aa (a::k) [] []) [e] []= [] from fo (hq _),show a0 ([]++ [])= [] from rfl,dj,bt]
 |cons c r ai=>
  intro c6 ar
  have aD:bO [c] dA=ea c:=c6 c et
  have ai:=ai (λx aH=>c6 x (eZ _ aH)) ar.aO
  have Up:aM [c] [32]=aa->ea c=ac:=λh=>by rw[MU h];rfl
  refine⟨λs ls bs h=> ?_,λs jj l a k h hs aA=> ?_⟩
  ·rcases cK (ea c) with ag|ag
   ·rw[show gq e (ind n) aa s ls bs (c::r)=gq e (ind n) (bO [c] dA) (aM [c] [32]) ls (bs++ [c]) r from gm (b:=bO [c] dA) (aD.trans ag),aD,ag,ai.1 _ ls (bs++ [c]) λh=>absurd h (i5 (c9 _ _)),OF ag,OH,dG,show a0 [fm e c]=fm e c from dj _,bt]
    refine congrArg (· ++_) ?_
    rw[jd ag]
    cases bs with
    |nil=>rw[h rfl];rfl
    |cons b bs=>rfl
   ·rw[show gq e (ind n) aa s ls bs (c::r)=_ from fo (b:=bO [c] dA) (aD.trans ag),aD,ag,dG,dG,qy,iL ag,Xa (r:=r)]
    exact congrArg (λz=>rE e ls bs (b8 [c] r)++(a0 (bs.map (fm e))++z)) (ai.2 (aM [c] [32]) [] [c] c [] rfl (λh=>ar.hd h) (c9 _ _))
  ·--a break ai6 ajw line
   have flush:ind n++(jj++a0 (l::gq e (ind n) (bO [c] dA) (aM [c] [32]) (aM [a] [32]) [c] r))=a0 (eQ aa n e (b8 (jj++l) (c::r))):=by
    rw[qy,<-bt jj]
    rcases cK (ea c) with ag|ag
    ·rw[aD,ag,ai.1 _ _ [c] λh=>absurd h (c9 _ _),jd ag,h,<-abM ag,show a0 ([c].map (fm e))=fm e c from dj _]
    ·rw[aD,ag,iL ag]
     have:=ai.2 (aM [c] [32]) (jj++l) [c] a (k++ [c]) (by rw[h];rfl) (λh=>ar.hd h) (c9 _ _)
     exact this
   have cG:ea c=ac->ind n++(jj++a0 (gq e (ind n) (bO [c] dA) (aM [c] [32]) (aM [a] [32]) (l++ [c]) r))=a0 (eQ aa n e (b8 (jj++l) (c::r))):=λag=>by
    rw[aD,ag,iL ag,bt]
    exact ai.2 (aM [c] [32]) jj (l++ [c]) a (k++ [c]) (by rw[<-bt,h];rfl) (λh=>ar.hd h) (i5 (c9 _ _))
   cases s with
   |true=>
    rcases cK (aM [c] [32]) with gs|gs
    ·rw[show gq e (ind n) ac aa (aM [a] [32]) l (c::r)=_ from gm (b:=aM [c] [32]) gs];exact cG (Up gs)
    ·rw[show gq e (ind n) ac aa (aM [a] [32]) l (c::r)=_ from fo (b:=aM [c] [32]) gs];exact flush
   |false=>
    rcases cK (bO [c] pT) with hw|hw
    ·rw[show gq e (ind n) ac ac (aM [a] [32]) l (c::r)=_ from gm (b:=bO [c] pT) hw];exact flush
    ·rw[show gq e (ind n) ac ac (aM [a] [32]) l (c::r)=_ from fo (b:=bO [c] pT) hw]
     refine cG (aD.symm.trans ?_)
     have hw:(bA c 32&&aa||bO [c] dA)=ac:=hw
     exact(AO.mp hw).2
end
noncomputable def u6:Bool->List Nat->List Nat
 |_,[]=> []
 |rh,[c]=>cond (ea c) (cond rh [43] []) [45]
 |_,c::d::r=>u6 (ea c) (d::r)
noncomputable def yK (z y:Bool):List Nat:=cond z (cond y [43] []) [45]
def Pw (rh:Bool) (a:Nat):List Nat->Bool
 | []=>rh
 |b::r=>ea ((a::b::r).getD r.length 0)
theorem Mm: ∀(be:List Nat) (a:Nat) (rh:Bool),u6 rh (a::be)=yK (ea ((a::be).getLastD 0)) (Pw rh a be):=λbe=>by
 induction be with
 |nil=>exact λ_ _=>rfl
 |cons b r ai=>
  intro a rh
  refine(ai b (ea a)).trans ?_
  cases r with
  |nil=>rfl
  |cons c r=>rfl
theorem Dx {a:Nat} {be:List Nat} (aD: ∀c∈a::be,rb c):f9 (a::be)=u6 aa (a::be):=by
 have G: ∀(r:List Nat) (a:Nat),(a::r).getLastD 0∈a::r:=λr=>by
  induction r with
  |nil=>exact λa=>et
  |cons b r ai=>exact λa=>eZ _ (ai b)
 rw[Mm]
 unfold f9 iG
 rw[show bO [(a::be).getLastD 0] dA=ea ((a::be).getLastD 0) from aD _ (G be a)]
 cases be with
 |nil=>rfl
 |cons b r=>
  rw[show decide (c1 (a::b::r).length=1)=ac from decide_eq_false λh=>absurd (Bh (AY h)) (Nat.succ_ne_zero _)]
  have hm:(a::b::r).getD r.length 0∈a::b::r:=by
   rw[A4,nt (qa (nu _) (ky _):r.length<r.length+1+1)]
   exact HP _
  exact congrArg (λz=>cond _ (cond z [43] []) [45]) (aD _ hm)
noncomputable def d9:List cQ->List Nat
 | []=> []
 | [(l,d)]=>match d with
  | []=> [45]
  |_::_=>match l with
   | []=> [43]
   |_::_=> []
 |_::p::L=>d9 (p::L)
theorem Eu: ∀(r l:List Nat),l≠ []\/r≠ []-> ∃p L,b8 l r=p::L:=λr=>by
 induction r with
 |nil=>
  intro l h
  cases l with
  |nil=>exact absurd rfl (h.resolve_left (absurd rfl))
  |cons a l=>exact⟨_,_,rfl⟩
 |cons c r ai=>
  intro l h
  rcases cK (ea c) with ag|ag
  ·rw[jd ag];exact⟨_,_,rfl⟩
  ·rw[iL ag];exact ai _ (d7 (i5 (c9 _ _)))
noncomputable def MX:List Nat->Bool
 | []=>aa
 |_::_=>ac
theorem Mn: ∀(r l:List Nat) (c:Nat),d9 (b8 l (c::r))=u6 (MX l) (c::r):=λr=>by
 induction r with
 |nil=>
  intro l c
  show _=cond (ea c) (cond (MX l) [43] []) [45]
  rcases cK (ea c) with ag|ag
  ·rw[jd ag,ag];cases l<;>rfl
  ·rw[iL ag,ag];cases l<;>rfl
 |cons d r ai=>
  intro l c
  show _=u6 (ea c) (d::r)
  rcases cK (ea c) with ag|ag
  ·rw[jd ag,ag]
   refine bT (Eu (d::r) [] (cW (c9 _ _))) λp L h=> ?_
   have i:=ai [] d
   rw[h] at i⊢
   exact i
  ·rw[iL ag,ai,ag]
   cases l<;>rfl
def pj:List cQ->Bool
 | []=>ac
 | ([],_)::_=>aa
 | (a::_,_)::_=>aM [a] [32]
theorem XS: ∀(r:List Nat) (a:Nat) (l:List Nat),pj (b8 (a::l) r)=aM [a] [32]:=λr=>by
 induction r with
 |nil=>exact λ_ _=>rfl
 |cons c r ai=>
  intro a l
  rcases cK (ea c) with ag|ag
  ·rw[jd ag];rfl
  ·rw[iL ag];exact ai a (l++ [c])
theorem Ml {n:Nat} {a:Nat} {be:List Nat} (aD:rb a):dI n (a::be)=cond (pj (b8 [] (a::be))) (dv n) []:=by
 refine congrArg (cond · (dv n) []) ?_
 show(bA a 32&&aa||bO [a] dA)=_
 rw[show bO [a] dA=ea a from aD]
 rcases cK (ea a) with ag|ag
 ·rw[jd ag,ag,Rl];rfl
 ·rw[iL ag,ag,rL];exact(XS be a []).symm
def fD (fold:Bool) (e:List Nat) (l d:List Nat) (L:List cQ):List (List Nat):=cond (hI fold l d L) [e] []
noncomputable def dK (fold:Bool) (e:List Nat):List cQ->List (List Nat)×g8
 | []=> ([],[])
 |p::L=>match p.1 with
  | []=> (el e p.2::(dK fold e L).1,(dK fold e L).2)
  |a::l=> ([],(a::l,el e p.2,fD fold e (a::l) p.2 L++(dK fold e L).1)::(dK fold e L).2)
theorem UO (A:List (List Nat)):a0 A=A.flatten:=by
 induction A with
 |nil=>rfl
 |cons a A ai=>rw[qy,ai,HN]
theorem UD {fold:Bool} {e t:List Nat} {n:Nat} (L:List cQ):(dK fold e L).1.flatten++hH n (dK fold e L).2 t=a0 (eQ fold n e L)++t:=by
 induction L with
 |nil=>rfl
 |cons p L ai=>
  obtain ⟨l,d⟩:=p
  cases l with
  |nil=>
   show(el e d::(dK fold e L).1).flatten++hH n (dK fold e L).2 t=(el e d++a0 (cond (hI fold [] d L) [e] []++eQ fold n e L))++t
   rw[show cond (hI fold [] d L) [e] []= [] from fo (by cases fold<;>rfl),HN,bt,ai,bt]
   rfl
  |cons a l=>
   show ind n++((a::l)++(el e d++((fD fold e (a::l) d L++(dK fold e L).1).flatten++hH n (dK fold e L).2 t)))=(((ind n++(a::l))++el e d)++a0 (fD fold e (a::l) d L++eQ fold n e L))++t
   rw[List.flatten_append,bt (fD fold e (a::l) d L).flatten,ai,dG,UO (fD fold e (a::l) d L)]
   rw[bt,bt,bt,bt]
def rS (l:List Nat):Prop:= ∀c∈l,¬c∈kB/\c≠9
def hj:List cQ->Prop
 | []=>True
 | [(l,d)]=>rS l/\(d= [10]\/d= [8232]\/(d= []/\l≠ []))
 | (l,d)::p::L=>rS l/\(d= [10]\/d= [8232])/\hj (p::L)
theorem hj.cons {l d:List Nat} {L:List cQ} (ap:rS l) (aC:d= [10]\/d= [8232]) (bu:hj L):hj ((l,d)::L):=by
 cases L with
 |nil=>exact⟨ap,by rcases aC with h|h;exact d7 h;exact cW (d7 h)⟩
 |cons p L=>exact⟨ap,aC,bu⟩
theorem hj.aO {l d:List Nat} {L:List cQ} (h:hj ((l,d)::L)):hj L:=by
 cases L with
 |nil=>trivial
 |cons p L=>exact h.2.2
theorem hj.ch {l d:List Nat} {L:List cQ} (h:hj ((l,d)::L)):rS l:=by
 cases L with
 |nil=>exact h.1
 |cons p L=>exact h.1
theorem hj.ds {l d:List Nat} {L:List cQ} (h:hj ((l,d)::L)) (aA:l= []\/L≠ []):d= [10]\/d= [8232]:=by
 cases L with
 |nil=>
  rcases h.2 with h|h|h
  ·exact d7 h
  ·exact cW h
  ·rcases aA with aA|aA
   ·exact absurd aA h.2
   ·exact absurd rfl aA
 |cons p L=>exact h.2.1
theorem Ph: ∀(r l:List Nat),(∀c∈r,ea c=aa\/(¬c∈kB/\c≠9))->rS l->hj (b8 l r):=λr=>by
 induction r with
 |nil=>
  intro l _ h
  cases l with
  |nil=>trivial
  |cons a l=>exact⟨h,cW (cW ⟨rfl,c9 _ _⟩)⟩
 |cons c r ai=>
  intro l c6 h
  have MC:=λx aH=>c6 x (eZ _ aH)
  rcases cK (ea c) with ag|ag
  ·rw[jd ag]
   exact hj.cons h ((rK.mp ag).imp gM.mp gM.mp) (ai [] MC nofun)
  ·rw[iL ag]
   refine ai (l++ [c]) MC λx aH=> (A9.mp aH).elim (h x) λaH=> ?_
   rw[jU.mp aH]
   exact(c6 c et).resolve_left λh=>absurd (ag.symm.trans h) (by decide)
def pI (e r:List Nat):Prop:=e= [13]->aM [r.headD 0] [10]=ac
theorem Bd {e r:List Nat} (bw:eo e) (h:pI e r):ha e r:=by
 rcases bw with rfl|rfl|rfl
 ·exact .lf
 ·exact .cr (h rfl)
 ·exact .x8
theorem HX {e d r:List Nat} (bw:eo e) (h:pI e r):ha (el e d) r:=by
 rcases cK (aM d [8232]) with hd|hd
 ·rw[show el e d=d from gm hd,gM.mp hd];exact .ls
 ·rw[show el e d=e from fo hd];exact Bd bw h
theorem ace {e r:List Nat}:pI e (e++r):=λh=>by subst h;rfl
theorem acf {e d r:List Nat}:pI e (el e d++r):=λh=>by
 rcases cK (aM d [8232]) with hd|hd
 ·rw[show el e d=d from gm hd,gM.mp hd];rfl
 ·rw[show el e d=e from fo hd,h];rfl
section
variable {fold:Bool} {e t:List Nat} {n:Nat}
theorem zy (ar:0<n) (cj:Tok t) (L:List cQ):pI e ((dK fold e L).1.flatten++hH n (dK fold e L).2 t):=by
 cases L with
 |nil=>exact bT cj λx r h=>h.1▸ λ_=>h9 λg=>h.2 (by rw[show x=10 from g];decide)
 |cons p L=>
  obtain ⟨l,d⟩:=p
  cases l with
  |nil=>
   show pI e ((el e d++(dK fold e L).1.flatten)++_)
   rw[bt]
   exact acf
  |cons a l=>cases n with
   |zero=>exact absurd ar (H0 0)
   |succ n=>exact λ_=>rfl
theorem CE (bw:eo e) (ar:0<n) (cj:Tok t) (L:List cQ):lF (dK fold e L).1 (hH n (dK fold e L).2 t):=by
 induction L with
 |nil=>trivial
 |cons p L ai=>
  obtain ⟨l,d⟩:=p
  cases l with
  |nil=>exact⟨HX bw (zy ar cj L),ai⟩
  |cons a l=>trivial
theorem acg {l d:List Nat} (ar:0<n) (cj:Tok t) (L:List cQ):pI e ((fD fold e l d L++(dK fold e L).1).flatten++hH n (dK fold e L).2 t):=by
 unfold fD
 cases hI fold l d L with
 |true=>
  show pI e ((e++(dK fold e L).1.flatten)++_)
  rw[bt]
  exact ace
 |false=>exact zy ar cj L
theorem ach {l d:List Nat} (bw:eo e) (ar:0<n) (cj:Tok t) (L:List cQ):lF (fD fold e l d L++(dK fold e L).1) (hH n (dK fold e L).2 t):=by
 unfold fD
 cases hI fold l d L with
 |true=>exact⟨Bd bw (zy ar cj L),CE bw ar cj L⟩
 |false=>exact CE bw ar cj L
theorem UB (bw:eo e) (ar:0<n) (cj:Tok t): ∀L:List cQ,hj L->oc n (dK fold e L).2 t:=λL=>by
 induction L with
 |nil=>exact λ_=>cj
 |cons p L ai=>
  obtain ⟨l,d⟩:=p
  cases l with
  |nil=>exact λh=>ai h.aO
  |cons a l=>exact λh=> ⟨⟨c9 _ _,λc aD=> (h.ch c aD).1⟩,HX bw (acg ar cj L),ach bw ar cj L,ai h.aO⟩
theorem Lf (bw:eo e):dV e= [10]:=by rcases bw with rfl|rfl|rfl<;>rfl
theorem uG {d:List Nat} (bw:eo e) (hd:d= [10]\/d= [8232]):dV (el e d)=d:=by
 rcases hd with rfl|rfl
 ·exact Lf bw
 ·rfl
theorem Ef {a:Nat} {l:List Nat} (h:rS (a::l)):lead (a::l)= !aM [a] [32]:=by
 have sG:(bA a 9&&aa)=ac:=h9 (h a et).2
 show(!(bA a 32&&aa|| (bA a 9&&aa||false)))=_
 rw[sG,rL,rL]
 rfl
theorem N8: ∀(L:List cQ) {b:List Nat×List Nat×List (List Nat)} {B:g8},hj L->(dK fold e L).2=b::B->hR L=lead b.1:=λL=>by
 induction L with
 |nil=>exact λ_ h=>absurd h.symm (c9 _ _)
 |cons p L ai=>
  intro b B bW h
  obtain ⟨l,d⟩:=p
  cases l with
  |nil=>exact ai bW.aO h
  |cons a l=>rw[<-(gw h).1];exact(Ef bW.ch).symm
theorem K8: ∀(L:List cQ),hj L->(dK fold e L).2= []->hR L=ac/\(L≠ []->d9 L= [43]):=λL=>by
 induction L with
 |nil=>exact λ_ _=> ⟨rfl,λh=>absurd rfl h⟩
 |cons p L ai=>
  intro bW h
  obtain ⟨l,d⟩:=p
  cases l with
  |nil=>
   have ai:=ai bW.aO h
   refine⟨ai.1,λ_=> ?_⟩
   cases L with
   |nil=>rcases bW.ds (d7 rfl) with rfl|rfl<;>rfl
   |cons p L=>exact ai.2 (c9 _ _)
  |cons a l=>exact absurd h (c9 _ _)
theorem UA (bw:eo e): ∀L:List cQ,hj L->u1 fold (dK fold e L).2:=λL=>by
 induction L with
 |nil=>exact λ_=>trivial
 |cons p L ai=>
  intro h
  have ai:=ai h.aO
  obtain ⟨l,d⟩:=p
  cases l with
  |nil=>exact ai
  |cons a l=>
   refine⟨?_,ai⟩
   have K: ∀b B,(dK fold e L).2=b::B->fold=aa->aM (dV (el e d)) [10]=aa->lead (a::l)=aa->lead b.1=aa->fD fold e (a::l) d L++(dK fold e L).1≠ []:=λb B eU hf hd aA DI=>by
    have d9:L≠ []:=λh=>by rw[h] at eU;exact absurd eU.symm (c9 _ _)
    rw[uG bw (h.ds (cW d9))] at hd
    rw[Ef h.ch] at aA
    rw[show fD fold e (a::l) d L= [e] from gm (by show(fold&&(!aM [a] [32]&&(aM d [10]&&hR L)))=aa;rw[hf,aA,hd,N8 L h.aO eU,DI];rfl)]
    exact c9 _ _
   show(match(dK fold e L).2 with
    | []=>True
    |fO::_=>fold=aa->aM (dV (el e d)) [10]=aa->lead (a::l)=aa->lead fO.1=aa->fD fold e (a::l) d L++(dK fold e L).1≠ [])
   revert K
   cases (dK fold e L).2 with
   |nil=>exact λ_=>trivial
   |cons b B=>exact λK=>K b B rfl
end
noncomputable def hv:List cQ->List Nat
 | []=> []
 |p::L=>p.1++(p.2++hv L)
noncomputable def u0:List cQ->List Nat
 | []=> []
 |p::L=>match p.1 with
  | []=>u0 L
  |a::l=> (a::l)++(p.2++hv L)
theorem Xm: ∀r l:List Nat,hv (b8 l r)=l++r:=λr=>by
 induction r with
 |nil=>
  intro l
  cases l with
  |nil=>rfl
  |cons a l=>rfl
 |cons c r ai=>
  intro l
  rcases cK (ea c) with ag|ag
  ·rw[jd ag];exact congrArg (λz=>l++([c]++z)) (ai [])
  ·rw[iL ag,ai,bt];rfl
section
variable {fold:Bool} {e:List Nat}
theorem L2 (bw:eo e): ∀L:List cQ,hj L->hv L=a0 ((dK fold e L).1.map dV)++u0 L:=λL=>by
 induction L with
 |nil=>exact λ_=>rfl
 |cons p L ai=>
  intro h
  obtain ⟨l,d⟩:=p
  cases l with
  |nil=>
   show d++hv L=(dV (el e d)++a0 ((dK fold e L).1.map dV))++u0 L
   rw[ai h.aO,uG bw (h.ds (d7 rfl)),bt]
  |cons a l=>rfl
theorem LX: ∀L:List cQ,(dK fold e L).2= []->u0 L= []:=λL=>by
 induction L with
 |nil=>exact λ_=>rfl
 |cons p L ai=>
  obtain ⟨l,d⟩:=p
  cases l with
  |nil=>exact ai
  |cons a l=>exact λh=>absurd h (c9 _ _)
def qA (l:List Nat):Option Bool:=cond (aM l [45]) (ab ac) (cond (aM l [43]) (ab aa) af)
theorem adn {ch:Option Bool} {C:List (List Nat)} {b:List Nat} {E:List (List Nat)}:a0 (m4 ch (C,b,E))=a0 C++a0 (m4 ch ([],b,E)):=by
 cases ch with
 |none=>exact dG C [b]
 |some c=>cases c with
  |true=>exact dG C (b::E.map dV)
  |false=>exact(dj _).symm
theorem CN {A B:List (List Nat)} {l:List Nat}:a0 (A++B++ [l])=a0 A++(a0 B++l):=by
 rw[dG,dG,show a0 [l]=l from dj l,bt]
theorem ad1 (bw:eo e): ∀L:List cQ,hj L->(dK fold e L).2≠ []-> ∀ed C:List (List Nat),a0 (m4 (qA (d9 L)) (m6 fold (dK fold e L).2 ed C))=a0 C++(a0 (ed.map dV)++u0 L):=λL=>by
 induction L with
 |nil=>exact λ_ h=>absurd rfl h
 |cons p L ai=>
  intro bW h ed C
  obtain ⟨l,d⟩:=p
  cases l with
  |nil=>cases L with
   |nil=>exact absurd rfl h
   |cons p L=>exact ai bW.aO h ed C
  |cons a l=>
   have I8:(fold&&(!aM [a] [32]&&(aM d [10]&&hR L)))=ac->fD fold e (a::l) d L= []:=λh=>fo h
   show a0 (m4 (qA (d9 ((a::l,d)::L))) (m6 fold ((a::l,el e d,fD fold e (a::l) d L++(dK fold e L).1)::(dK fold e L).2) ed C))=a0 C++(a0 (ed.map dV)++((a::l)++(d++hv L)))
   cases L with
   |nil=>
    rw[I8 (by show(fold&&(!aM [a] [32]&&(aM d [10]&&ac)))=ac;rw[hq,hq,hq])]
    show a0 (m4 (qA (d9 [(a::l,d)])) (C++ed.map dV++ [a::l],dV (el e d),[]))=_
    rw[adn,CN,bt,bt]
    refine congrArg (a0 C++ ·) (congrArg (a0 (ed.map dV)++ ·) (congrArg ((a::l)++ ·) ?_))
    rcases bW.2 with hd|hd|hd
    ·rw[uG bw (d7 hd),hd];rfl
    ·rw[uG bw (cW hd),hd];rfl
    ·rw[hd.1];rfl
   |cons p L=>
    have hd:=bW.ds (cW (c9 _ _))
    have Mq:=uG bw hd
    have Xk:=L2 (fold:=fold) bw (p::L) bW.aO
    have nl:=K8 (fold:=fold) (e:=e) (p::L) bW.aO
    have fn:=LX (fold:=fold) (e:=e) (p::L)
    have ld:= @N8 fold e (p::L)
    have ai:=ai bW.aO
    show a0 (m4 (qA (d9 (p::L))) _)=_
    rw[Xk]
    revert nl fn ld ai
    cases (dK fold e (p::L)).2 with
    |nil=>
     intro nl fn _ _
     have nl:=nl rfl
     rw[nl.2 (c9 _ _),I8 (by rw[nl.1,hq,hq,hq]),fn rfl,dj]
     show a0 (C++ed.map dV++ [a::l]++dV (el e d)::(dK fold e (p::L)).1.map dV)=_
     rw[dG,CN,Mq,bt,bt]
     rfl
    |cons b B=>
     intro _ _ ld ai
     have ai:=ai (c9 _ _) (fD fold e (a::l) d (p::L)++(dK fold e (p::L)).1) (C++ed.map dV++ [a::l]++sep fold (el e d) (a::l) b.1)
     refine ai.trans ?_
     have key:a0 (sep fold (el e d) (a::l) b.1)++a0 ((fD fold e (a::l) d (p::L)).map dV)=d:=by
      unfold sep fD
      show a0 (cond (fold&&(aM (dV (el e d)) [10]&&(lead (a::l)&&lead b.1))) [] [dV (el e d)])++a0 ((cond (fold&&(!aM [a] [32]&&(aM d [10]&&hR (p::L)))) [e] []).map dV)=d
      rw[Mq,Ef bW.ch,ld bW.aO rfl,<-wI (aM d [10]),Hm (aM d [10]),wI]
      rcases cK (aM d [10]) with ap|ap
      ·rw[gM.mp ap]
       cases fold&&(!aM [a] [32]&&(aM [10] [10]&&lead b.1)) with
       |true=>exact(dj _).trans (Lf bw)
       |false=>rfl
      ·rw[ap,wJ,hq,hq]
       exact(dj _).trans (dj d)
     rw[dG,CN,lE,dG,bt,bt,bt,bt,<-bt (a0 (sep fold (el e d) (a::l) b.1)),key]
theorem Uz (L:List cQ):(dK fold e L).1.length+cnt (dK fold e L).2<=3*L.length:=by
 induction L with
 |nil=>exact fj _
 |cons p L ai=>
  obtain ⟨l,d⟩:=p
  cases l with
  |nil=>
   show(dK fold e L).1.length+1+cnt (dK fold e L).2<=3*(L.length+1)
   omega
  |cons a l=>
   have aH:(fD fold e (a::l) d L).length<=1:=by
    unfold fD
    cases hI fold (a::l) d L<;>exact cS rfl
   show 0+(2+(fD fold e (a::l) d L++(dK fold e L).1).length+cnt (dK fold e L).2)<=3*(L.length+1)
   rw[bL]
   omega
end
theorem vA: ∀r l:List Nat,(b8 l r).length<=r.length+1:=λr=>by
 induction r with
 |nil=>
  intro l
  cases l with
  |nil=>exact fw _
  |cons a l=>exact fj _
 |cons c r ai=>
  intro l
  rcases cK (ea c) with ag|ag
  ·rw[jd ag];exact iY (ai [])
  ·rw[iL ag];exact tV (ai _)
theorem Yj (z y:Bool):yK z y= []\/yK z y= [45]\/yK z y= [43]:=by cases z<;>cases y<;>decide
def US (x:List Nat):Prop:= ∀c∈x,ea c=aa\/(¬c∈kB/\c≠9)
theorem UK {fold:Bool} {e t:List Nat} {n a:Nat} {be:List Nat} (bw:eo e) (ar:ft n) (aD: ∀c∈a::be,rb c) (DC:US (a::be)) (cj:Tok t) (aA:(a::be).length<=12):
  BT fold n (dI n (a::be)++(f9 (a::be)++(e++a0 (eQ fold n e (b8 [] (a::be)))))) t (a::be):=by
 have DK:0<n:=by rcases ar with rfl|rfl|rfl<;>decide
 have mR:=Ph (a::be) [] DC nofun
 have YB:d9 (b8 [] (a::be))=f9 (a::be):=by rw[Dx aD,Mn];rfl
 refine bT (Eu (a::be) [] (cW (c9 _ _))) λp L hp=> ?_
 have sN:a0 (vN fold (qA (d9 (b8 [] (a::be)))) (dK fold e (b8 [] (a::be))).2 (dK fold e (b8 [] (a::be))).1)=a::be:=by
  have eA:=(L2 (fold:=fold) bw _ mR).symm.trans (Xm (a::be) [])
  have R:=ad1 (fold:=fold) bw _ mR
  have N:=K8 (fold:=fold) (e:=e) _ mR
  have F:=LX (fold:=fold) (e:=e) (b8 [] (a::be))
  unfold vN
  revert R N F
  cases (dK fold e (b8 [] (a::be))).2 with
  |cons b B=>exact λR _ _=> (R (c9 _ _) _ []).trans eA
  |nil=>
   intro _ N F
   rw[(N rfl).2 (hp▸c9 _ _)]
   rw[F rfl,dj] at eA
   exact eA
 refine⟨cond (pj (b8 [] (a::be))) (ab n) af,qA (d9 (b8 [] (a::be))),e,(dK fold e (b8 [] (a::be))).1,(dK fold e (b8 [] (a::be))).2,⟨?_, ?_,Bd bw (zy DK cj _),bw.hd,CE bw DK cj _,UB bw DK cj _ mR,UA bw _ mR, ?_, ?_, ?_⟩, ?_,sN⟩
 ·exact cW (by rcases ar with rfl|rfl|rfl<;>simp)
 ·cases pj (b8 [] (a::be)) with
  |true=>exact cW rfl
  |false=>exact d7 rfl
 ·have:=Uz (fold:=fold) (e:=e) (b8 [] (a::be))
  have:=vA (a::be) []
  omega
 ·rw[sN];exact bf aA (by decide)
 ·rw[hp]
  obtain ⟨l,d⟩:=p
  cases l with
  |nil=>exact λh=>nomatch h
  |cons b l=>
   refine λh=> ⟨rfl,_,_,rfl,λg=> ?_⟩
   rw[show b=32 from g] at h
   exact nomatch h
 ·have ap:dI n (a::be)=yX (cond (pj (b8 [] (a::be))) (ab n) af):=by
   rw[Ml (aD a et)]
   cases pj (b8 [] (a::be)) with
   |true=>rcases ar with rfl|rfl|rfl<;>rfl
   |false=>rfl
  have aC:f9 (a::be)=yW (qA (d9 (b8 [] (a::be)))):=by
   rw[YB,Dx aD,Mm]
   rcases Yj (ea ((a::be).getLastD 0)) (Pw aa a be) with h|h|h<;>rw[h]<;>rfl
  rw[ap,aC]
  unfold we
  rw[UD,bt,bt,bt]
noncomputable def da (p:cQ):aj:= .tup [.str p.1,.str p.2]
noncomputable def hD:List Nat->List Nat->List cQ×List Nat
 |l,[]=> ([],l)
 |l,c::r=>cond (ea c) ((l,[c])::(hD [] r).1,(hD [] r).2) (hD (l++ [c]) r)
noncomputable def Et:List Nat->List cQ
 | []=> []
 |a::l=> [(a::l,[])]
theorem abr: ∀r l:List Nat,b8 l r=(hD l r).1++Et (hD l r).2:=λr=>by
 induction r with
 |nil=>
  intro l
  cases l with
  |nil=>rfl
  |cons a l=>rfl
 |cons c r ai=>
  intro l
  rcases cK (ea c) with ag|ag
  ·rw[jd ag,ai [],show hD l (c::r)=((l,[c])::(hD [] r).1,(hD [] r).2) from gm ag];rfl
  ·rw[iL ag,ai,show hD l (c::r)=hD (l++ [c]) r from fo ag]
def abt:S:=CB.aO.aO.hd
def lm (A:List cQ):List ae:=A.map λp=> .f (da p)
theorem MV {c:Nat}:bO [c] [10,8232]=ea c:=congrArg (aM [c] [10] || ·) (rL _)
theorem NO (A:List cQ) (p:cQ):lm (A++ [p])=lm A++ [.f (da p)]:=lE
theorem NP (A:List cQ):(lm A).length=A.length:=eg _
noncomputable def zm (x l:List Nat) (c:Option ae) (A:List ae) (hp:b5):St:=⟨[(71,ab (.f (.str x))),(58,ab (.aq 100)),(30,ab (.f (.str l))),(1,c)],hp,[(100,.list A)],[100]⟩
section
variable {x:List Nat} {hp:b5}
theorem abw: ∀(r l:List Nat) (A:List cQ) (c:Option ae),l.length+r.length<=1000->A.length+r.length<=1000->
  ∃f7,aJ (gX 1 (bN (aI []) abt.bd) (qB r) (zm x l c (lm A) hp)) .aQ (zm x (hD l r).2 f7 (lm (A++(hD l r).1)) hp):=λr=>by
 induction r with
 |nil=>exact λl A c _ _=> ⟨c,by rw[show A++(hD l []).1=A from dj A];exact lc⟩
 |cons a r ai=>
  intro l A c ap aC
  rw[du] at ap aC
  rcases cK (ea a) with ag|ag
  ·refine ak (ai [] (A++ [(l,[a])]) (ab (.f (.str [a]))) (bf (by rw[eY];omega) ap) (by rw[bL,du,eY];omega)) λf7 i=> ⟨f7, ?_⟩
   rw[show hD l (a::r)=((l,[a])::(hD [] r).1,(hD [] r).2) from gm ag,show A++((l,[a])::(hD [] r).1)=(A++ [(l,[a])])++(hD [] r).1 from(bt A [(l,[a])] _).symm]
   refine la (σ₁:=zm x [] (ab (.f (.str [a]))) (lm (A++ [(l,[a])])) hp) ?_ i
   rw[NO]
   exact gU λ_ _ F k=>F aa (MV.trans ag) (f3 (l:=lm A) (by rw[NP];omega)) k
  ·refine ak (ai (l++ [a]) A (ab (.f (.str [a]))) (by rw[bL,du,eY];omega) (by omega)) λf7 i=> ⟨f7, ?_⟩
   rw[show hD l (a::r)=hD (l++ [a]) r from fo ag]
   refine la (σ₁:=zm x (l++ [a]) (ab (.f (.str [a]))) (lm A) hp) ?_ i
   exact gU λ_ _ F k=>F ac (MV.trans ag) (by rw[bL,du,eY];omega:(l++ [a]).length<=16777216) k
theorem QM (A:List cQ):eN (lm A)=ab (A.map da):=(congrArg eN (oI (f:=da) (g:=ae.f)).symm).trans (wq _)
theorem afu (aH:x.length<=1000):aJ (GW [.f (.str x)] hp) (.f (.lst ((b8 [] x).map da))) hp:=by
 delta GW
 have E:=abr x []
 have N:=vA x []
 refine ak (abw (x:=x) (hp:=hp) x [] [] af (by rw[eY];omega) (by rw[eY];omega)) λc L=> ?_
 revert E L
 rw[RX]
 generalize hD [] x=P
 intro E L
 obtain ⟨A,l⟩:=P
 rw[E] at N
 have N:(A++Et l).length<=x.length+1:=N
 cases l with
 |nil=>
  rw[E,show A++Et []=A from dj A]
  exact aV λ_ _ F k=>F _ rfl _ _ L ac rfl _ (QM A) k
 |cons a l=>
  rw[E]
  have e:lm (A++ [(a::l,[])])=lm A++ [.f (da (a::l,[]))]:=NO A _
  have U:=QM (A++ [(a::l,[])])
  rw[e] at U
  exact aV λ_ _ F k=>F _ rfl _ _ L aa rfl (f3 (l:=lm A) (by rw[NP];rw[bL] at N;omega)) _ U k
end
theorem lY {l:List aj} {i:Int} {v:aj} (hs:cn l=aa) (h:gf l i=ab v):mV (.f (.lst l)) (.f (.int i)) p1=ab (.f v):=by
 show(match cn l with
  |true=>match gf l i with
   |some v=>ab (ae.f v)
   |none=>af
  |false=>af)=_
 rw[hs,h]
noncomputable def q2:List cQ->List aj
 | []=> []
 |p::L=>match p.1 with
  | []=>q2 L
  |a::l=> .str (a::l)::q2 L
theorem aaM (L:List cQ):lZ (L.map da)=ab (q2 L):=by
 induction L with
 |nil=>rfl
 |cons p L ai=>
  obtain ⟨l,d⟩:=p
  cases l with
  |nil=>
   show(match lZ (L.map da) with
    |some l=>ab l
    |none=>af)=_
   rw[ai];rfl
  |cons a l=>
   show(match lZ (L.map da) with
    |some r=>ab (aj.str (a::l)::r)
    |none=>af)=_
   rw[ai];rfl
theorem abH (L:List cQ):(q2 L= []/\hR L=ac)\/ ∃a l F,q2 L= .str (a::l)::F/\hR L= !aM [a] [32]/\F.length<=L.length:=by
 have N: ∀L:List cQ,(q2 L).length<=L.length:=λL=>by
  induction L with
  |nil=>exact fj _
  |cons p L ai=>
   obtain ⟨l,d⟩:=p
   cases l with
   |nil=>exact tV ai
   |cons a l=>exact iY ai
 induction L with
 |nil=>exact d7 ⟨rfl,rfl⟩
 |cons p L ai=>
  obtain ⟨l,d⟩:=p
  cases l with
  |nil=>exact ai.imp id λh=>c5 h λa l F h=> ⟨a,l,F,h.1,h.2.1,tV h.2.2⟩
  |cons a l=>exact cW ⟨a,l,q2 L,rfl,rfl,tV (N L)⟩
theorem FI {P:List cQ} {p:cQ} {L:List cQ} (hs:cn ((P++p::L).map da)=aa):tm (.f (.lst ((P++p::L).map da))) (.f (.int (.ofNat (P.length+1)))) (.f .none) p1=ab (.f (.lst (L.map da))):=by
 show(match cn ((P++p::L).map da) with
  |true=>match iv ((P++p::L).map da) (.int (.ofNat (P.length+1))) .none with
   |some r=>ab (ae.f (.lst r))
   |none=>af
  |false=>af)=_
 rw[hs]
 show ab (ae.f (.lst ((((P++p::L).map da).drop (P.length+1)).take (((P++p::L).map da).length- (P.length+1)))))=_
 rw[show((P++p::L).map da).drop (P.length+1)=L.map da by rw[lE,p5,<-A1,List.drop_left' (eg _)];rfl,HW]
 rw[eg,eg,bL,du];omega
structure oZ where
 h:List Nat
 fold:Bool
 M:List cQ
 n:Nat
 e:List Nat
structure uj where
 i:Option ae
 l:Option ae
 d:Option ae
 t:Option ae
noncomputable def S.gC:S->S
 | .qM _ _ b=>b
 |_=> .nil
def QB:S:=xY.aO.aO.aO.aO.hd
def ahA (n:Nat):S:=n.repeat S.aO QB.gC
def jn (v:oZ) (o:uj) (A:List (List Nat)) (hp:b5):St:=⟨[(27,ab (.f (.str v.h))),(68,ab (.f (.str [bJ v.fold]))),(58,ab (.f (.lst (v.M.map da)))),(38,ab (.f (.int (.ofNat v.n)))),(83,ab (.f (.str v.e))),(36,ab (.aq 100)),(2,o.i),(30,o.l),(9,o.d),(56,o.t)],hp,[(100,.list (cg A))],[100]⟩
def uk (n:Nat) (σ σ':St):Prop:= ∀(G:Prop) (K:cE->St->aB),aB.path G (bN (aI []) (ahA n).hd σ K)->aB.path G (K .aQ σ')
noncomputable def m3 (i:Nat) (l d:List Nat) (t:Option ae):uj:=⟨ab (.f (.int (.ofNat i))),ab (.f (.str l)),ab (.f (.str d)),t⟩
section
variable {v:oZ} {o:uj} {A:List (List Nat)} {hp:b5} {P L:List cQ} {l d:List Nat} {t:Option ae}
theorem ahB (qR:v.M=P++(l,d)::L) (hs:cn (v.M.map da)=aa) (bj:o.i=ab (.f (.int (.ofNat P.length)))):uk 0 (jn v o A hp) (jn v (m3 P.length l d o.t) A hp):=λG K F=>by
 obtain ⟨i,Nq,ai5,t⟩:=o
 cases bj
 exact F _ (lY (i:= .ofNat P.length) (v:=da (l,d)) hs (by rw[qR];show((P++(l,d)::L).map da)[P.length]? =_;rw[HO,tR (fj _),w6];rfl))
theorem LC {v:oZ} {o:uj} {A B:List (List Nat)} {hp:b5}:jn v o (A++B) hp={jn v o A hp with lh:= [(100,.list (cg A++cg B))]}:=congrArg (λz=> ({jn v o A hp with lh:= [(100,.list z)]}:St)) (h5 A B)
theorem ahC {i:Nat} (ar:v.n<=10) (he:v.e.length<=10) (aA:l.length<=1000) (hd:d.length<=10) (aw:cn (cg A)=aa):uk 1 (jn v (m3 i l d t) A hp) (jn v (m3 i l d t) (A++ [lk v.n l++el v.e d]) hp):=λG K F=>by
 have I:(lk v.n l).length<=1010:=by
  cases l with
  |nil=>exact fw _
  |cons a l=>rw[show lk v.n (a::l)=gQ v.n 32++(a::l) from rfl,bL,A8];omega
 have S: ∀w:List Nat,w.length<=10->(lk v.n l++w).length<=16777216:=λw h=>by rw[bL];omega
 rw[LC (v:=v)]
 rcases cK (aM d [8232]) with lU|lU
 ·rw[show el v.e d=d from gm lU]
  have S:=S d hd
  cases l with
  |nil=>exact F ac rfl aa lU S aw
  |cons a l=>exact F aa rfl ⟨(by omega:(-1000:Int)< (v.n:Int)),(by omega:(v.n:Int)<1000)⟩ (bf I (by decide)) aa lU S aw
 ·rw[show el v.e d=v.e from fo lU]
  have S:=S v.e he
  cases l with
  |nil=>exact F ac rfl ac lU S aw
  |cons a l=>exact F aa rfl ⟨(by omega:(-1000:Int)< (v.n:Int)),(by omega:(v.n:Int)<1000)⟩ (bf I (by decide)) ac lU S aw
theorem ahD (qR:v.M=P++(l,d)::L) (hm:v.M.length<=10000) (aw:cn (cg A)=aa): ∃dR,uk 2 (jn v (m3 P.length l d t) A hp) (jn v (m3 P.length l d dR) (A++fD v.fold v.e l d L) hp):=by
 obtain ⟨h,fold,M,n,e⟩:=v
 cases qR
 have hm:(P++(l,d)::L).length<=10000:=hm
 have hs:cn ((P++(l,d)::L).map da)=aa:=f3 (by rw[eg];exact bf hm (by decide))
 have d9:L.length<=10000:=by rw[bL,du] at hm;omega
 have N:hI fold l d L=ac-> ∀dR,uk 2 (jn ⟨h,fold,P++(l,d)::L,n,e⟩ (m3 P.length l d t) A hp) (jn ⟨h,fold,P++(l,d)::L,n,e⟩ (m3 P.length l d dR) A hp)-> ∃dR,uk 2 (jn ⟨h,fold,P++(l,d)::L,n,e⟩ (m3 P.length l d t) A hp) (jn ⟨h,fold,P++(l,d)::L,n,e⟩ (m3 P.length l d dR) (A++fD fold e l d L) hp):=λh dR T=> ⟨dR,by rw[show fD fold e l d L= [] from fo h,dj];exact T⟩
 cases fold with
 |false=>
  exact N rfl t λG K F=>by exact F ac rfl
 |true=>cases l with
  |nil=>
   exact N rfl t λG K F=>by exact F aa rfl _ rfl ac rfl
  |cons a l=>
   rcases cK (aM [a] [32]) with ap|ap
   ·refine N (by show(aa&&(!aM [a] [32]&&(aM d [10]&&hR L)))=ac;rw[ap];rfl) t λG K F=> ?_
    exact F aa rfl _ rfl aa rfl _ rfl _ (congrArg not ap)
   rcases cK (aM d [10]) with aC|aC
   ·have X:hI aa (a::l) d L=hR L:=by show(aa&&(!aM [a] [32]&&(aM d [10]&&hR L)))=hR L;rw[ap,aC];cases hR L<;>rfl
    have FE:cn (L.map da)=aa:=f3 (by rw[eg];exact bf d9 (by decide))
    have T:=abH L
    have C:=aaM L
    rcases T with T|T
    ·rw[T.1] at C
     refine N (X.trans T.2) (ab (.f (.lst []))) λG K F=> ?_
     exact F aa rfl _ rfl aa rfl _ rfl _ (congrArg not ap) aa aC _ (FI hs) _ C FE rfl ac rfl
    ·refine c5 T λa2 e3 R T=> ?_
     rw[T.1] at C
     have l9:cn (aj.str (a2::e3)::R)=aa:=f3 (bf (iY (bf T.2.2 d9)) (by decide))
     rcases cK (aM [a2] [32]) with bu|bu
     ·refine N (X.trans (T.2.1.trans (by rw[bu];rfl))) (ab (.f (.lst (.str (a2::e3)::R)))) λG K F=> ?_
      exact F aa rfl _ rfl aa rfl _ rfl _ (congrArg not ap) aa aC _ (FI hs) _ C FE l9 aa rfl _ (lY (i:=0) (v:= .str (a2::e3)) l9 rfl) _ rfl _ (congrArg not bu)
     ·refine⟨ab (.f (.lst (.str (a2::e3)::R))), ?_⟩
      rw[show fD aa e (a::l) d L= [e] from gm (X.trans (T.2.1.trans (by rw[bu];rfl))),LC]
      intro G K F
      exact F aa rfl _ rfl aa rfl _ rfl _ (congrArg not ap) aa aC _ (FI hs) _ C FE l9 aa rfl _ (lY (i:=0) (v:= .str (a2::e3)) l9 rfl) _ rfl _ (congrArg not bu) aw
   ·refine N (by show(aa&&(!aM [a] [32]&&(aM d [10]&&hR L)))=ac;rw[ap,aC];rfl) t λG K F=> ?_
    exact F aa rfl _ rfl aa rfl _ rfl _ (congrArg not ap) ac aC
def vM (L:List cQ):Prop:= ∀p∈L,p.1.length<=1000/\p.2.length<=10
theorem ahE (ar:v.n<=10) (he:v.e.length<=10) (hm:v.M.length<=10000): ∀(L P:List cQ) (A:List (List Nat)) (o:uj),v.M=P++L->vM L->A.length+2*L.length<=100000->
  ∃eh,aJ (gX 2 (bN (aI []) QB.gC) (ob (.ofNat P.length) L.length) (jn v o A hp)) .aQ (jn v eh (A++eQ v.fold v.n v.e L) hp):=λL=>by
 induction L with
 |nil=>exact λP A o _ _ _=> ⟨o,by rw[show A++eQ v.fold v.n v.e []=A from dj A];exact lc⟩
 |cons p L ai=>
  intro P A o qR lV aw
  obtain ⟨l,d⟩:=p
  rw[du] at aw
  have ag:=lV _ et
  have aH:(fD v.fold v.e l d L).length<=1:=by
   unfold fD
   cases hI v.fold l d L<;>exact cS rfl
  have hs:cn (v.M.map da)=aa:=f3 (by rw[eg];exact bf hm (by decide))
  have aeA:cn (cg A)=aa:=f3 (by rw[lO];omega)
  have sB:cn (cg (A++ [lk v.n l++el v.e d]))=aa:=f3 (by rw[lO,bL,du,eY];omega)
  have T0:=ahB (v:=v) (A:=A) (hp:=hp) (o:=⟨ab (.f (.int (.ofNat P.length))),o.l,o.d,o.t⟩) qR hs rfl
  have lL:=ahC (v:=v) (t:=o.t) (l:=l) (d:=d) (i:=P.length) (hp:=hp) ar he ag.1 ag.2 aeA
  refine ak (ahD (v:=v) (t:=o.t) (hp:=hp) qR hm sB) λdR mD=> ?_
  refine ak (ai (P++ [(l,d)]) ((A++ [lk v.n l++el v.e d])++fD v.fold v.e l d L) (m3 P.length l d dR) (qR.trans (bt P [(l,d)] L).symm) (λp hp=>lV p (eZ _ hp)) (by rw[bL,bL,du,eY];omega)) λeh i=> ⟨eh, ?_⟩
  have e:A++eQ v.fold v.n v.e ((l,d)::L)=((A++ [lk v.n l++el v.e d])++fD v.fold v.e l d L)++eQ v.fold v.n v.e L:=by rw[bt,bt];rfl
  rw[e]
  rw[show(P++ [(l,d)]).length=P.length+1 from bL] at i
  exact la (σ:=jn v o A hp) (gU λG W F k=>mD _ _ (lL _ _ (T0 _ _ F)) k) i
end
noncomputable def D9 (p:cQ):List Nat:=match p.2 with
 | []=> [45]
 |_::_=>match p.1 with
  | []=> [43]
  |_::_=> []
theorem Dy: ∀(L:List cQ) (p:cQ),∃q,q∈p::L/\d9 (p::L)=D9 q/\gf ((p::L).map da) (-1)=ab (da q):=λL=>by
 induction L with
 |nil=>exact λp=> ⟨p,et,by obtain ⟨l,d⟩:=p;cases d<;>cases l<;>rfl,rfl⟩
 |cons r L ai=>
  intro p
  refine ak (ai r) λq h=> ⟨q,eZ _ h.1,(by obtain ⟨l,d⟩:=p;exact h.2.1), ?_⟩
  have h:=h.2.2
  revert h
  show(match gG 1 ((L.map da).length+1) with
   |true=> ((r::L).map da)[(L.map da).length]?
   |false=>af)=_->(match gG 1 ((L.map da).length+1+1) with
   |true=> ((p::r::L).map da)[(L.map da).length+1]?
   |false=>af)=_
  rw[mr (lG 1 _),mr (lG 1 _)]
  exact id
def je (n:Nat) (L:List cQ):List Nat:=cond (pj L) (dv n) []
theorem yd (d:Nat):(dv d).length<=2:=by unfold dv;cases d6 d 10<;>exact cS rfl
theorem OE (n:Nat) (L:List cQ):(je n L).length<=2:=by
 unfold je
 cases pj L with
 |true=>exact yd n
 |false=>exact fw _
def gB (head:List Nat) (fold:Bool) (n:Nat) (e:List Nat) (L:List cQ):List (List Nat):=(head++([bJ fold]++(je n L++d9 L))++e)::eQ fold n e L
def ahh (n:Nat):S:=n.repeat S.aO xY
def Ag (v:oZ) (hp:b5):St:=⟨[(27,ab (.f (.str v.h))),(68,ab (.f (.str [bJ v.fold]))),(58,ab (.f (.lst (v.M.map da)))),(38,ab (.f (.int (.ofNat v.n)))),(83,ab (.f (.str v.e))),(36,af),(2,af),(30,af),(9,af),(56,af)],hp,[],[]⟩
def I6 (n:Nat) (σ σ':St):Prop:= ∀(G:Prop) (K:cE->St->aB),aB.path G (bN (aI []) (ahh n).hd σ K)->aB.path G (K .aQ σ')
noncomputable def oZ.hd (v:oZ) (h:List Nat):oZ:=⟨h,v.fold,v.M,v.n,v.e⟩
section
variable {v:oZ} {hp:b5} {p:cQ} {L:List cQ} {h e:List Nat} {fold:Bool} {n:Nat}
theorem ahi (cy:h.length<=20) (ar:n<=10) (hs:cn ((p::L).map da)=aa):I6 1 (Ag ⟨h,fold,p::L,n,e⟩ hp) (Ag ⟨h++je n (p::L),fold,p::L,n,e⟩ hp):=λG K F=>by
 have D:=yd n
 have D:(h++dv n).length<=16777216:=by rw[bL];omega
 obtain ⟨l,d⟩:=p
 cases l with
 |nil=>exact F _ (lY (i:=0) (v:=da ([],d)) hs rfl) _ rfl aa rfl (w3 ar (by decide):n<100) D
 |cons a l=>
  have I:=lY (i:=0) (v:=da (a::l,d)) hs rfl
  rcases cK (aM [a] [32]) with aE|aE
  ·rw[show je n ((a::l,d)::L)=dv n from gm aE]
   exact F _ I _ rfl ac rfl _ I _ rfl _ rfl aa aE (w3 ar (by decide):n<100) D
  ·rw[show je n ((a::l,d)::L)= [] from fo aE,dj]
   exact F _ I _ rfl ac rfl _ I _ rfl _ rfl ac aE
theorem ahj (cy:h.length<=30) (hs:cn ((p::L).map da)=aa):I6 2 (Ag ⟨h,fold,p::L,n,e⟩ hp) (Ag ⟨h++d9 (p::L),fold,p::L,n,e⟩ hp):=λG K F=>by
 have cG: ∀c:Nat,(h++ [c]).length<=16777216:=λc=>by rw[bL];exact bf (h2 cy 1) (by decide)
 refine ak (Dy L p) λq Q=> ?_
 have I:=lY (i:= -1) (v:=da q) hs Q.2.2
 rw[Q.2.1]
 obtain ⟨l,d⟩:=q
 cases d with
 |nil=>exact F _ I _ rfl aa rfl (cG 45)
 |cons c d=>cases l with
  |nil=>exact F _ I _ rfl ac rfl _ I _ rfl aa rfl (cG 43)
  |cons a l=>
   rw[show h++D9 (a::l,c::d)=h from dj h]
   exact F _ I _ rfl ac rfl _ I _ rfl ac rfl
theorem Yg (L:List cQ) (p:cQ):(d9 (p::L)).length<=1:=ak (Dy L p) λq h=>by
 rw[h.2.1]
 obtain ⟨l,d⟩:=q
 cases d with
 |nil=>exact fj _
 |cons c d=>cases l with
  |nil=>exact fj _
  |cons a l=>exact fw _
theorem GZ (C:List (List Nat)):eN (cg C)=ab (C.map .str):=(congrArg eN (oI (f:=aj.str) (g:=ae.f)).symm).trans (wq _)
theorem afO {head:List Nat} (cy:head.length<=10) (ar:ft n) (he:e.length<=10) (lV:vM (p::L)) (aA:(p::L).length<=1000):
  aJ (GX [.f (.str head),.f (.str [bJ fold]),.f (.lst ((p::L).map da)),.f (.int (.ofNat n)),.f (.str e)] hp) (.f (.lst ((gB head fold n e (p::L)).map .str))) hp:=by
 delta GX
 have ar:n<=10:=by rcases ar with rfl|rfl|rfl<;>decide
 have hs:cn ((p::L).map da)=aa:=f3 (by rw[eg];exact bf aA (by decide))
 have l1:(head++ [bJ fold]).length<=11:=by rw[bL];exact h2 cy 1
 have e3:((head++ [bJ fold])++je n (p::L)).length<=13:=by rw[bL];exact fX l1 (OE _ _)
 have pD:(((head++ [bJ fold])++je n (p::L))++d9 (p::L)).length<=14:=by rw[bL];exact fX e3 (Yg _ _)
 have Z7:((((head++ [bJ fold])++je n (p::L))++d9 (p::L))++e).length<=24:=by rw[bL];exact fX pD he
 have lL:=ahi (fold:=fold) (e:=e) (hp:=hp) (bf l1 (by decide)) ar hs
 have mD:=ahj (fold:=fold) (e:=e) (n:=n) (hp:=hp) (bf e3 (by decide)) hs
 refine ak (ahE (v:=⟨((head++ [bJ fold])++je n (p::L))++d9 (p::L),fold,p::L,n,e⟩) (hp:=hp) ar he (bf aA (by decide)) (p::L) [] [(((head++ [bJ fold])++je n (p::L))++d9 (p::L))++e] ⟨af,af,af,af⟩ rfl lV (by rw[du,eY];omega)) λeh W=> ?_
 have E:gB head fold n e (p::L)= [(((head++ [bJ fold])++je n (p::L))++d9 (p::L))++e]++eQ fold n e (p::L):=by
  unfold gB
  rw[<-bt,<-bt];rfl
 rw[E]
 rw[show(p::L).length=((p::L).map da).length from(eg _).symm] at W
 have R: -1000000<=c1 ((p::L).map da).length/\c1 ((p::L).map da).length<=1000000:=⟨AX (by decide) (kV _),by rw[eg];exact oH.mpr (bf aA (by decide))⟩
 refine aV λG K F k=> ?_
 have F:=mD _ _ (lL _ _ (F (bf l1 (by decide))))
 exact F (bf Z7 (by decide)) _ rfl hs R _ _ W _ (GZ _) k
end
structure bB where
 P6:Option ae
 hv:Option ae
 ind:Option ae
 ask:Option ae
 bV:Option ae
 ie:Option ae
 jG:Option ae
 row:Option ae
 j2:Option ae
 clo:Option ae
 dq:Option ae
 i:Option ae
 n:Option ae
 m:Option ae
 iU:Option ae
 tag:Option ae
 ho:Option ae
 val:Option ae
 ee:Option ae
 dg:Option ae
 ey:Option ae
 eB:Option ae
 txt:Option ae
 rf:Option ae
 got:Option ae
noncomputable def bB.loc (r:bB):List (Nat×Option ae):= [(93,r.P6),(52,r.hv),(88,r.ind),(46,r.ask),(83,r.bV),(38,r.ie),(103,r.jG),(36,r.row),(8,r.j2),(81,r.clo),(106,r.dq),(2,r.i),(4,r.n),(3,r.m),(110,r.iU),(39,r.tag),(68,r.ho),(71,r.val),(42,r.ee),(66,r.dg),(87,r.ey),(58,r.eB),(41,r.txt),(90,r.rf),(11,r.got)]
noncomputable def bB.sn (r:bB) (v:Nat):bB:={r with n:=ab (.f (.int (.ofNat v)))}
noncomputable def bB.eC (r:bB) (v:Nat):bB:={r with m:=ab (.f (.int (.ofNat v)))}
noncomputable def bB.a7 (r:bB) (v:aj):bB:={r with iU:=ab (.f v)}
noncomputable def bB.st (r:bB) (v:aj):bB:={r with tag:=ab (.f v)}
noncomputable def bB.rt (r:bB) (v:List Nat):bB:={r with ho:=ab (.f (.str v))}
noncomputable def bB.ot (r:bB) (v:List Nat):bB:={r with val:=ab (.f (.str v))}
noncomputable def bB.P7 (r:bB) (v:Bool):bB:={r with ee:=ab (.f (.bool v))}
noncomputable def bB.ss (r:bB) (v:Bool):bB:={r with dg:=ab (.f (.bool v))}
noncomputable def bB.v5 (r:bB) (v:Option ae):bB:={r with ey:=v}
noncomputable def bB.aK (r:bB) (v:List aj):bB:={r with eB:=ab (.f (.lst v))}
noncomputable def bB.sc (r:bB) (v:Bool):bB:={r with clo:=ab (.f (.bool v))}
noncomputable def bB.dX (r:bB) (v:Bool):bB:={r with dq:=ab (.f (.bool v))}
noncomputable def bB.cz (r:bB) (e:List Nat) (n:Nat):bB:={r with bV:=ab (.f (.str e)),ie:=ab (.f (.int (.ofNat n))),jG:=ab (.aq 10),row:=ab (.aq 101),j2:=ab (.aq 102)}
noncomputable def bB.tl (r:bB) (v:Nat):bB:={r with i:=ab (.f (.int (.ofNat v)))}
structure fg (r:bB) (e:List Nat) (n:Nat):Prop where
 bV:r.bV=ab (.f (.str e))
 ie:r.ie=ab (.f (.int (.ofNat n)))
 jG:r.jG=ab (.aq 10)
 row:r.row=ab (.aq 101)
 j2:r.j2=ab (.aq 102)
section
variable {r:bB}
theorem fg.eq {e:List Nat} {n:Nat} (h:fg r e n):r=r.cz e n:=
 (congrArg (λo=> ({r with bV:=o}:bB)) h.bV).trans ((congrArg (λo=> ({r with bV:=ab (.f (.str e)),ie:=o}:bB)) h.ie).trans ((congrArg (λo=> ({r with bV:=ab (.f (.str e)),ie:=ab (.f (.int (.ofNat n))),jG:=o}:bB)) h.jG).trans
  ((congrArg (λo=> ({r with bV:=ab (.f (.str e)),ie:=ab (.f (.int (.ofNat n))),jG:=ab (.aq 10),row:=o}:bB)) h.row).trans (congrArg (λo=> ({r with bV:=ab (.f (.str e)),ie:=ab (.f (.int (.ofNat n))),jG:=ab (.aq 10),row:=ab (.aq 101),j2:=o}:bB)) h.j2))))
theorem vI {n:Nat} (h:r.n=ab (.f (.int (.ofNat n)))):r=r.sn n:=congrArg (λo=> ({r with n:=o}:bB)) h
theorem OG {n:Nat} (h:r.m=ab (.f (.int (.ofNat n)))):r=r.eC n:=congrArg (λo=> ({r with m:=o}:bB)) h
theorem MF {n:Nat} (h:r.i=ab (.f (.int (.ofNat n)))):r=r.tl n:=congrArg (λo=> ({r with i:=o}:bB)) h
theorem AD {v:aj} (h:r.iU=ab (.f v)):r=r.a7 v:=congrArg (λo=> ({r with iU:=o}:bB)) h
theorem Ae {v:aj} (h:r.tag=ab (.f v)):r=r.st v:=congrArg (λo=> ({r with tag:=o}:bB)) h
theorem Hb {v:List Nat} (h:r.ho=ab (.f (.str v))):r=r.rt v:=congrArg (λo=> ({r with ho:=o}:bB)) h
theorem G8 {v:List Nat} (h:r.val=ab (.f (.str v))):r=r.ot v:=congrArg (λo=> ({r with val:=o}:bB)) h
theorem mN {v:Bool} (h:r.ee=ab (.f (.bool v))):r=r.P7 v:=congrArg (λo=> ({r with ee:=o}:bB)) h
theorem PM {v:Bool} (h:r.dg=ab (.f (.bool v))):r=r.ss v:=congrArg (λo=> ({r with dg:=o}:bB)) h
theorem Nt {v:List aj} (h:r.eB=ab (.f (.lst v))):r=r.aK v:=congrArg (λo=> ({r with eB:=o}:bB)) h
theorem uI {v:Bool} (h:r.clo=ab (.f (.bool v))):r=r.sc v:=congrArg (λo=> ({r with clo:=o}:bB)) h
theorem yG {v:Bool} (h:r.dq=ab (.f (.bool v))):r=r.dX v:=congrArg (λo=> ({r with dq:=o}:bB)) h
end
def SL (w:Bool):cM:=⟨dX,jm,mb,om,gD,pL,[(40,.aq 20),(43,.f (.bool w))]⟩
noncomputable def Ez:S:=(.aN 4 (.call (.gl 126) (.cons (.clo 40) .nil) .nil))
noncomputable def ED:S:=(.aN 3 (.call (.gl 126) (.cons (.clo 40) .nil) .nil))
noncomputable def EE:S:=(.aN 110 (.j8 (.cmp .In (.bin .Mod (.bin .FloorDiv (.lo 4) (.a6 4)) (.a6 5)) (.lst (.cons (.a6 1) (.cons (.a6 4) .nil)))) (.tup (.cons (.a6 1) (.cons (.bin .Mod (.bin .FloorDiv (.lo 4) (.a6 20)) (.a6 12)) .nil))) .cu))
noncomputable def EF:S:=(.aN 39 (.co (.gl 184) (.bin .Mod (.bin .FloorDiv (.lo 4) (.a6 4)) (.a6 5))))
noncomputable def EG:S:=(.aN 68 (.co (.ks [124,62]) (.bin .Mod (.lo 3) (.a6 2))))
noncomputable def EH:S:=(.aN 71 (.join (.ks []) (.vw 0 [40,43] (.co (.gl 166) (.bin .Mod (.call (.gl 126) (.cons (.clo 40) .nil) .nil) (.j8 (.clo 43) (.a6 14) (.a6 12)))) (.bin .Add (.a6 1) (.bin .Mod (.bin .FloorDiv (.lo 3) (.a6 2)) (.a6 3))))))
noncomputable def EI:S:=(.aN 42 (.or (.cons (.cmp .IsNot (.lo 110) .cu) (.cons (.cmp .IsNot (.lo 39) .cu) .nil))))
noncomputable def EJ:S:=(.aN 66 (.or (.cons (.cmp .Gt (.lo 2) (.a6 0)) (.cons (.cmp .Eq (.bin .Mod (.lo 4) (.a6 2)) (.a6 1)) (.cons (.lo 42) .nil)))))
noncomputable def OB:S:=(.ite (.cmp .Gt (.lo 2) (.a6 0)) (.cons (.exp (.cG (.lo 8) (.tup (.cons (.ks [100,111,99,117,109,101,110,116,32,101,110,100]) (.cons (.or (.cons (.lo 81) (.cons (.and (.cons (.lo 106) (.cons (.lo 42) .nil))) .nil))) .nil))))) .nil) .nil)
noncomputable def Oq:S:=(.ite (.and (.cons (.lo 106) (.cons (.lo 42) .nil))) (.cons (.exp (.cG (.lo 36) (.bin .Add (.ks [46,46,46]) (.lo 83)))) .nil) .nil)
noncomputable def Ot:S:=(.ite (.cmp .IsNot (.lo 110) .cu) (.cons (.exp (.cG (.lo 36) (.bin .Add (.bin .Add (.ks [37,89,65,77,76,32,49,46]) (.rq (.co (.lo 110) (.a6 1)))) (.lo 83)))) .nil) .nil)
noncomputable def zl:S:=(.ite (.cmp .IsNot (.lo 39) .cu) (.cons (.fr 87 (.tp (.lo 39)) (.cons (.exp (.cG (.lo 36) (.bin .Add (.bin .Add (.bin .Add (.bin .Add (.ks [37,84,65,71,32]) (.lo 87)) (.ks [32])) (.co (.lo 39) (.lo 87))) (.lo 83)))) .nil)) .nil) .nil)
noncomputable def EA:S:=(.aN 58 (.call (.gl 143) (.cons (.lo 71) .nil) .nil))
noncomputable def Ou:S:=(.si 36 (.call (.gl 127) (.cons (.j8 (.lo 66) (.ks [45,45,45,32]) (.ks [])) (.cons (.lo 68) (.cons (.lo 58) (.cons (.lo 38) (.cons (.lo 83) .nil))))) .nil))
noncomputable def EB:S:=(.aN 81 (.cmp .Eq (.bin .Mod (.bin .FloorDiv (.lo 4) (.a6 2)) (.a6 2)) (.a6 1)))
noncomputable def EC:S:=(.aN 106 (.and (.cons (.not (.lo 81)) (.cons (.cmp .Eq (.co (.co (.lo 58) (.neg (.a6 1))) (.a6 0)) (.ks [])) .nil))))
noncomputable def Ov:S:=(.ite (.lo 81) (.cons (.exp (.cG (.lo 36) (.bin .Add (.ks [46,46,46]) (.lo 83)))) .nil) .nil)
noncomputable def Ow:S:=(.exp (.cG (.lo 8) (.tup (.cons (.ks [100,111,99,117,109,101,110,116]) (.cons (.lo 66) (.cons (.lo 110) (.cons (.lo 39) .nil)))))))
noncomputable def Ox:S:=(.exp (.cG (.lo 8) (.tup (.cons (.ks [116,101,120,116]) (.cons (.lo 71) (.cons (.lo 68) .nil))))))
noncomputable def Oy:S:=(.exp (.aG (.lo 103) 25 (.cons (.call (.gl 260) .nil (.e0 118 (.cmp .Eq (.bin .Mod (.lo 4) (.a6 2)) (.a6 1)) (.e0 110 (.lo 110) (.e0 39 (.lo 39) .nil)))) .nil) .nil))
noncomputable def Oz:S:=(.exp (.aG (.lo 103) 25 (.cons (.call (.gl 164) (.cons .cu (.cons .cu (.cons (.tup (.cons (.bF aa) (.cons (.bF aa) .nil))) (.cons (.lo 71) .nil)))) (.e0 68 (.lo 68) .nil)) .nil) .nil))
noncomputable def OA:S:=(.exp (.aG (.lo 103) 25 (.cons (.call (.gl 237) .nil (.e0 118 (.lo 81) .nil)) .nil) .nil))
noncomputable def nd (T:List Nat):cc:= .list (T.map λn=> .f (.int (.ofNat n)))
def aF.d5 (p:aF) (T:List Nat):aF:={p with Qv:=nd T}
def b6 (r:bB) (p:aF) (ln:Nat) (R:List (List Nat)) (D:List aj):St:=⟨r.loc,p.hp ln,[(101,.list (cg R)),(102,.list (D.map .f))],[102,101]⟩
def cL (w:Bool) (s:S) (σ σ':St):Prop:= ∀(G:Prop) (K:cE->St->aB),aB.path G (bN (SL w) s σ K)->aB.path G (K .aQ σ')
noncomputable abbrev cp (n:Nat):Option ae:=ab (.f (.int (.ofNat n)))
noncomputable abbrev cI (b:Bool):Option ae:=ab (.f (.bool b))
theorem Ai {T:List Nat} (h:T.length<=100):cn (T.map λn=>ae.f (.int (.ofNat n)))=aa:=f3 (by rw[eg];exact bf h (by decide))
theorem z0 {p:aF} {T:List Nat} {ln:Nat} (dQ:T.length<=100):aJ (wo [.aq 20] ((p.d5 T).hp ln)) (.f (.int (.ofNat (T.headD 0)))) ((p.d5 T.tail).hp ln):=by
 delta wo
 cases T with
 |nil=>exact aV λ_ _ F k=>F rfl ac rfl k
 |cons a T=>exact aV λ_ _ F k=>F (Ai dQ) aa rfl (Ai dQ) k
section
variable {w:Bool} {r:bB} {p:aF} {ln:Nat} {R:List (List Nat)} {D:List aj}
theorem aav {T:List Nat} (dQ:T.length<=100):cL w Ez (b6 r (p.d5 T) ln R D) (b6 (r.sn (T.headD 0)) (p.d5 T.tail) ln R D):=λG K F=>by exact F _ _ (z0 (p:=p) dQ)
theorem aau {T:List Nat} (dQ:T.length<=100):cL w ED (b6 r (p.d5 T) ln R D) (b6 (r.eC (T.headD 0)) (p.d5 T.tail) ln R D):=λG K F=>by exact F _ _ (z0 (p:=p) dQ)
noncomputable def hB (n:Nat):Nat:=n/4%5
def wu (n:Nat):Option Nat:=cond (bA (hB n) 1||bA (hB n) 4) (ab (n/20%12)) af
def Af (n:Nat):eJ:=cond (bA (hB n) 2||bA (hB n) 4) .one (cond (bA (hB n) 3) .two .no)
theorem Nd (n:Nat):hB n=0\/hB n=1\/hB n=2\/hB n=3\/hB n=4:=by
 have:hB n<5:=ms _ (by decide)
 revert this
 generalize hB n=k
 omega
theorem QU {n d:Nat} (h:wu n=ab d):d<12:=by
 revert h
 unfold wu
 cases (bA (hB n) 1||bA (hB n) 4) with
 |true=>exact λh=>bQ h▸ms _ (by decide)
 |false=>exact λh=>nomatch h
noncomputable def odd (n:Nat):Bool:=bA (n%2) 1
theorem aaB {n:Nat} (ar:r.n=cp n):cL w EE (b6 r p ln R D) (b6 (r.a7 (c4 (wu n))) p ln R D):=by
 have e:(decide ((1:Int)=c1 (hB n)) || (decide ((4:Int)=c1 (hB n)) ||false))=(bA (hB n) 1||bA (hB n) 4):=by
  rcases Nd n with h|h|h|h|h<;>rw[h]<;>rfl
 unfold wu
 rw[vI ar]
 intro G K F
 rcases cK (bA (hB n) 1||bA (hB n) 4) with ag|ag
 ·rw[ag]
  exact F ⟨by decide,by decide⟩ (by decide) _ rfl aa (e.trans ag) ⟨by decide,by decide⟩ (by decide)
 ·rw[ag]
  exact F ⟨by decide,by decide⟩ (by decide) _ rfl ac (e.trans ag)
theorem aay {n:Nat} (ar:r.n=cp n):cL w EF (b6 r p ln R D) (b6 (r.st (Af n).bI) p ln R D):=by
 rw[vI ar]
 intro G K F
 have I:gf [aj.none,.none,eJ.one.bI,eJ.two.bI,eJ.one.bI] (.ofNat (hB n))=ab (Af n).bI:=by
  unfold Af
  rcases Nd n with h|h|h|h|h<;>rw[h]<;>rfl
 exact F ⟨by decide,by decide⟩ (by decide) _ (lY rfl I)
theorem aax {m:Nat} (hm:r.m=cp m):cL w EG (b6 r p ln R D) (b6 (r.rt [bJ (odd m)]) p ln R D):=by
 rw[OG hm]
 intro G K F
 have I: [124,62][m%2]? =ab (bJ (odd m)):=by
  unfold odd
  rcases Nat.mod_two_eq_zero_or_one m with h|h<;>rw[h]<;>rfl
 exact F (by decide) _ (jJ I)
theorem aaz {v:Option Nat} {t:eJ} (aW:r.iU=ab (.f (c4 v))) (cj:r.tag=ab (.f t.bI)):cL w EI (b6 r p ln R D) (b6 (r.P7 (!g0 v t)) p ln R D):=by
 rw[AD aW,Ae (r:=r.a7 _) cj]
 intro G K F
 cases v with
 |none=>cases t with
  |no=>exact F ac rfl
  |one=>exact F ac rfl
  |two=>exact F ac rfl
 |some d=>cases t with
  |no=>exact F aa rfl
  |one=>exact F aa rfl
  |two=>exact F aa rfl
noncomputable def sO (b:Bool):Nat:=cond b 0 1
def ajs (f:Bool) (n:Nat) (v:Option Nat) (t:eJ):Bool:= !f|| (odd n|| !g0 v t)
theorem x9 (a b:Nat):decide (c1 a=c1 b)=bA a b:=by
 rcases cK (bA a b) with h|h
 ·rw[h];exact decide_eq_true (congrArg c1 (fh h))
 ·rw[h];exact decide_eq_false λg=>absurd (AY g) (w5 h)
theorem aaw {f b:Bool} {n:Nat} (bj:r.i=cp (sO f)) (ar:r.n=cp n) (cj:r.ee=cI b):cL w EJ (b6 r p ln R D) (b6 (r.ss (!f|| (odd n||b))) p ln R D):=by
 rw[MF bj,vI (r:=r.tl _) ar,mN (r:=(r.tl _).sn _) cj]
 intro G K F
 cases f with
 |false=>exact F aa rfl
 |true=>
  have e:decide (c1 (n%2)=1)=odd n:=x9 (n%2) 1
  rcases cK (odd n) with bW|bW
  ·rw[show(!aa|| (odd n||b))=decide (c1 (n%2)=1) by rw[e,bW];rfl]
   exact F ac rfl (by decide) aa (e.trans bW)
  ·rw[show(!aa|| (odd n||b))=b by rw[bW];rfl]
   exact F ac rfl (by decide) ac (e.trans bW)
end
theorem Lq {b:ae->St->(Option ae->St->aB)->aB} {acc:List ae} {σ:St}:aJ (jD b [] acc σ) acc σ:=λ_ k=>k
theorem Lp {n:Nat} {b:St->(ae->St->aB)->aB} {v u:ae} {l acc r:List ae} {σ σ' Q8:St} (h: ∀(G:Prop) (K:ae->St->aB),aB.path G (b ⟨[(n,ab v)],σ.hp,σ.lh,σ.lu⟩ K)->aB.path G (K u σ')) (d3:glob u=aa) (k:aJ (jD (pZ n b) l (acc++ [u]) ⟨σ.loc,σ'.hp,σ'.lh,σ'.lu⟩) r Q8):aJ (jD (pZ n b) (v::l) acc σ) r Q8:=
 λK q=>h _ (λu Hj=> .dP (glob u=aa) (.ret (jD (pZ n b) l (acc++ [u]) ⟨σ.loc,Hj.hp,Hj.lh,Hj.lu⟩ K))) (aB.rg _ id) d3 (k K q)
theorem Qm (C:List (List Nat)):kN (C.map .str)=ab C:=by
 induction C with
 |nil=>rfl
 |cons c C ai=>
  exact congrArg (λo=>match(o:Option (List (List Nat))) with|some l=>ab (c::l) |none=>af) ai
noncomputable def oM:List (List Nat):= [[97],[10],[32,98],[99,32,100],[10,10],[45,45,45],[32,32,32,101],[35],[10],[102,58,32,103],[46,46,46],[124],[8232],[233]]
noncomputable def vP (w:Bool):Nat:=cond w 14 12
def pc (w:Bool) (a:Nat):List Nat:=oM.getD (a%vP w) []
noncomputable def mh (w:Bool):Nat->List Nat->List (List Nat)
 |0,_=> []
 |k+1,T=>pc w (T.headD 0)::mh w k T.tail
theorem Fm (w:Bool) (a:Nat):a%vP w<14:=by
 cases w with
 |true=>exact ms a (by decide)
 |false=>exact Bg (ms a (by decide:12>0)) (by decide)
theorem adt (w:Bool) (a:Nat):gf (oM.map aj.str) (.ofNat (a%vP w))=ab (.str (pc w a)):=by
 show(oM.map aj.str)[a%vP w]? =_
 unfold pc
 rw[HO,A4,nt (show a%vP w<oM.length from Fm w a)]
 rfl
noncomputable def adq:X:=(.co (.gl 166) (.bin .Mod (.call (.gl 126) (.cons (.clo 40) .nil) .nil) (.j8 (.clo 43) (.a6 14) (.a6 12))))
section
variable {w:Bool} {r:bB} {p:aF} {ln:Nat} {R:List (List Nat)} {D:List aj}
theorem ads {loc:List (Nat×Option ae)} {lh:b5} {lu:List Nat}: ∀(k:Nat) (z:Int) (acc:List (List Nat)) (T:List Nat),T.length<=100->
  aJ (jD (pZ 0 (ev (SL w) adq).x) (ob z k) (cg acc) ⟨loc,(p.d5 T).hp ln,lh,lu⟩) (cg (acc++mh w k T)) ⟨loc,(p.d5 (T.drop k)).hp ln,lh,lu⟩:=λk=>by
 induction k with
 |zero=>exact λz acc T _=>by rw[show acc++mh w 0 T=acc from dj acc];exact Lq
 |succ k ai=>
  intro z acc T dQ
  have i:=ai (z+1) (acc++ [pc w (T.headD 0)]) T.tail (bf (by rw[w0];exact oK ..) dQ)
  rw[h5,bt,show T.tail.drop k=T.drop (k+1) by cases T<;>simp] at i
  refine Lp (σ':=⟨[(0,ab (.f (.int z)))],(p.d5 T.tail).hp ln,lh,lu⟩) (λG K F=> ?_) rfl i
  have I:=lY (l:=oM.map aj.str) rfl (adt w (T.headD 0))
  revert I
  cases w with
  |true=>exact λI=>by exact F _ _ (z0 (p:=p) dQ) aa rfl (by decide) _ I
  |false=>exact λI=>by exact F _ _ (z0 (p:=p) dQ) ac rfl (by decide) _ I
theorem adu (w:Bool) (a:Nat):(pc w a).length<=4:=by
 have h:(Bb 14).all (λi=>gG (oM.getD i []).length 4)=aa:=by decide+kernel
 exact cS (fM.mp h _ (HV.mpr (Fm w a)))
theorem QT (w:Bool) (k:Nat): ∀T:List Nat,(a0 (mh w k T)).length<=4*k:=by
 induction k with
 |zero=>exact λ_=>fw _
 |succ k ai=>
  intro T
  show(pc w (T.headD 0)++a0 (mh w k T.tail)).length<=4*k+4
  rw[bL,kW]
  exact fX (ai _) (adu ..)
noncomputable def m1 (m:Nat):Nat:=1+m/2%3
theorem Fc (m:Nat):1<=m1 m/\m1 m<=3:=⟨gH ..,iX (Nat.le_of_lt_succ (ms _ (by decide))) 1⟩
theorem aaA {T x:List Nat} {m:Nat} (aH:a0 (mh w (m1 m) T)=x) (dQ:T.length<=100) (hm:r.m=cp m):cL w EH (b6 r (p.d5 T) ln R D) (b6 (r.ot x) (p.d5 (T.drop (m1 m))) ln R D):=by
 rw[OG hm,<-aH]
 intro G K F
 have ar:=(Fc m).2
 have Ts: -1000000<=c1 (m1 m)/\c1 (m1 m)<=1000000:=⟨AX (by decide) (kV _),oH.mpr (bf ar (by decide))⟩
 have C:=ads (w:=w) (p:=p) (ln:=ln) (loc:=(r.eC m).loc) (lh:= [(101,.list (cg R)),(102,.list (D.map .f))]) (lu:= [102,101]) (m1 m) 0 [] T dQ
 exact F ⟨by decide,by decide⟩ (by decide) Ts _ _ C _ (GZ _) _ (Qm _) (bf (QT w (m1 m) T) (bf (tX 4 ar) (by decide)))
end
noncomputable def c3 (e:List Nat) (b:Bool):List (List Nat):=cond b [[46,46,46]++e] []
def l0 (e:List Nat):Option Nat->List (List Nat)
 |none=> []
 |some d=> [vU d++e]
def gA (e:List Nat):eJ->List (List Nat)
 | .no=> []
 | .one=> [eG [33,101,33] [33,120]++e]
 | .two=> [eG [33] [33,121]++e,eG [33,101,33] [116]++e]
noncomputable def pd (f:Bool) (v:aj):List aj:=cond f [] [v]
noncomputable def gL (b:Bool):List Nat:=cond b [45,45,45,32] []
section
variable {w:Bool} {r:bB} {p:aF} {ln:Nat} {R:List (List Nat)} {D:List aj} {e:List Nat} {nn:Nat}
theorem EN (v:aj):b6 r p ln R (D++ [v])=⟨r.loc,p.hp ln,[(101,.list (cg R)),(102,.list (D.map .f++ [.f v]))],[102,101]⟩:=
 congrArg (λl=> (⟨r.loc,p.hp ln,[(101,.list (cg R)),(102,.list l)],[102,101]⟩:St)) lE
theorem s6 (S:List (List Nat)):b6 r p ln (R++S) D=⟨r.loc,p.hp ln,[(101,.list (cg R++cg S)),(102,.list (D.map .f))],[102,101]⟩:=
 congrArg (λl=> (⟨r.loc,p.hp ln,[(101,.list l),(102,.list (D.map .f))],[102,101]⟩:St)) (h5 R S)
theorem vV (h:D.length<=1000):cn (D.map ae.f)=aa:=f3 (by rw[eg];exact bf h (by decide))
theorem l9 (h:R.length<=1000):cn (cg R)=aa:=f3 (by rw[lO];exact bf h (by decide))
theorem aam {f c h t:Bool} (k:fg r e nn) (bj:r.i=cp (sO f)) (aD:r.clo=cI c) (cy:r.dq=cI h) (cj:r.ee=cI t) (dI:D.length<=1000):cL w OB (b6 r p ln R D) (b6 r p ln R (D++pd f (fJ (c|| (h&&t))))):=by
 rw[k.eq,MF (r:=r.cz e nn) bj,uI (r:=(r.cz e nn).tl _) aD,yG (r:=((r.cz e nn).tl _).sc _) cy,mN (r:=(((r.cz e nn).tl _).sc _).dX _) cj]
 intro G K F
 have s:=vV dI
 cases f with
 |true=>
  rw[show D++pd aa (fJ (c|| (h&&t)))=D from dj D]
  exact F ac rfl
 |false=>
  rw[show pd ac (fJ (c|| (h&&t)))= [fJ (c|| (h&&t))] from rfl,EN]
  cases c with
  |true=>exact F aa rfl aa rfl s
  |false=>cases h with
   |true=>exact F aa rfl ac rfl aa rfl s
   |false=>exact F aa rfl ac rfl ac rfl s
theorem C5 (aA:e.length<=10):([46,46,46]++e).length<=16777216:=bf (fi bL) (bf (iX aA 3) (by decide))
theorem Z9 {h t:Bool} (k:fg r e nn) (cy:r.dq=cI h) (cj:r.ee=cI t) (aA:e.length<=10) (eK:R.length<=1000):cL w Oq (b6 r p ln R D) (b6 r p ln (R++c3 e (h&&t)) D):=by
 rw[s6,k.eq,yG (r:=r.cz e nn) cy,mN (r:=(r.cz e nn).dX _) cj]
 intro G K F
 have s:=l9 eK
 cases h with
 |false=>
  rw[show cg R++cg (c3 e (ac&&t))=cg R from dj _]
  exact F ac rfl
 |true=>cases t with
  |false=>
   rw[show cg R++cg (c3 e (aa&&ac))=cg R from dj _]
   exact F aa rfl ac rfl
  |true=>exact F aa rfl aa rfl (C5 aA) s
theorem aaa {v:Option Nat} (aW: ∀d,v=ab d->d<12) (k:fg r e nn) (DR:r.iU=ab (.f (c4 v))) (aA:e.length<=10) (eK:R.length<=1000):cL w Ot (b6 r p ln R D) (b6 r p ln (R++l0 e v) D):=by
 rw[s6,k.eq,AD (r:=r.cz e nn) DR]
 intro G K F
 have s:=l9 eK
 cases v with
 |none=>
  rw[show cg R++cg (l0 e af)=cg R from dj _]
  exact F ac rfl
 |some d=>
  have l1:([37,89,65,77,76,32,49,46]++dv d).length<=10:=by rw[bL];exact iX (yd d) 8
  have e3:([37,89,65,77,76,32,49,46]++dv d++e).length<=20:=by rw[bL];exact fX l1 aA
  exact F aa rfl _ rfl (Bg (aW d rfl) (by decide)) (bf l1 (by decide)) (bf e3 (by decide)) s
def Nr:S:=match zl with
 | .ite _ (.cons (.fr _ _ b) _) _=>b
 |_=> .nil
def zc (r:bB) (e:List Nat) (nn:Nat) (t:eJ) (o:Option ae) (p:aF) (ln:Nat) (R:List (List Nat)) (D:List aj):St:=b6 (((r.cz e nn).st t.bI).v5 o) p ln R D
theorem D8 {t:eJ} {o:Option ae} {h z:List Nat} (cH:(h= [33]/\z= [33,121])\/(h= [33,101,33]/\(z= [33,120]\/z= [116]))) (aA:e.length<=10) (eK:R.length<=1000) (bj: ∀σ,mV (.f t.bI) (.f (.str h)) σ=ab (.f (.str z))) {l:List ae} {wD:cE} {σ':St}
  (k:aJ (gX 87 (bN (SL w) Nr) l (zc r e nn t (ab (.f (.str h))) p ln (R++ [eG h z++e]) D)) wD σ'):aJ (gX 87 (bN (SL w) Nr) (.f (.str h)::l) (zc r e nn t o p ln R D)) wD σ':=by
 have s:=l9 eK
 refine la (σ:=zc r e nn t o p ln R D) ?_ k
 unfold zc
 rw[s6]
 have L: ∀u:List Nat,u.length<=20->(u++e).length<=16777216:=λu h=>by rw[bL];exact bf (fX h aA) (by decide)
 have L:=L (eG h z)
 rcases cH with⟨rfl,rfl⟩ | ⟨rfl,rfl|rfl⟩
 ·exact gU λ_ _ F k=>F (cS rfl) (cS rfl) _ (bj _) (cS rfl) (L (by decide)) s k
 ·exact gU λ_ _ F k=>F (cS rfl) (cS rfl) _ (bj _) (cS rfl) (L (by decide)) s k
 ·exact gU λ_ _ F k=>F (cS rfl) (cS rfl) _ (bj _) (cS rfl) (L (by decide)) s k
theorem aab {t:eJ} (k:fg r e nn) (cj:r.tag=ab (.f t.bI)) (aA:e.length<=10) (eK:R.length<=900): ∃o,cL w zl (b6 r p ln R D) (b6 (r.v5 o) p ln (R++gA e t) D):=by
 rw[k.eq,Ae (r:=r.cz e nn) cj]
 cases t with
 |no=>
  refine⟨r.ey,λG K F=> ?_⟩
  rw[show R++gA e .no=R from dj R]
  exact F ac rfl
 |one=>
  have L:=D8 (w:=w) (r:=r) (nn:=nn) (p:=p) (ln:=ln) (D:=D) (t:= .one) (o:=r.ey) (cW ⟨rfl,d7 rfl⟩) aA (bf eK (by decide)) (λ_=>rfl) lc
  refine⟨ab (.f (.str [33,101,33])),λG K F=> ?_⟩
  exact F aa rfl rfl _ _ L
 |two=>
  have L:=D8 (w:=w) (r:=r) (nn:=nn) (p:=p) (ln:=ln) (D:=D) (t:= .two) (o:=r.ey) (d7 ⟨rfl,rfl⟩) aA (bf eK (by decide)) (λ_=>rfl) (D8 (cW ⟨rfl,cW rfl⟩) aA (by rw[bL];exact fX eK (by decide:1<=100)) (λ_=>rfl) lc)
  refine⟨ab (.f (.str [33,101,33])),λG K F=> ?_⟩
  rw[show R++gA e .two=(R++ [eG [33] [33,121]++e])++ [eG [33,101,33] [116]++e] from(bt R [_] [_]).symm]
  exact F aa rfl rfl _ _ L
theorem aac {x:List Nat} (aW:r.val=ab (.f (.str x))) (aH:x.length<=1000):cL w EA (b6 r p ln R D) (b6 (r.aK ((b8 [] x).map da)) p ln R D):=by
 rw[G8 aW]
 intro G K F
 exact F _ _ (afu aH)
theorem EM (fold:Bool) (n:Nat) (e:List Nat) (L:List cQ):(eQ fold n e L).length<=2*L.length:=by
 induction L with
 |nil=>exact fj _
 |cons p L ai=>
  obtain ⟨l,d⟩:=p
  show((lk n l++el e d)::(fD fold e l d L++eQ fold n e L)).length<=2*(L.length+1)
  have aH:(fD fold e l d L).length<=1:=by unfold fD;cases hI fold l d L<;>exact cS rfl
  rw[du,bL];omega
theorem aad {s fold:Bool} {q:cQ} {L:List cQ} (k:fg r e nn) (hs:r.dg=cI s) (vh:r.ho=ab (.f (.str [bJ fold]))) (DJ:r.eB=ab (.f (.lst ((q::L).map da)))) (ar:ft nn) (aA:e.length<=10) (lV:vM (q::L)) (d9:(q::L).length<=1000) (eK:R.length<=1000):
  cL w Ou (b6 r p ln R D) (b6 r p ln (R++gB (gL s) fold nn e (q::L)) D):=by
 have e1:cg (gB (gL s) fold nn e (q::L))=((gB (gL s) fold nn e (q::L)).map aj.str).map .f:=(oI ..).symm
 have s1:=l9 eK
 have s2:cn ((gB (gL s) fold nn e (q::L)).map aj.str)=aa:=f3 (by
  rw[eg]
  show(eQ fold nn e (q::L)).length+1<=1000000
  exact bf (iY (bf (EM ..) (tX 2 d9))) (by decide))
 rw[s6,e1,k.eq,PM (r:=r.cz e nn) hs,Hb (r:=(r.cz e nn).ss _) vh,Nt (r:=((r.cz e nn).ss _).rt _) DJ]
 intro G K F
 have T:=λh a=>afO (fold:=fold) (n:=nn) (e:=e) (p:=q) (L:=L) (hp:=p.hp ln) (head:=h) a ar aA lV d9
 cases s with
 |true=>exact F aa rfl _ _ (T [45,45,45,32] (by decide)) ⟨s1,s2⟩
 |false=>exact F ac rfl _ _ (T [] (by decide)) ⟨s1,s2⟩
theorem aae {n:Nat} (ar:r.n=cp n):cL w EB (b6 r p ln R D) (b6 (r.sc (odd (n/2))) p ln R D):=by
 rw[vI ar,show odd (n/2)=decide (c1 (n/2%2)=1) from(x9 (n/2%2) 1).symm]
 intro G K F
 exact F ⟨by decide,by decide⟩ (by decide)
theorem aag {c:Bool} (k:fg r e nn) (aD:r.clo=cI c) (aA:e.length<=10) (eK:R.length<=1000):cL w Ov (b6 r p ln R D) (b6 r p ln (R++c3 e c) D):=by
 rw[s6,k.eq,uI (r:=r.cz e nn) aD]
 intro G K F
 have s:=l9 eK
 cases c with
 |false=>
  rw[show cg R++cg (c3 e ac)=cg R from dj _]
  exact F ac rfl
 |true=>exact F aa rfl (C5 aA) s
theorem aah {s:Bool} {v t:aj} (k:fg r e nn) (hs:r.dg=cI s) (aW:r.iU=ab (.f v)) (cj:r.tag=ab (.f t)) (dI:D.length<=1000):cL w Ow (b6 r p ln R D) (b6 r p ln R (D++ [kQ s v t])):=by
 rw[EN,k.eq,PM (r:=r.cz e nn) hs,AD (r:=(r.cz e nn).ss _) aW,Ae (r:=((r.cz e nn).ss _).a7 _) cj]
 intro G K F
 exact F (vV dI)
theorem aai {x:List Nat} {fold:Bool} (k:fg r e nn) (aW:r.val=ab (.f (.str x))) (hs:r.ho=ab (.f (.str [bJ fold]))) (dI:D.length<=1000):cL w Ox (b6 r p ln R D) (b6 r p ln R (D++ [kp x fold])):=by
 rw[EN,k.eq,G8 (r:=r.cz e nn) aW,Hb (r:=(r.cz e nn).ot _) hs]
 intro G K F
 exact F (vV dI)
theorem aaf {c:Bool} {q:cQ} {L:List cQ} (aD:r.clo=cI c) (DJ:r.eB=ab (.f (.lst ((q::L).map da)))) (Yh:(q::L).length<=1000) (bW: ∀z∈q::L,z.1= []->z.2≠ []):cL w EC (b6 r p ln R D) (b6 (r.dX (!c&&aM (d9 (q::L)) [43])) p ln R D):=by
 rw[uI aD,Nt (r:=r.sc _) DJ]
 intro G K F
 cases c with
 |true=>exact F aa rfl ac rfl
 |false=>
  refine ak (Dy L q) λz h=> ?_
  have cH:=bW z h.1
  have I:=lY (i:= -1) (v:=da z) (f3 (by rw[eg];exact bf Yh (by decide))) h.2.2
  rw[h.2.1]
  obtain ⟨l,d⟩:=z
  rw[show(!ac&&aM (D9 (l,d)) [43])=aM l [] by
   cases l with
   |nil=>cases d with
    |nil=>exact absurd rfl (cH rfl)
    |cons a d=>rfl
   |cons b l=>cases d<;>rfl]
  exact F ac rfl aa rfl _ I _ rfl
end
structure dD where
 b:Bool
 v:Option Nat
 t:eJ
 fold:Bool
 x:List Nat
 c:Bool
def b7 (w:Bool) (T:List Nat):dD:=⟨odd (T.headD 0),wu (T.headD 0),Af (T.headD 0),odd (T.tail.headD 0),a0 (mh w (m1 (T.tail.headD 0)) T.tail.tail),odd (T.headD 0/2)⟩
def fp (T:List Nat):List Nat:=T.tail.tail.drop (m1 (T.tail.headD 0))
def dD.eW (d:dD):Bool:= !g0 d.v d.t
def dD.dg (d:dD) (f:Bool):Bool:= !f|| (d.b||d.eW)
def dD.cJ (d:dD):Bool:=aM (f9 d.x) [43]&& !d.c
def dD.im (d:dD) (f:Bool):Bool:=f&&(!d.b&&g0 d.v d.t)
def e8 (e:List Nat) (n:Nat) (f h:Bool) (d:dD):List (List Nat):=c3 e (h&&d.eW)++(l0 e d.v++(gA e d.t++(gB (gL (d.dg f)) d.fold n e (b8 [] d.x)++c3 e d.c)))
def mQ (e:List Nat) (n:Nat) (f h:Bool) (d:dD):List (List Nat):=nS h e d.v d.t (d.im f) d.fold n d.x++fS e d.c
def jF (f c h:Bool) (d:dD):List aj:=pd f (fJ (c|| (h&&d.eW)))++ [kQ (d.dg f) (c4 d.v) d.t.bI,kp d.x d.fold]
noncomputable def aF.k8 (p:aF) (w:Bool) (e:List Nat) (n:Nat) (h:Bool):aF:={p with dE:=w,lb:=e,dd:=n,dW:=h}
noncomputable def dD.i (d:dD) (f:Bool):kr:=⟨f,d.b,d.v,d.t,d.x,d.fold⟩
section
variable {w:Bool} {r:bB} {p:aF} {ln:Nat} {R:List (List Nat)} {D:List aj} {e:List Nat} {nn:Nat}
theorem aaj {n0:Nat} {v t:aj} (k:fg r e nn) (ar:r.n=cp n0) (aW:r.iU=ab (.f v)) (cj:r.tag=ab (.f t)):cL w Oy (b6 r (p.q []) ln R D) (b6 r (p.q [.f (gV .none .none (odd n0) v t)]) ln R D):=by
 rw[k.eq,vI (r:=r.cz e nn) ar,AD (r:=(r.cz e nn).sn _) aW,Ae (r:=((r.cz e nn).sn _).a7 _) cj,show odd n0=decide (c1 (n0%2)=1) from(x9 (n0%2) 1).symm]
 intro G K F
 exact F (by decide) _ _ (hS rfl rfl) _ _ WZ
theorem aak {i:kr} {fr:Option cc} (k:fg r e nn) (sN:r.val=ab (.f (.str i.x))) (vh:r.ho=ab (.f (.str [bJ i.fold]))) (aW: ∀d,i.v=ab d->d<12) (aH:jz p.dE i.x) (ar:b9 p 400) (h0:ft p.dd):
  ∃bx ff,cL w Oz (b6 r (((p.f0 fr).b0 [.f (gV .none .none i.b (c4 i.v) i.t.bI)]).aQ (lq i.f)) ln R D) (b6 r (p.j3 i fr ff) bx R D):=by
 rw[k.eq,G8 (r:=r.cz e nn) sN,Hb (r:=(r.cz e nn).ot _) vh]
 refine bT (W0 (ln:=ln) (fr:=fr) aW aH ar h0) λbx ff E=> ⟨bx,ff,λG K F=> ?_⟩
 exact F _ _ (hS rfl rfl) _ _ E
theorem aal {c:Bool} (k:fg r e nn) (aD:r.clo=cI c) (ar:b9 p 10): ∃bx,cL w OA (b6 r ((p.b0 []).aQ 451) ln R D) (b6 r ((((p.dP c).b0 []).di .none).aQ 444) bx R D):=by
 rw[k.eq,uI (r:=r.cz e nn) aD]
 refine ak (WX (p:=p) (b:=c) (ln:=ln) ar) λbx E=> ⟨bx,λG K F=> ?_⟩
 exact F _ _ (hS rfl rfl) _ _ E
end
theorem adi {dE:Bool} {y:List Nat} (cP:ji dE ac y): ∀(x:List Nat) (ei:Bool),ji dE ei x->ji dE ei (x++y):=λx=>by
 induction x with
 |nil=>exact λei h=>by rw[show ei=ac from h];exact cP
 |cons c x ai=>exact λei h=> ⟨h.1,h.2.1,h.2.2.1,ai _ h.2.2.2⟩
noncomputable def Ff (dE:Bool):Bool->List Nat->Bool
 |ei,[]=> !ei
 |ei,c::r=>mg.contains c&&((gG c 126||dE)&&((!bO [c] dA|| !ei)&&Ff dE (aM [c] [32]) r))
theorem adk {dE:Bool}: ∀(x:List Nat) (ei:Bool),Ff dE ei x=aa->ji dE ei x:=λx=>by
 induction x with
 |nil=>exact λei h=> (oE ei).mp h
 |cons c r ai=>
  intro ei h
  have h:=fW.mp h
  have aC:=fW.mp h.2
  have bu:=fW.mp aC.2
  refine⟨rT.mp h.1,λaD=> (rK.mp aC.1).resolve_left λg=>absurd (cS g) (H4 aD),λag=> ?_,ai _ bu.2⟩
  have bu:=bu.1
  rw[ag] at bu
  exact(oE ei).mp bu
def va (x:List Nat):Bool:=match x with
 | []=>ac
 |a::be=> !aM [a] [58]&&(!aM [a] [45] || (match be with
  | []=>ac
  |b::_=>aM [b] [45]))
theorem adv:(Bb 14).all (λi=>Ff (gG 12 i) ac (oM.getD i [])&&va (oM.getD i []))=aa:=by decide+kernel
theorem adj {dE JA:Bool} (h:dE=aa->JA=aa): ∀(x:List Nat) (ei:Bool),ji dE ei x->ji JA ei x:=λx=>by
 induction x with
 |nil=>exact λ_ h=>h
 |cons c x ai=>exact λei k=> ⟨k.1,λq=>h (k.2.1 q),k.2.2.1,ai _ k.2.2.2⟩
theorem Pn (w:Bool) (a:Nat):ji w ac (pc w a)/\va (pc w a)=aa:=by
 have h:=fW.mp (fM.mp adv _ (HV.mpr (Fm w a)))
 refine⟨adj (λg=> ?_) _ _ (adk _ _ h.1),h.2⟩
 cases w with
 |true=>rfl
 |false=>exact absurd (cS g) (H4 (ms a (by decide:12>0)))
theorem Yt {x y:List Nat} (h:va x=aa):va (x++y)=aa:=by
 cases x with
 |nil=>exact nomatch h
 |cons a x=>cases x with
  |nil=>
   have h:(!aM [a] [58]&&(!aM [a] [45] ||false))=aa:=h
   rw[rL] at h
   have h:=fW.mp h
   cases y with
   |nil=>exact fW.mpr ⟨h.1,rK.mpr (d7 h.2)⟩
   |cons b y=>exact fW.mpr ⟨h.1,rK.mpr (d7 h.2)⟩
  |cons b x=>exact h
theorem aid (w:Bool) (k:Nat): ∀T:List Nat,ji w ac (a0 (mh w k T)):=by
 induction k with
 |zero=>exact λ_=>rfl
 |succ k ai=>exact λT=>adi (ai T.tail) _ _ (Pn w _).1
theorem aih (w:Bool) (k:Nat) (T:List Nat) (ap:1<=k) (bu:k<=3):jz w (a0 (mh w k T)):=by
 refine⟨?_,aid w k T,bf (QT w k T) (tX 4 bu)⟩
 cases k with
 |zero=>exact absurd ap (Nat.not_succ_le_zero 0)
 |succ k=>
  have h:va (a0 (mh w (k+1) T))=aa:=Yt (Pn w (T.headD 0)).2
  revert h
  generalize a0 (mh w (k+1) T)=x
  intro h
  cases x with
  |nil=>exact nomatch h
  |cons a be=>
   have h:=fW.mp h
   refine⟨a,be,rfl,λe=> ?_,λe=> ?_⟩
   ·rw[e] at h;exact nomatch h.1
   ·rw[e] at h
    have h:=h.2
    cases be with
    |nil=>exact nomatch h
    |cons b r=>exact⟨r,by rw[(gw (gM.mp (show aM [b] [45]=aa from h))).1]⟩
theorem zK {dE:Bool}: ∀(x:List Nat) (ei:Bool),ji dE ei x-> ∀c∈x,c∈mg:=λx=>by
 induction x with
 |nil=>exact λ_ _ _ h=>nomatch h
 |cons c r ai=>exact λei h d hd=> (e6.mp hd).elim (λe=>e▸h.1) λhd=>ai _ h.2.2.2 d hd
theorem G3 {c:Nat} (h:c∈mg):rb c:=beq_iff_eq.mp (tH (q:=λc=>bO [c] dA==ea c) (by decide) h)
theorem QR {c:Nat} (h:c∈mg):ea c=aa\/(¬c∈kB/\c≠9):=by
 refine(rK.mp (tH (q:=λc=>ea c|| (!kB.contains c&& !aM [c] [9])) (by decide) h)).imp id λh=> ?_
 have h:=fW.mp h
 refine⟨λm=> ?_,λe=> ?_⟩
 ·have:=h.1;rw[rT.mpr m] at this;exact nomatch this
 ·have:=h.2;rw[e] at this;exact nomatch this
theorem NQ: ∀r l:List Nat,l.length+r.length<=1000->vM (b8 l r):=λr=>by
 induction r with
 |nil=>
  intro l h
  cases l with
  |nil=>exact λp h=>nomatch h
  |cons a l=>exact λp hp=>by rw[jU.mp hp];exact⟨h,fw _⟩
 |cons c r ai=>
  intro l h
  rw[du] at h
  rcases cK (ea c) with ag|ag
  ·rw[jd ag]
   refine λp hp=> (e6.mp hp).elim (λe=> ?_) (ai [] (by rw[eY];omega) p)
   rw[e]
   exact⟨bf (gH ..) h,(by decide:1<=10)⟩
  ·rw[iL ag]
   exact ai (l++ [c]) (by rw[bL,du,eY];omega)
theorem jE {b:Bool} {x y:List (List Nat)} {n:Nat} (aH:x.length<=n) (cP:y.length<=n):(cond b x y).length<=n:=by cases b;exact cP;exact aH
theorem abe {e ind:List Nat}: ∀(r l:List Nat) (b:Bool),(ia e ind b l r).length<=l.length+2*r.length+2:=λr=>by
 induction r with
 |nil=>exact λl b=>jE (bf (fi (eg _)) (gH _ 2)) (lG 2 _)
 |cons c r ai=>
  intro l b
  have aC:=λb=>ai (l++ [c]) b
  have bu:=λb=>ai [c] b
  have hm:(l.map (fm e)).length=l.length:=eg _
  simp only[bL,du,eY] at aC bu⊢
  refine jE (jE ?_ ?_) (jE ?_ ?_)
  ·have:=aC aa;omega
  ·have:=bu ac;rw[bL,du];omega
  ·have:=bu aa;rw[du];omega
  ·have:=aC ac;omega
theorem XC {e ind:List Nat}: ∀(r l:List Nat) (b s ls:Bool),(gq e ind b s ls l r).length<=l.length+3*r.length+3:=λr=>by
 induction r with
 |nil=>exact λl b s ls=>jE (bf (fi (eg _)) (gH _ 3)) (jE (HY (cS rfl)) (HY (cS rfl)))
 |cons c r ai=>
  intro l b s ls
  have aC:=ai (l++ [c]) (bO [c] dA) (aM [c] [32]) ls
  have bu:=λls=>ai [c] (bO [c] dA) (aM [c] [32]) ls
  have d8:(sx e l ls c).length<=1:=jE (fj 1) (fw 1)
  have hm:(l.map (fm e)).length=l.length:=eg _
  simp only[bL,du,eY] at aC bu⊢
  have g2:(gq e ind (bO [c] dA) (aM [c] [32]) ls (l++ [c]) r).length<=l.length+3*(r.length+1)+3:=by omega
  have g3:(l::gq e ind (bO [c] dA) (aM [c] [32]) ls [c] r).length<=l.length+3*(r.length+1)+3:=by have:=bu ls;rw[du];omega
  refine jE (jE g2 ?_) (jE (jE g2 g3) (jE g3 g2))
  have:=bu (aM [c] [32])
  rw[bL,bL,du];omega
theorem LK {dW:Bool} {e:List Nat} {v:Option Nat} {t:eJ} {im fold:Bool} {n:Nat} {x:List Nat} (aH:x.length<=12):(nS dW e v t im fold n x).length<=60:=by
 have ap:=Mt dW e v t
 have aC:(uT im).length<=1:=jE (fw 1) (fj 1)
 have bu:(yl fold e n x).length<=40:=jE (bf (XC x [] aa ac aa) (by rw[eY];omega)) (bf (abe x [] aa) (by rw[eY];omega))
 unfold nS kk
 rw[bL,bL,du,du];omega
theorem WW {fold:Bool} {e:List Nat} {n:Nat} {x:List Nat} (aD: ∀c∈x,rb c) (hs:ra x):a0 (yl fold e n x)=a0 (eQ fold n e (b8 [] x)):=by
 cases fold with
 |false=>exact(abf (e:=e) (n:=n) x [] aD).1
 |true=>exact(XD (e:=e) (n:=n) x aD hs).1 ac aa [] λ_=>rfl
theorem Ei (e:List Nat) (b:Bool):a0 (c3 e b)=a0 (fS e b):=by
 cases b with
 |true=>show([46,46,46]++e)++ []= [46,46,46]++(e++ []);rw[bt]
 |false=>rfl
theorem abK (e:List Nat) (v:Option Nat):a0 (l0 e v)=a0 (jo e v):=by
 cases v with
 |none=>rfl
 |some d=>exact bt (vU d) e []
theorem abI (e:List Nat) (t:eJ):a0 (gA e t)=a0 (ko e t):=by
 cases t with
 |no=>rfl
 |one=>exact bt (eG [33,101,33] [33,120]) e []
 |two=>exact(bt (eG [33] [33,121]) e _).trans (congrArg (λz=>eG [33] [33,121]++(e++z)) (bt (eG [33,101,33] [116]) e []))
theorem vd {n:Nat} {x:List Nat} {w:Bool} (aH:jz w x):je n (b8 [] x)=dI n x/\d9 (b8 [] x)=f9 x:=bT aH.hd λa be h=>by
 have u9:=λc aD=>G3 (zK _ _ aH.ok c aD)
 rw[h.1] at u9⊢
 exact⟨(Ml (u9 a et)).symm,by rw[Dx u9,Mn];rfl⟩
theorem Dh {e:List Nat} {n:Nat} {f h:Bool} {d:dD} {w:Bool} (aH:jz w d.x):a0 (mQ e n f h d)=a0 (e8 e n f h d):=by
 have H:=vd (n:=n) aH
 have u9:=λc aD=>G3 (zK _ _ aH.ok c aD)
 have YC: ∀b:Bool,d.im f=b->d.dg f= !b:=λb ag=>by
  rw[<-ag]
  unfold dD.im dD.dg dD.eW
  cases f<;>cases d.b<;>cases g0 d.v d.t<;>rfl
 have E:=WW (fold:=d.fold) (e:=e) (n:=n) u9 (Pj _ _ aH.ok)
 have A: ∀b,d.im f=b->a0 (uT b++kk b d.fold e n d.x)=a0 (gB (gL (!b)) d.fold n e (b8 [] d.x)):=λb _=>by
  show a0 (uT b++(mU b (bJ d.fold::(dI n d.x++f9 d.x))::e::yl d.fold e n d.x))=(gL (!b)++([bJ d.fold]++(je n (b8 [] d.x)++d9 (b8 [] d.x)))++e)++a0 (eQ d.fold n e (b8 [] d.x))
  rw[H.1,H.2,<-E,dG,bt,bt]
  cases b with
  |true=>rfl
  |false=>rfl
 show a0 ((ps h e d.v d.t++(uT (d.im f)++kk (d.im f) d.fold e n d.x))++fS e d.c)=a0 (c3 e (h&&d.eW)++(l0 e d.v++(gA e d.t++(gB (gL (d.dg f)) d.fold n e (b8 [] d.x)++c3 e d.c))))
 rw[YC _ rfl,dG,dG,A _ rfl]
 show(a0 (fS e (h&&d.eW)++(jo e d.v++ko e d.t))++_)++_=_
 rw[dG,dG,dG,dG,dG,dG,Ei,Ei,abK,abI,bt,bt,bt]
def OC (s:S):S:= .cons Ez (.cons ED (.cons EE (.cons EF (.cons EG (.cons EH (.cons EI (.cons EJ (.cons OB (.cons Oq (.cons Ot s))))))))))
def OD (s:S):S:= .cons zl (.cons EA (.cons Ou (.cons EB (.cons EC (.cons Ov (.cons Ow (.cons Ox s)))))))
def EL:S:= .cons Oy (.cons Oz (.cons OA .nil))
def EK:S:=OC (OD EL)
theorem zh (e:List Nat) (b:Bool):(c3 e b).length<=1:=jE (fj 1) (fw 1)
theorem Oo (e:List Nat) (v:Option Nat):(l0 e v).length<=1:=by cases v;exact fw 1;exact fj 1
theorem N7 (e:List Nat) (t:eJ):(gA e t).length<=2:=by cases t<;>exact cS rfl
theorem cL.hn {w:Bool} {a b:S} {σ σ₁ Q9:St} (ap:cL w a σ σ₁) (aC:cL w b σ₁ Q9):cL w (.cons a b) σ Q9:=λG K F=>aC G K (ap G (FP (λσ=>bN (SL w) b σ K) K) F)
theorem cL.nil {w:Bool} {σ:St}:cL w .nil σ σ:=λ_ _ F=>F
section
variable {w:Bool} {r:bB} {p:aF} {ln:Nat} {R:List (List Nat)} {D:List aj} {e:List Nat} {nn:Nat}
def aF.k6 (p:aF) (d:dD) (f:Bool) (fr:Option cc) (ff:List (List Nat)×List ae):aF:=((((p.j3 (d.i f) fr ff).dP d.c).b0 []).di .none).aQ 444
theorem VI {d:dD} {f:Bool} {n0:Nat} {fr:Option cc} (k:fg r e nn) (ag:d.b=odd n0) (ar:r.n=cp n0) (DR:r.iU=ab (.f (c4 d.v))) (cj:r.tag=ab (.f d.t.bI)) (sN:r.val=ab (.f (.str d.x))) (vh:r.ho=ab (.f (.str [bJ d.fold]))) (aD:r.clo=cI d.c) (aW: ∀y,d.v=ab y->y<12) (aH:jz p.dE d.x) (bW:b9 p 500) (h0:ft p.dd):
  ∃bx ff,cL w EL (b6 r (((p.f0 fr).b0 []).aQ (lq f)) ln R D) (b6 r (p.k6 d f fr ff) bx R D):=by
 refine bT (aak (w:=w) (r:=r) (p:=p) (ln:=ln) (R:=R) (D:=D) (i:=d.i f) (fr:=fr) k sN vh aW aH (bW.le (by decide)) h0) λl1 ff TH=> ?_
 have Tt:b9 (p.j3 (d.i f) fr ff) 10:=b9.o (p:=p) (nS p.dW p.lb d.v d.t (d.im f) d.fold p.dd d.x) rfl (bW.le (bf (h2 (LK aH.le) 10) (by decide)))
 refine ak (aal (w:=w) (r:=r) (p:=p.j3 (d.i f) fr ff) (ln:=l1) (R:=R) (D:=D) k aD Tt) λe3 TJ=> ⟨e3,ff, ?_⟩
 have I5:=aaj (w:=w) (r:=r) (p:=((p.f0 fr).b0 []).aQ (lq f)) (ln:=ln) (R:=R) (D:=D) k ar DR cj
 rw[<-ag] at I5
 exact I5.hn (TH.hn (TJ.hn cL.nil))
noncomputable def bB.u (r:bB) (n m v t y x d s h l c g:Option ae):bB:={r with n:=n,m:=m,iU:=v,tag:=t,ho:=y,val:=x,ee:=d,dg:=s,ey:=h,eB:=l,clo:=c,dq:=g}
theorem fg.u {n m v t y x d s h l c g:Option ae} (k:fg r e nn):fg (r.u n m v t y x d s h l c g) e nn:=⟨k.bV,k.ie,k.jG,k.row,k.j2⟩
theorem FX {T:List Nat} {n:Nat} (h:T.length<=n):T.tail.length<=n:=bf (by rw[w0];exact oK ..) h
theorem eo.le (h:eo e):e.length<=10:=by rcases h with rfl|rfl|rfl<;>decide
theorem VG {T:List Nat} {f c h:Bool} {d:dD} (k:fg r e nn) (bj:r.i=cp (sO f)) (aD:r.clo=cI c) (cy:r.dq=cI h) (aA:e.length<=10) (dQ:T.length<=100) (eK:R.length<=100) (dI:D.length<=100) (hd:b7 w T=d) {s:S} {σ:St}
  (t:cL w s (b6 (r.u (cp (T.headD 0)) (cp (T.tail.headD 0)) (ab (.f (c4 d.v))) (ab (.f d.t.bI)) (ab (.f (.str [bJ d.fold]))) (ab (.f (.str d.x))) (cI d.eW) (cI (d.dg f)) r.ey r.eB r.clo r.dq) (p.d5 (fp T)) ln ((R++c3 e (h&&d.eW))++l0 e d.v) (D++pd f (fJ (c|| (h&&d.eW))))) σ):cL w (OC s) (b6 r (p.d5 T) ln R D) σ:=by
 rw[<-hd] at t
 have lL:cL w Ez (b6 r (p.d5 T) ln R D) (b6 (r.u (cp (T.headD 0)) r.m r.iU r.tag r.ho r.val r.ee r.dg r.ey r.eB r.clo r.dq) (p.d5 T.tail) ln R D):=aav (r:=r) dQ
 have mD:cL w ED (b6 (r.u (cp (T.headD 0)) r.m r.iU r.tag r.ho r.val r.ee r.dg r.ey r.eB r.clo r.dq) (p.d5 T.tail) ln R D) (b6 (r.u (cp (T.headD 0)) (cp (T.tail.headD 0)) r.iU r.tag r.ho r.val r.ee r.dg r.ey r.eB r.clo r.dq) (p.d5 T.tail.tail) ln R D):=aau (r:=(r.u (cp (T.headD 0)) r.m r.iU r.tag r.ho r.val r.ee r.dg r.ey r.eB r.clo r.dq)) (FX dQ)
 have qk:cL w EE (b6 (r.u (cp (T.headD 0)) (cp (T.tail.headD 0)) r.iU r.tag r.ho r.val r.ee r.dg r.ey r.eB r.clo r.dq) (p.d5 T.tail.tail) ln R D) (b6 (r.u (cp (T.headD 0)) (cp (T.tail.headD 0)) (ab (.f (c4 (b7 w T).v))) r.tag r.ho r.val r.ee r.dg r.ey r.eB r.clo r.dq) (p.d5 T.tail.tail) ln R D):=aaB (r:=(r.u (cp (T.headD 0)) (cp (T.tail.headD 0)) r.iU r.tag r.ho r.val r.ee r.dg r.ey r.eB r.clo r.dq)) rfl
 have oY:cL w EF (b6 (r.u (cp (T.headD 0)) (cp (T.tail.headD 0)) (ab (.f (c4 (b7 w T).v))) r.tag r.ho r.val r.ee r.dg r.ey r.eB r.clo r.dq) (p.d5 T.tail.tail) ln R D) (b6 (r.u (cp (T.headD 0)) (cp (T.tail.headD 0)) (ab (.f (c4 (b7 w T).v))) (ab (.f (b7 w T).t.bI)) r.ho r.val r.ee r.dg r.ey r.eB r.clo r.dq) (p.d5 T.tail.tail) ln R D):=aay (r:=(r.u (cp (T.headD 0)) (cp (T.tail.headD 0)) (ab (.f (c4 (b7 w T).v))) r.tag r.ho r.val r.ee r.dg r.ey r.eB r.clo r.dq)) (n:=T.headD 0) rfl
 have xw:cL w EG (b6 (r.u (cp (T.headD 0)) (cp (T.tail.headD 0)) (ab (.f (c4 (b7 w T).v))) (ab (.f (b7 w T).t.bI)) r.ho r.val r.ee r.dg r.ey r.eB r.clo r.dq) (p.d5 T.tail.tail) ln R D) (b6 (r.u (cp (T.headD 0)) (cp (T.tail.headD 0)) (ab (.f (c4 (b7 w T).v))) (ab (.f (b7 w T).t.bI)) (ab (.f (.str [bJ (b7 w T).fold]))) r.val r.ee r.dg r.ey r.eB r.clo r.dq) (p.d5 T.tail.tail) ln R D):=aax (r:=(r.u (cp (T.headD 0)) (cp (T.tail.headD 0)) (ab (.f (c4 (b7 w T).v))) (ab (.f (b7 w T).t.bI)) r.ho r.val r.ee r.dg r.ey r.eB r.clo r.dq)) (m:=T.tail.headD 0) rfl
 have B1:cL w EH (b6 (r.u (cp (T.headD 0)) (cp (T.tail.headD 0)) (ab (.f (c4 (b7 w T).v))) (ab (.f (b7 w T).t.bI)) (ab (.f (.str [bJ (b7 w T).fold]))) r.val r.ee r.dg r.ey r.eB r.clo r.dq) (p.d5 T.tail.tail) ln R D) (b6 (r.u (cp (T.headD 0)) (cp (T.tail.headD 0)) (ab (.f (c4 (b7 w T).v))) (ab (.f (b7 w T).t.bI)) (ab (.f (.str [bJ (b7 w T).fold]))) (ab (.f (.str (b7 w T).x))) r.ee r.dg r.ey r.eB r.clo r.dq) (p.d5 (fp T)) ln R D):=aaA (r:=(r.u (cp (T.headD 0)) (cp (T.tail.headD 0)) (ab (.f (c4 (b7 w T).v))) (ab (.f (b7 w T).t.bI)) (ab (.f (.str [bJ (b7 w T).fold]))) r.val r.ee r.dg r.ey r.eB r.clo r.dq)) (T:=T.tail.tail) (m:=T.tail.headD 0) rfl (FX (FX dQ)) rfl
 have TK:cL w EI (b6 (r.u (cp (T.headD 0)) (cp (T.tail.headD 0)) (ab (.f (c4 (b7 w T).v))) (ab (.f (b7 w T).t.bI)) (ab (.f (.str [bJ (b7 w T).fold]))) (ab (.f (.str (b7 w T).x))) r.ee r.dg r.ey r.eB r.clo r.dq) (p.d5 (fp T)) ln R D) (b6 (r.u (cp (T.headD 0)) (cp (T.tail.headD 0)) (ab (.f (c4 (b7 w T).v))) (ab (.f (b7 w T).t.bI)) (ab (.f (.str [bJ (b7 w T).fold]))) (ab (.f (.str (b7 w T).x))) (cI (b7 w T).eW) r.dg r.ey r.eB r.clo r.dq) (p.d5 (fp T)) ln R D):=aaz (r:=(r.u (cp (T.headD 0)) (cp (T.tail.headD 0)) (ab (.f (c4 (b7 w T).v))) (ab (.f (b7 w T).t.bI)) (ab (.f (.str [bJ (b7 w T).fold]))) (ab (.f (.str (b7 w T).x))) r.ee r.dg r.ey r.eB r.clo r.dq)) (v:=(b7 w T).v) (t:=(b7 w T).t) rfl rfl
 have TL:cL w EJ (b6 (r.u (cp (T.headD 0)) (cp (T.tail.headD 0)) (ab (.f (c4 (b7 w T).v))) (ab (.f (b7 w T).t.bI)) (ab (.f (.str [bJ (b7 w T).fold]))) (ab (.f (.str (b7 w T).x))) (cI (b7 w T).eW) r.dg r.ey r.eB r.clo r.dq) (p.d5 (fp T)) ln R D) (b6 (r.u (cp (T.headD 0)) (cp (T.tail.headD 0)) (ab (.f (c4 (b7 w T).v))) (ab (.f (b7 w T).t.bI)) (ab (.f (.str [bJ (b7 w T).fold]))) (ab (.f (.str (b7 w T).x))) (cI (b7 w T).eW) (cI ((b7 w T).dg f)) r.ey r.eB r.clo r.dq) (p.d5 (fp T)) ln R D):=aaw (r:=(r.u (cp (T.headD 0)) (cp (T.tail.headD 0)) (ab (.f (c4 (b7 w T).v))) (ab (.f (b7 w T).t.bI)) (ab (.f (.str [bJ (b7 w T).fold]))) (ab (.f (.str (b7 w T).x))) (cI (b7 w T).eW) r.dg r.ey r.eB r.clo r.dq)) (f:=f) (n:=T.headD 0) (b:=(b7 w T).eW) bj rfl rfl
 have TM:=aam (w:=w) (r:=(r.u (cp (T.headD 0)) (cp (T.tail.headD 0)) (ab (.f (c4 (b7 w T).v))) (ab (.f (b7 w T).t.bI)) (ab (.f (.str [bJ (b7 w T).fold]))) (ab (.f (.str (b7 w T).x))) (cI (b7 w T).eW) (cI ((b7 w T).dg f)) r.ey r.eB r.clo r.dq)) (p:=(p.d5 (fp T))) (ln:=ln) (R:=R) (D:=D) k.u bj aD cy rfl (bf dI (by decide))
 have Tw:=λD=>Z9 (w:=w) (r:=(r.u (cp (T.headD 0)) (cp (T.tail.headD 0)) (ab (.f (c4 (b7 w T).v))) (ab (.f (b7 w T).t.bI)) (ab (.f (.str [bJ (b7 w T).fold]))) (ab (.f (.str (b7 w T).x))) (cI (b7 w T).eW) (cI ((b7 w T).dg f)) r.ey r.eB r.clo r.dq)) (p:=(p.d5 (fp T))) (ln:=ln) (R:=R) (D:=D) k.u cy rfl aA (bf eK (by decide))
 have Tz:=λD=>aaa (w:=w) (r:=(r.u (cp (T.headD 0)) (cp (T.tail.headD 0)) (ab (.f (c4 (b7 w T).v))) (ab (.f (b7 w T).t.bI)) (ab (.f (.str [bJ (b7 w T).fold]))) (ab (.f (.str (b7 w T).x))) (cI (b7 w T).eW) (cI ((b7 w T).dg f)) r.ey r.eB r.clo r.dq)) (p:=(p.d5 (fp T))) (ln:=ln) (R:=R++c3 e (h&&(b7 w T).eW)) (D:=D) (v:=(b7 w T).v) (λ_ h=>QU h) k.u rfl aA (by rw[bL];exact bf (fX eK (zh ..)) (by decide))
 exact lL.hn (mD.hn (qk.hn (oY.hn (xw.hn (B1.hn (TK.hn (TL.hn (TM.hn ((Tw _).hn ((Tz _).hn t))))))))))
theorem hj.lst (M:List cQ):hj M-> ∀z∈M,z.1= []->z.2≠ []:=by
 induction M with
 |nil=>exact λ_ z cH=>nomatch cH
 |cons p M ai=>
  intro mR z cH he
  rcases e6.mp cH with e|cH
  ·rw[e] at he⊢
   exact λg=> (mR.ds (d7 he)).elim (λh=>nomatch g.symm.trans h) λh=>nomatch g.symm.trans h
  ·exact ai mR.aO z cH he
theorem VH {n:Nat} {d:dD} {sa:Bool} (k:fg r e nn) (ar:r.n=cp n) (Yw:d.c=odd (n/2)) (aH:jz w d.x) (h0:ft nn) (aA:e.length<=10) (eK:R.length<=200) (dI:D.length<=200) {s:S} {ι:Type} {σ:Option ae->ι->St}
  (t: ∀o,∃i,cL w s (b6 (r.u r.n r.m (ab (.f (c4 d.v))) (ab (.f d.t.bI)) (ab (.f (.str [bJ d.fold]))) (ab (.f (.str d.x))) r.ee (cI sa) o (ab (.f (.lst ((b8 [] d.x).map da)))) (cI d.c) (cI d.cJ)) p ln (((R++gA e d.t)++gB (gL sa) d.fold nn e (b8 [] d.x))++c3 e d.c) ((D++ [kQ sa (c4 d.v) d.t.bI])++ [kp d.x d.fold])) (σ o i)): ∃o i,cL w (OD s) (b6 (r.u r.n r.m (ab (.f (c4 d.v))) (ab (.f d.t.bI)) (ab (.f (.str [bJ d.fold]))) (ab (.f (.str d.x))) r.ee (cI sa) r.ey r.eB r.clo r.dq) p ln R D) (σ o i):=by
 refine ak (aab (w:=w) (r:=(r.u r.n r.m (ab (.f (c4 d.v))) (ab (.f d.t.bI)) (ab (.f (.str [bJ d.fold]))) (ab (.f (.str d.x))) r.ee (cI sa) r.ey r.eB r.clo r.dq)) (p:=p) (ln:=ln) (D:=D) (t:=d.t) k.u rfl aA (bf eK (by decide))) λo B0=>ak (t o) λi t=> ⟨o,i, ?_⟩
 have B0:cL w zl (b6 (r.u r.n r.m (ab (.f (c4 d.v))) (ab (.f d.t.bI)) (ab (.f (.str [bJ d.fold]))) (ab (.f (.str d.x))) r.ee (cI sa) r.ey r.eB r.clo r.dq) p ln R D) (b6 (r.u r.n r.m (ab (.f (c4 d.v))) (ab (.f d.t.bI)) (ab (.f (.str [bJ d.fold]))) (ab (.f (.str d.x))) r.ee (cI sa) o r.eB r.clo r.dq) p ln (R++gA e d.t) D):=B0
 refine bT aH.hd λa be Y5=>bT (Eu d.x [] (cW (by rw[Y5.1];exact c9 _ _))) λq L dC=> ?_
 have YJ:=zK _ _ aH.ok
 have lV:=NQ d.x [] (bf (by rw[eY,jt];exact aH.le) (by decide))
 have Dz:(b8 [] d.x).length<=13:=bf (vA d.x []) (iY aH.le)
 have bW:=hj.lst _ (Ph d.x [] (λc aD=>QR (YJ c aD)) nofun)
 have H:=(vd (n:=nn) aH).2
 have b1:(R++gA e d.t).length<=202:=by rw[bL];exact fX eK (N7 ..)
 have ij:(gB (gL sa) d.fold nn e (b8 [] d.x)).length<=27:=iY (bf (EM ..) (tX 2 Dz))
 have TA:cL w EA (b6 (r.u r.n r.m (ab (.f (c4 d.v))) (ab (.f d.t.bI)) (ab (.f (.str [bJ d.fold]))) (ab (.f (.str d.x))) r.ee (cI sa) o r.eB r.clo r.dq) p ln (R++gA e d.t) D) (b6 (r.u r.n r.m (ab (.f (c4 d.v))) (ab (.f d.t.bI)) (ab (.f (.str [bJ d.fold]))) (ab (.f (.str d.x))) r.ee (cI sa) o (ab (.f (.lst ((b8 [] d.x).map da)))) r.clo r.dq) p ln (R++gA e d.t) D):=aac (r:=(r.u r.n r.m (ab (.f (c4 d.v))) (ab (.f d.t.bI)) (ab (.f (.str [bJ d.fold]))) (ab (.f (.str d.x))) r.ee (cI sa) o r.eB r.clo r.dq)) rfl (bf aH.le (by decide))
 have I4:=aad (w:=w) (r:=(r.u r.n r.m (ab (.f (c4 d.v))) (ab (.f d.t.bI)) (ab (.f (.str [bJ d.fold]))) (ab (.f (.str d.x))) r.ee (cI sa) o (ab (.f (.lst ((b8 [] d.x).map da)))) r.clo r.dq)) (p:=p) (ln:=ln) (R:=(R++gA e d.t)) (D:=D) (e:=e) (nn:=nn) (s:=sa) (fold:=d.fold) (q:=q) (L:=L) k.u rfl rfl (by rw[dC];rfl) h0 aA (dC▸lV) (dC▸bf Dz (by decide)) (bf b1 (by decide))
 rw[<-dC] at I4
 have TB:cL w EB (b6 (r.u r.n r.m (ab (.f (c4 d.v))) (ab (.f d.t.bI)) (ab (.f (.str [bJ d.fold]))) (ab (.f (.str d.x))) r.ee (cI sa) o (ab (.f (.lst ((b8 [] d.x).map da)))) r.clo r.dq) p ln ((R++gA e d.t)++gB (gL sa) d.fold nn e (b8 [] d.x)) D) (b6 (r.u r.n r.m (ab (.f (c4 d.v))) (ab (.f d.t.bI)) (ab (.f (.str [bJ d.fold]))) (ab (.f (.str d.x))) r.ee (cI sa) o (ab (.f (.lst ((b8 [] d.x).map da)))) (cI d.c) r.dq) p ln ((R++gA e d.t)++gB (gL sa) d.fold nn e (b8 [] d.x)) D):=by
  rw[Yw];exact aae (r:=(r.u r.n r.m (ab (.f (c4 d.v))) (ab (.f d.t.bI)) (ab (.f (.str [bJ d.fold]))) (ab (.f (.str d.x))) r.ee (cI sa) o (ab (.f (.lst ((b8 [] d.x).map da)))) r.clo r.dq)) ar
 have xv:=aaf (w:=w) (r:=(r.u r.n r.m (ab (.f (c4 d.v))) (ab (.f d.t.bI)) (ab (.f (.str [bJ d.fold]))) (ab (.f (.str d.x))) r.ee (cI sa) o (ab (.f (.lst ((b8 [] d.x).map da)))) (cI d.c) r.dq)) (p:=p) (ln:=ln) (R:=((R++gA e d.t)++gB (gL sa) d.fold nn e (b8 [] d.x))) (D:=D) (c:=d.c) (q:=q) (L:=L) rfl (by rw[dC];rfl) (dC▸bf Dz (by decide)) (dC▸bW)
 rw[<-dC,H,Hm] at xv
 have xv:cL w EC (b6 (r.u r.n r.m (ab (.f (c4 d.v))) (ab (.f d.t.bI)) (ab (.f (.str [bJ d.fold]))) (ab (.f (.str d.x))) r.ee (cI sa) o (ab (.f (.lst ((b8 [] d.x).map da)))) (cI d.c) r.dq) p ln ((R++gA e d.t)++gB (gL sa) d.fold nn e (b8 [] d.x)) D) (b6 (r.u r.n r.m (ab (.f (c4 d.v))) (ab (.f d.t.bI)) (ab (.f (.str [bJ d.fold]))) (ab (.f (.str d.x))) r.ee (cI sa) o (ab (.f (.lst ((b8 [] d.x).map da)))) (cI d.c) (cI d.cJ)) p ln ((R++gA e d.t)++gB (gL sa) d.fold nn e (b8 [] d.x)) D):=xv
 have TC:=aag (w:=w) (r:=(r.u r.n r.m (ab (.f (c4 d.v))) (ab (.f d.t.bI)) (ab (.f (.str [bJ d.fold]))) (ab (.f (.str d.x))) r.ee (cI sa) o (ab (.f (.lst ((b8 [] d.x).map da)))) (cI d.c) (cI d.cJ))) (p:=p) (ln:=ln) (R:=((R++gA e d.t)++gB (gL sa) d.fold nn e (b8 [] d.x))) (D:=D) (c:=d.c) k.u rfl aA (by rw[bL];exact bf (fX b1 ij) (by decide))
 have TF:=aah (w:=w) (r:=(r.u r.n r.m (ab (.f (c4 d.v))) (ab (.f d.t.bI)) (ab (.f (.str [bJ d.fold]))) (ab (.f (.str d.x))) r.ee (cI sa) o (ab (.f (.lst ((b8 [] d.x).map da)))) (cI d.c) (cI d.cJ))) (p:=p) (ln:=ln) (R:=(((R++gA e d.t)++gB (gL sa) d.fold nn e (b8 [] d.x))++c3 e d.c)) (D:=D) (s:=sa) (v:=c4 d.v) (t:=d.t.bI) k.u rfl rfl rfl (bf dI (by decide))
 have TG:=aai (w:=w) (r:=(r.u r.n r.m (ab (.f (c4 d.v))) (ab (.f d.t.bI)) (ab (.f (.str [bJ d.fold]))) (ab (.f (.str d.x))) r.ee (cI sa) o (ab (.f (.lst ((b8 [] d.x).map da)))) (cI d.c) (cI d.cJ))) (p:=p) (ln:=ln) (R:=(((R++gA e d.t)++gB (gL sa) d.fold nn e (b8 [] d.x))++c3 e d.c)) (D:=(D++ [kQ sa (c4 d.v) d.t.bI])) (x:=d.x) (fold:=d.fold) k.u rfl rfl (by rw[bL];exact bf (h2 dI 1) (by decide))
 exact B0.hn (TA.hn (I4.hn (TB.hn (xv.hn (TC.hn (TF.hn (TG.hn t)))))))
end
section
variable {w:Bool} {r:bB} {p:aF} {ln:Nat} {R:List (List Nat)} {D:List aj} {e:List Nat} {nn:Nat}
structure iy (w:Bool) (d:dD):Prop where
 ok:jz w d.x
 v: ∀y,d.v=ab y->y<12
theorem C4 {T:List Nat}:iy w (b7 w T):=⟨aih w _ _ (Fc _).1 (Fc _).2,λ_ h=>QU h⟩
def bB.uP (r:bB) (T:List Nat) (d:dD) (f:Bool) (o:Option ae):bB:=r.u (cp (T.headD 0)) (cp (T.tail.headD 0)) (ab (.f (c4 d.v))) (ab (.f d.t.bI)) (ab (.f (.str [bJ d.fold]))) (ab (.f (.str d.x))) (cI d.eW) (cI (d.dg f)) o (ab (.f (.lst ((b8 [] d.x).map da)))) (cI d.c) (cI d.cJ)
theorem V3 {f c h:Bool} {d:dD}:((D++pd f (fJ (c|| (h&&d.eW))))++ [kQ (d.dg f) (c4 d.v) d.t.bI])++ [kp d.x d.fold]=D++jF f c h d:=by
 rw[bt,bt];rfl
theorem aaE {f h:Bool} {d:dD}:((((R++c3 e (h&&d.eW))++l0 e d.v)++gA e d.t)++gB (gL (d.dg f)) d.fold nn e (b8 [] d.x))++c3 e d.c=R++e8 e nn f h d:=by
 unfold e8
 rw[bt,bt,bt,bt]
theorem LL {T:List Nat} {f c h:Bool} {d:dD} {fr:Option cc} (k:fg r e nn) (bj:r.i=cp (sO f)) (aD:r.clo=cI c) (cy:r.dq=cI h) (h0:ft nn) (aA:e.length<=10) (dQ:T.length<=100) (eK:R.length<=100) (dI:D.length<=100) (bW:b9 p 500) (hd:b7 w T=d) (ap:p.dd=nn) (aC:p.dE=w):
  ∃o bx ff,cL w EK (b6 r ((((p.f0 fr).b0 []).aQ (lq f)).d5 T) ln R D) (b6 (r.uP T d f o) ((p.d5 (fp T)).k6 d f fr ff) bx (R++e8 e nn f h d) (D++jF f c h d)):=by
 have K:iy w d:=hd▸C4
 have E:=λo R D=>VI (w:=w) (r:=r.uP T d f o) (p:=p.d5 (fp T)) (ln:=ln) (R:=R) (D:=D) (d:=d) (f:=f) (n0:=T.headD 0) (fr:=fr) k.u (by rw[<-hd];rfl) rfl rfl rfl rfl rfl rfl K.v (aC▸K.ok) bW (ap▸h0)
 have b1:((R++c3 e (h&&d.eW))++l0 e d.v).length<=200:=by rw[bL,bL];exact bf (fX (fX eK (zh ..)) (Oo ..)) (by decide)
 have ij:(D++pd f (fJ (c|| (h&&d.eW)))).length<=200:=by rw[bL];exact bf (fX dI (by cases f;exact fj 1;exact fw 1:(pd f (fJ (c|| (h&&d.eW)))).length<=1)) (by decide)
 refine bT (VH (ι:=Nat×(List (List Nat)×List ae)) (s:=EL) (w:=w) (p:=(((p.d5 (fp T)).f0 fr).b0 []).aQ (lq f)) (ln:=ln) (n:=T.headD 0) (d:=d) (sa:=d.dg f) (r:=r.u (cp (T.headD 0)) (cp (T.tail.headD 0)) r.iU r.tag r.ho r.val (cI d.eW) r.dg r.ey r.eB r.clo r.dq) (σ:=λo i=>b6 (r.uP T d f o) ((p.d5 (fp T)).k6 d f fr i.2) i.1 (R++e8 e nn f h d) (D++jF f c h d)) k.u rfl (by rw[<-hd];rfl) K.ok h0 aA b1 ij λo=> ?_) λo i C=> ⟨o,i.1,i.2, ?_⟩
 ·rw[V3,aaE]
  exact bT (E o _ _) λl1 hX E=> ⟨(l1,hX),E⟩
 ·exact VG (p:=((p.f0 fr).b0 []).aQ (lq f)) k bj aD cy aA dQ eK dI hd C
end
def qo (n:Nat) (fold:Bool) (e x:List Nat):List Nat:=dI n x++(f9 x++(e++a0 (eQ fold n e (b8 [] x))))
def k4 (e:List Nat) (n:Nat) (s:Bool) (d:dD) (t:List Nat):List Nat:=cond s (gW e (eP d.v d.t) (bJ d.fold::(qo n d.fold e d.x++t))) (bJ d.fold::(qo n d.fold e d.x++t))
theorem LO {e r:List Nat} (t:eJ):gW e (eP af t) r=a0 (gA e t)++(45::45::45::32::r):=by
 cases t with
 |no=>rfl
 |one=>exact(bt (eG [33,101,33] [33,120]) e _).symm.trans (congrArg (· ++(45::45::45::32::r)) (dj _).symm)
 |two=>
  show eG [33] [33,121]++(e++(eG [33,101,33] [116]++(e++(45::45::45::32::r))))=((eG [33] [33,121]++e)++((eG [33,101,33] [116]++e)++ []))++_
  rw[dj,bt,bt,bt]
theorem VZ {e r:List Nat} (v:Option Nat) (t:eJ):gW e (eP v t) r=a0 (l0 e v)++(a0 (gA e t)++(45::45::45::32::r)):=by
 cases v with
 |none=>exact LO t
 |some d=>
  show vU d++(e++gW e (eP af t) r)=((vU d++e)++ [])++_
  rw[LO,dj,bt]
theorem iy.ch {w:Bool} {d:dD} (h:iy w d): ∀c∈d.x,c∈mg:=zK _ _ h.ok.ok
theorem Qk {d:dD} {f:Bool} (h:d.dg f=ac):g0 d.v d.t=aa:=by
 unfold dD.dg dD.eW at h
 revert h
 cases f<;>cases d.b<;>cases g0 d.v d.t<;>decide
theorem O2 {v:Option Nat} {t:eJ} (h:g0 v t=aa):v=af/\t= .no:=by
 cases v with
 |some d=>exact nomatch h
 |none=>cases t with
  |no=>exact⟨rfl,rfl⟩
  |one=>exact nomatch h
  |two=>exact nomatch h
theorem Ed {e:List Nat} {n:Nat} {f h w:Bool} {d:dD} (hd:iy w d) (t:List Nat):a0 (e8 e n f h d)++t=a0 (c3 e (h&&d.eW))++k4 e n (d.dg f) d (a0 (c3 e d.c)++t):=by
 have H:=vd (n:=n) hd.ok
 have E:a0 (gB (gL (d.dg f)) d.fold n e (b8 [] d.x))=gL (d.dg f)++(bJ d.fold::qo n d.fold e d.x):=by
  show(gL (d.dg f)++([bJ d.fold]++(je n (b8 [] d.x)++d9 (b8 [] d.x)))++e)++a0 (eQ d.fold n e (b8 [] d.x))=_
  rw[H.1,H.2,bt,bt,bt,bt]
  rfl
 unfold e8
 rw[dG,dG,dG,dG,E,bt]
 refine congrArg (a0 (c3 e (h&&d.eW))++ ·) ?_
 rcases cK (d.dg f) with hs|hs
 ·rw[hs,show k4 e n aa d (a0 (c3 e d.c)++t)=gW e (eP d.v d.t) (bJ d.fold::(qo n d.fold e d.x++(a0 (c3 e d.c)++t))) from rfl,VZ,bt,bt,bt,bt]
  rfl
 ·have N:=O2 (Qk hs)
  rw[hs,N.1,N.2]
  show((bJ d.fold::qo n d.fold e d.x)++a0 (c3 e d.c))++t=bJ d.fold::(qo n d.fold e d.x++(a0 (c3 e d.c)++t))
  rw[bt];rfl
theorem C3 {e t:List Nat} {n:Nat} {w:Bool} {d:dD} (hd:iy w d) (bw:eo e) (ar:ft n) (cj:Tok t):BT d.fold n (qo n d.fold e d.x) t d.x:=bT hd.ok.hd λa be h=>by
 have aD:=hd.ch
 have aA:=hd.ok.le
 rw[h.1] at aD aA⊢
 exact UK bw ar (λc h=>G3 (aD c h)) (λc h=>QR (aD c h)) cj aA
theorem Ek (e:List Nat) (b:Bool) (t:List Nat):a0 (c3 e b)++t=cond b (46::46::46::(e++t)) t:=by
 cases b with
 |true=>exact congrArg (λz=>46::46::46::(z++t)) (dj e)
 |false=>rfl
theorem aho {e r:List Nat} {ds:List f5}:Tok (gW e ds r):=by
 cases ds with
 |nil=>exact⟨45,_,rfl,by decide⟩
 |cons d ds=>exact⟨37,_,rfl,by decide⟩
theorem FY {e t:List Nat} {b:Bool} (h:Tok t):Tok (a0 (c3 e b)++t):=by
 rw[Ek]
 cases b with
 |true=>exact⟨46,_,rfl,by decide⟩
 |false=>exact h
theorem Qw:Tok [0]:=⟨0,[],rfl,by decide⟩
section
variable {b e t:List Nat} {r:b5} {p:Ps} {n:Nat} {w c:Bool} {d:dD} {vs:List aj}
theorem FC (bw:eo e) (aS:aL 34 r=af) (h:jl b r (a0 (c3 e c)++ [0]) p):Run [fJ c,iT] p (a0 (c3 e c)++ [0]):=by
 rw[Ek] at h⊢
 cases c with
 |true=>exact aeq bw aS h
 |false=>exact aer aS h
theorem aex {v:Nat->cc} {s:gS} (bw:eo e) (ar:ft n) (hd:iy w d) (cj:Tok t) (h:jl b (ip v s) (a0 (c3 e c)++k4 e n aa d t) p) (k: ∀q ks l,jl b (pC v s ks l) t q->Run vs q t):
  Run (fJ c::kQ aa (c4 d.v) d.t.bI::kp d.x d.fold::vs) p (a0 (c3 e c)++k4 e n aa d t):=by
 rw[Ek] at h⊢
 cases c with
 |true=>exact aet bw hd.v (C3 hd bw ar cj) h k
 |false=>exact aeu bw hd.v (C3 hd bw ar cj) h k
theorem PI {v:Nat->cc} {s:gS} (bw:eo e) (ar:ft n) (hd:iy w d) (cj:Tok t) (h:jS b (ip v s) [] 1855 (k4 e n (d.dg aa) d t) p) (aD:(cz b (k4 e n (d.dg aa) d t)).2=0) (ja: ∀q ks l,jl b (pC v s ks l) t q->Run vs q t) (n3: ∀q,jl b (ip v s) t q->Run vs q t):
  Run (kQ (d.dg aa) (c4 d.v) d.t.bI::kp d.x d.fold::vs) p (k4 e n (d.dg aa) d t):=by
 have eU:=C3 hd bw ar cj
 have N:=Qk (d:=d) (f:=aa)
 revert h aD N
 cases d.dg aa with
 |true=>exact λh aD _=>aes bw hd.v eU h aD ja
 |false=>
  intro h _ N
  have N:=O2 (N rfl)
  rw[N.1,N.2]
  exact aep eU h n3
end
theorem Ej {e t:List Nat} {d:dD} {h:Bool} (cy:h=aa->d.cJ=aa):a0 (c3 e d.c)++(a0 (c3 e h)++t)=a0 (c3 e (d.c||h))++t:=by
 rcases cK d.c with aD|aD
 ·rw[aD]
  cases h with
  |false=>rfl
  |true=>
   have:=cy rfl
   unfold dD.cJ at this
   rw[aD,wK,hq] at this
   exact nomatch this
 ·rw[aD];rfl
theorem Nw (b:List Nat):(cz b b).2=0:=by
 unfold cz
 rw[Pu];rfl
theorem PJ {t:List Nat} {m:aj} {r:b5} {vs:List aj} (k: ∀q,jS (t++ [0]) r [] 1855 (t++ [0]) q->Run vs q (t++ [0])):Run (lx::vs) (kg t m r) (t++ [0]):=
 Run.go (q:=(kg t m r).gt.to 1855) rfl rfl .a (afG ⟨rfl,cW rfl⟩) (.ss _ _ _) rfl (k _ ⟨⟨rfl,rfl,rfl,rfl,rfl,rfl⟩,rfl,rfl,[],rfl⟩)
section
variable {e:List Nat} {n:Nat} {w:Bool} {m:aj} {v:Nat->cc}
def V1 (d:dD):List aj:=lx::(jF aa ac ac d++ [fJ (d.c||d.cJ),iT])
theorem aev {d:dD} (bw:eo e) (ar:ft n) (hd:iy w d):Run (V1 d) (kg (a0 (e8 e n aa ac d++c3 e d.cJ)) m (ip v .a)) (a0 (e8 e n aa ac d++c3 e d.cJ)++ [0]):=by
 have T:a0 (e8 e n aa ac d++c3 e d.cJ)++ [0]=k4 e n (d.dg aa) d (a0 (c3 e (d.c||d.cJ))++ [0]):=by
  rw[dG,bt,Ed hd,Ej (λh=>h)];rfl
 refine PJ λq h=> ?_
 have de:=Nw (a0 (e8 e n aa ac d++c3 e d.cJ)++ [0])
 revert h de
 generalize a0 (e8 e n aa ac d++c3 e d.cJ)++ [0]=b at T⊢
 intro h de
 rw[T]
 exact PI bw ar hd (FY Qw) (T▸h) (T▸de) (λq ks l s=>FC bw rfl s) λq s=>FC bw rfl s
def V2 (d2 dB:dD):List aj:=lx::(jF aa ac ac d2++(jF ac d2.c d2.cJ dB++ [fJ (dB.c||dB.cJ),iT]))
theorem aey {d2 dB:dD} (bw:eo e) (ar:ft n) (li:iy w d2) (hd2:iy w dB):Run (V2 d2 dB) (kg (a0 (e8 e n aa ac d2++(e8 e n ac d2.cJ dB++c3 e dB.cJ))) m (ip v .b)) (a0 (e8 e n aa ac d2++(e8 e n ac d2.cJ dB++c3 e dB.cJ))++ [0]):=by
 have T:a0 (e8 e n aa ac d2++(e8 e n ac d2.cJ dB++c3 e dB.cJ))++ [0]=k4 e n (d2.dg aa) d2 (a0 (c3 e (d2.c|| (d2.cJ&&dB.eW)))++k4 e n aa dB (a0 (c3 e (dB.c||dB.cJ))++ [0])):=by
  rw[dG,bt,Ed li,dG,bt,Ed hd2,Ej (d:=dB) (h:=dB.cJ) (λh=>h),Ej (d:=d2) (h:=d2.cJ&&dB.eW) (λh=> (fW.mp h).1)];rfl
 refine PJ λq h=> ?_
 have de:=Nw (a0 (e8 e n aa ac d2++(e8 e n ac d2.cJ dB++c3 e dB.cJ))++ [0])
 revert h de
 generalize a0 (e8 e n aa ac d2++(e8 e n ac d2.cJ dB++c3 e dB.cJ))++ [0]=b at T⊢
 intro h de
 rw[T]
 have go: ∀(v:Nat->cc) (s:gS) (q:Ps),(∀ks l,aL 34 (pC v s ks l)=af)->jl b (ip v s) (a0 (c3 e (d2.c|| (d2.cJ&&dB.eW)))++k4 e n aa dB (a0 (c3 e (dB.c||dB.cJ))++ [0])) q->Run (fJ (d2.c|| (d2.cJ&&dB.eW))::kQ aa (c4 dB.v) dB.t.bI::kp dB.x dB.fold:: [fJ (dB.c||dB.cJ),iT]) q (a0 (c3 e (d2.c|| (d2.cJ&&dB.eW)))++k4 e n aa dB (a0 (c3 e (dB.c||dB.cJ))++ [0])):=
  λv s q aS h=>aex bw ar hd2 (FY Qw) h λq ks l h=>FC bw (aS ks l) h
 exact PI bw ar li (FY aho) (T▸h) (T▸de) (λq ks l h=>go (λi=>cond (bA i 9) (.dict ks l) (v i)) .c q (λ_ _=>rfl) h) λq h=>go v .b q (λ_ _=>rfl) h
end
def eO (x:List Nat):Prop:= ∀c∈x,c∈k1
theorem eO.cG {x y:List Nat} (h:eO x) (g:eO y):eO (x++y):=λc aD=> (A9.mp aD).elim (h c) (g c)
theorem iD:eO []:=nofun
theorem k0 {x:List Nat} (h:x.all (λc=>k1.contains c)=aa):eO x:=λc aD=>rT.mp (fM.mp h c aD)
theorem T4 (n:Nat):eO (ind n):=λc aD=>by rw[RR aD];decide
theorem Jg {d:Nat} (h:d<12):eO (dv d):=
 k0 (fM.mp (show(Bb 12).all (λd=> (dv d).all (λc=>k1.contains c))=aa by decide+kernel) d (HV.mpr h))
theorem Cd {e:List Nat} (bw:eo e):eO e:=by rcases bw with rfl|rfl|rfl<;>exact k0 (by decide)
theorem T5 {w:Bool} {d:dD} (hd:iy w d):eO d.x:=λc aD=>rT.mp (tH (q:=λc=>k1.contains c) (by decide) (hd.ch c aD))
def Jf (L:List cQ):Prop:= ∀p∈L,eO p.1/\eO p.2
theorem T2: ∀r l:List Nat,eO l->eO r->Jf (b8 l r):=λr=>by
 induction r with
 |nil=>
  intro l h _
  cases l with
  |nil=>exact nofun
  |cons a l=>exact λp hp=>by rw[jU.mp hp];exact⟨h,iD⟩
 |cons c r ai=>
  intro l h g
  have Mc:eO [c]:=λx aH=>by rw[jU.mp aH];exact g c et
  have Mg:eO r:=λx aH=>g x (eZ _ aH)
  rcases cK (ea c) with ag|ag
  ·rw[jd ag]
   exact λp hp=> (e6.mp hp).elim (λe=>e▸⟨h,Mc⟩) (ai [] iD Mg p)
  ·rw[iL ag]
   exact ai (l++ [c]) (h.cG Mc) Mg
theorem r8 {b:Bool} {x y:List Nat} (h:eO x) (g:eO y):eO (cond b x y):=by cases b;exact g;exact h
theorem T3 {fold:Bool} {n:Nat} {e:List Nat} (he:eO e) (L:List cQ):Jf L->eO (a0 (eQ fold n e L)):=by
 induction L with
 |nil=>exact λ_=>iD
 |cons p L ai=>
  intro h
  have ap:=h _ et
  have ai:=ai λp hp=>h p (eZ _ hp)
  obtain ⟨l,d⟩:=p
  show eO ((lk n l++el e d)++a0 (cond (hI fold l d L) [e] []++eQ fold n e L))
  rw[dG]
  refine(eO.cG ?_ (r8 ap.2 he)).cG (eO.cG ?_ ai)
  ·cases l with
   |nil=>exact iD
   |cons a l=>exact(T4 n).cG ap.1
  ·cases hI fold l d L with
   |true=>exact he.cG iD
   |false=>exact iD
theorem xC {e:List Nat} (he:eO e) (b:Bool):eO (a0 (c3 e b)):=by
 cases b with
 |true=>exact((k0 (x:= [46,46,46]) (by decide)).cG he).cG iD
 |false=>exact iD
theorem Ce {e:List Nat} {n:Nat} {f h w:Bool} {d:dD} (hd:iy w d) (bw:eo e) (ar:ft n):eO (a0 (e8 e n f h d)):=by
 have he:=Cd bw
 unfold e8 gB
 rw[dG,dG,dG,dG,qy]
 refine(xC he _).cG (eO.cG ?_ (eO.cG ?_ (eO.cG (eO.cG ?_ (T3 he _ (T2 d.x [] iD (T5 hd)))) (xC he _))))
 ·have aW:=hd.v
  revert aW
  cases d.v with
  |none=>exact λ_=>iD
  |some y=>exact λaW=> (((k0 (x:= [37,89,65,77,76,32,49,46]) (by decide)).cG (Jg (aW y rfl))).cG he).cG iD
 ·cases d.t with
  |no=>exact iD
  |one=>exact((k0 (x:=eG [33,101,33] [33,120]) (by decide)).cG he).cG iD
  |two=>exact((k0 (x:=eG [33] [33,121]) (by decide)).cG he).cG (((k0 (x:=eG [33,101,33] [116]) (by decide)).cG he).cG iD)
 ·refine(eO.cG (r8 (k0 (by decide)) iD) (eO.cG ?_ (eO.cG (r8 (Jg (by rcases ar with rfl|rfl|rfl<;>decide)) iD) ?_))).cG he
  ·cases d.fold<;>exact k0 (by decide)
  ·rw[(vd (n:=n) hd.ok).2]
   unfold f9 iG
   exact r8 (r8 (k0 (by decide)) (r8 (k0 (by decide)) iD)) (k0 (by decide))
noncomputable def Nx:S:=(.exp (.aG (.lo 103) 25 (.cons (.call (.gl 209) .nil .nil) .nil) .nil))
noncomputable def Ny:S:=(.ite (.lo 106) (.cons (.exp (.cG (.lo 36) (.bin .Add (.ks [46,46,46]) (.lo 83)))) .nil) .nil)
noncomputable def Nz:S:=(.si 8 (.lst (.cons (.tup (.cons (.ks [100,111,99,117,109,101,110,116,32,101,110,100]) (.cons (.or (.cons (.lo 81) (.cons (.lo 106) .nil))) .nil))) (.cons (.tup (.cons (.ks [115,116,114,101,97,109,32,101,110,100]) .nil)) .nil))))
noncomputable def NA:S:=(.aN 41 (.aG (.at (.lo 103) 97) 41 .nil .nil))
noncomputable def NB:S:=(.ite (.cmp .NotEq (.lo 41) (.join (.ks []) (.lo 36))) (.cons (.ret (.bF ac)) .nil) .nil)
noncomputable def NC:S:=(.aN 90 (.call (.gl 74) (.cons (.lo 41) .nil) .nil))
noncomputable def aaN:S:=(.aN 11 (.cell 103 .nil))
noncomputable def PB:X:=(.cmp .IsNot (.aG (.lo 90) 153 .nil .nil) .cu)
noncomputable def PC:S:=(.cons (.exp (.cG (.lo 11) (.call (.gl 128) (.cons (.aG (.lo 90) 133 .nil .nil) .nil) .nil))) .nil)
def aaO:S:=(.eT PB PC)
noncomputable def aaP:S:=(.ret (.uX (.lo 11) (.lo 8)))
section
variable {w:Bool} {r:bB} {p:aF} {ln:Nat} {R:List (List Nat)} {D:List aj} {e:List Nat} {nn:Nat}
theorem Told.inst {ev v:aj} (h:Told ev v): ∃C ns vs,ev= .inst C ns vs:=by cases h<;>exact⟨_,_,_,rfl⟩
noncomputable def bB.tf (r:bB) (t:List Nat):bB:={r with txt:=ab (.f (.str t)),rf:=ab (.aq 30),got:=ab (.aq 103)}
def zX (r:bB) (p:Ps) (u:List Nat) (ck gE:cc) (G:List aj):St:=⟨r.loc,p.hp u,[(101,ck),(102,gE),(103,.list (G.map .f))],[103,102,101]⟩
theorem ad0 {t:List Nat} (ck gE:cc): ∀(vs:List aj) (p:Ps) (u:List Nat) (G:List aj),Run vs p u->G.length+vs.length<=1000->
  ∃q g5,aJ (fb (ev (SL w) PB).t (bN (SL w) PC) (zX (r.tf t) p u ck gE G)) .aQ (zX (r.tf t) q g5 ck gE (G++vs)):=λvs=>by
 induction vs with
 |nil=>exact λp u G h _=> ⟨p,u,by rw[dj];exact eS (by exact cb λ_ _ F k=>F _ _ (afE h.1 h.2) ac rfl k)⟩
 |cons v vs ai=>
  intro p u G h aA
  obtain ⟨ev,q,tx,cj,c6,dC,hp⟩:=h
  rw[du] at aA
  refine bT (ai q tx (G++ [v]) c6 (by rw[bL,du,eY];omega)) λfa g5 i=> ⟨fa,g5, ?_⟩
  rw[bt] at i
  have aeB:cn (G.map ae.f)=aa:=f3 (by rw[eg];omega)
  have eA:q.ev .none=q:=congrArg (λc=> ({q with ce:=c}:Ps)) dC.symm
  have Wk:zX (r.tf t) q tx ck gE (G++ [v])=⟨(r.tf t).loc,(q.ev .none).hp tx,[(101,ck),(102,gE),(103,.list (G.map .f++ [.f v]))],[103,102,101]⟩:=by
   rw[eA]
   exact congrArg (λl=> (⟨(r.tf t).loc,q.hp tx,[(101,ck),(102,gE),(103,.list l)],[103,102,101]⟩:St)) lE
  refine fc ?_ i
  rw[Wk]
  have T:=λhp=>cj.run (hp:=hp)
  refine c5 cj.inst λC ns l x=> ?_
  rw[x] at hp T
  exact cb λ_ _ F k=>F _ _ hp aa rfl _ _ afk _ _ (T _) aeB k
theorem aan (k:fg r e nn) (ar:b9 p 10): ∃bx,cL w Nx (b6 r ((p.b0 []).aQ 444) ln R D) (b6 r (((((p.eL ac).o (fS p.lb p.dW)).b0 []).di .none).aQ 429) bx R D):=by
 rw[k.eq]
 refine ak (W1 (p:=p) (ln:=ln) ar) λbx E=> ⟨bx,λG K F=> ?_⟩
 exact F _ _ (hS rfl rfl) _ _ E
theorem aao {h:Bool} (k:fg r e nn) (cy:r.dq=cI h) (aA:e.length<=10) (eK:R.length<=1000):cL w Ny (b6 r p ln R D) (b6 r p ln (R++c3 e h) D):=by
 rw[s6,k.eq,yG (r:=r.cz e nn) cy]
 intro G K F
 have s:=l9 eK
 cases h with
 |false=>
  rw[show cg R++cg (c3 e ac)=cg R from dj _]
  exact F ac rfl
 |true=>exact F aa rfl (C5 aA) s
theorem aap {c h:Bool} (k:fg r e nn) (aD:r.clo=cI c) (cy:r.dq=cI h) (dI:D.length<=1000):cL w Nz (b6 r p ln R D) (b6 r p ln R (D++ [fJ (c||h),iT])):=by
 rw[show b6 r p ln R (D++ [fJ (c||h),iT])=⟨r.loc,p.hp ln,[(101,.list (cg R)),(102,.list (D.map .f++ [.f (fJ (c||h)),.f iT]))],[102,101]⟩ from congrArg (λl=> (⟨r.loc,p.hp ln,[(101,.list (cg R)),(102,.list l)],[102,101]⟩:St)) lE,k.eq,uI (r:=r.cz e nn) aD,yG (r:=(r.cz e nn).sc _) cy]
 intro G K F
 have s:=vV dI
 cases c with
 |true=>exact F aa rfl ⟨s,rfl⟩
 |false=>exact F ac rfl ⟨s,rfl⟩
noncomputable def bB.tw (r:bB) (t:List Nat):bB:={r with txt:=ab (.f (.str t))}
def aF.l4 (p:aF) (O:List (List Nat)):aF:={p with out:=cg O}
theorem Qn (C:List (List Nat)):(match eN (cg C) with
  |some fs=>kN fs
  |none=>af)=ab C:=by rw[GZ];exact Qm C
theorem aaq {O:List (List Nat)} (k:fg r e nn) (hs:(a0 O).length<=16777216):cL w NA (b6 r (p.l4 O) ln R D) (b6 (r.tw (a0 O)) (p.l4 O) ln R D):=by
 have X:aJ (Gs [.aq 14] ((p.l4 O).hp ln)) (.f (.str (a0 O))) ((p.l4 O).hp ln):=by
  delta Gs
  exact aV λ_ _ F k=>F _ (Qn O) hs k
 rw[k.eq]
 intro G K F
 exact F _ _ X
theorem aar {t:List Nat} (k:fg r e nn) (he:t=a0 R) (hs:(a0 R).length<=16777216):cL w NB (b6 (r.tw t) p ln R D) (b6 (r.tw t) p ln R D):=by
 rw[k.eq]
 intro G K F
 exact F _ (Qn R) hs _ (congrArg not (gM.mpr he))
theorem aas {t:List Nat} (aE:eO t) (hs:(t++ [0]).length<=16777216) (hd: ∀m,nR ((kg t m []).hp (t++ [0])) (p.hp ln)=aa): ∃m,cL w NC (b6 (r.tw t) p ln R D) ⟨bB.loc {r.tw t with rf:=ab (.aq 30)},(kg t m (p.hp ln)).hp (t++ [0]),[(101,.list (cg R)),(102,.list (D.map .f))],[102,101]⟩:=by
 refine ak (afB (hp:=p.hp ln) aE hs hd) λm P=> ⟨m,λG K F=> ?_⟩
 exact F _ _ P
end
theorem uK {b:Bool} {x y:List Nat} {n:Nat} (aH:x.length<=n) (cP:y.length<=n):(cond b x y).length<=n:=by cases b;exact cP;exact aH
theorem abL {fold:Bool} {n:Nat} {e:List Nat} (ar:n<=10) (he:e.length<=10) (L:List cQ):vM L->(a0 (eQ fold n e L)).length<=1100*L.length:=by
 induction L with
 |nil=>exact λ_=>fj _
 |cons p L ai=>
  intro lV
  have ap:=lV _ et
  have ai:=ai λp hp=>lV p (eZ _ hp)
  obtain ⟨l,d⟩:=p
  show((lk n l++el e d)++a0 (cond (hI fold l d L) [e] []++eQ fold n e L)).length<=1100*(L.length+1)
  have aC:(lk n l).length<=1010:=by
   have:=ap.1
   cases l with
   |nil=>exact fw _
   |cons a l=>
    show(gQ n 32++(a::l)).length<=1010
    rw[bL,A8];exact bf (fX ar this) (by decide)
  have bu:(el e d).length<=10:=uK ap.2 he
  have d8:(a0 (cond (hI fold l d L) [e] [])).length<=10:=by
   cases hI fold l d L with
   |true=>exact bf (fi (congrArg A6 (dj e))) he
   |false=>exact fw _
  rw[dG,bL,bL,bL]
  omega
theorem zg {e:List Nat} (he:e.length<=10) (b:Bool):(a0 (c3 e b)).length<=13:=by
 cases b with
 |true=>exact bf (fi ((congrArg A6 (dj ([46,46,46]++e))).trans bL)) (iX he 3)
 |false=>exact fw _
theorem Ec {e:List Nat} {n:Nat} {f h w:Bool} {d:dD} (hd:iy w d) (he:e.length<=10) (ar:n<=10):(a0 (e8 e n f h d)).length<=20000:=by
 have ap:=zg he (h&&d.eW)
 have pn:=zg he d.c
 have aC:(a0 (l0 e d.v)).length<=30:=by
  cases d.v with
  |none=>exact fw _
  |some y=>
   have:=yd y
   show((([37,89,65,77,76,32]++(49::46::dv y))++e)++ []).length<=30
   rw[dj,bL,bL];exact bf (fX (iX (h2 this 2) 6) he) (by decide)
 have bu:(a0 (gA e d.t)).length<=60:=by
  cases d.t with
  |no=>exact fw _
  |one=>
   show((eG [33,101,33] [33,120]++e)++ []).length<=60
   rw[dj,bL];exact bf (iX he _) (by decide)
  |two=>
   show((eG [33] [33,121]++e)++((eG [33,101,33] [116]++e)++ [])).length<=60
   rw[dj,bL,bL,bL];exact bf (fX (iX he _) (iX he _)) (by decide)
 have d8:(gL (d.dg f)++([bJ d.fold]++(je n (b8 [] d.x)++d9 (b8 [] d.x)))++e).length<=30:=by
  have a:=OE n (b8 [] d.x)
  have b:(d9 (b8 [] d.x)).length<=1:=by
   rw[(vd (n:=n) hd.ok).2]
   exact uK (uK (fj 1) (uK (fj 1) (fw 1))) (fj 1)
  have c:(gL (d.dg f)).length<=4:=uK (fj 4) (fw 4)
  rw[bL,bL,bL,bL]
  exact bf (fX (fX c (fX (fj 1) (fX a b))) he) (by decide)
 have aA:=hd.ok.le
 have fq:=abL (fold:=d.fold) ar he _ (NQ d.x [] (bf (by rw[eY,jt];exact aA) (by decide)))
 have gy:=vA d.x []
 unfold e8 gB
 rw[dG,dG,dG,dG,qy,bL,bL,bL,bL,bL]
 omega
def leB:S:= .cons aaN (.cons aaO (.cons aaP .nil))
def vx:S:= .cons Nx (.cons Ny (.cons Nz (.cons NA (.cons NB (.cons NC leB)))))
def oJ (w:Bool) (s:S) (σ:St):Prop:= ∃σ',∀(G:Prop) (K:cE->St->aB),aB.path G (bN (SL w) s σ K)->aB.path G (K (.hG (.f (.bool aa))) σ')
theorem cL.to {w:Bool} {a b:S} {σ σ₁:St} (ap:cL w a σ σ₁) (aC:oJ w b σ₁):oJ w (.cons a b) σ:=ak aC λσ' aC=> ⟨σ',λG K F=>aC G K (ap G (FP (λσ=>bN (SL w) b σ K) K) F)⟩
section
variable {w:Bool} {r:bB} {p:aF} {ln:Nat} {R:List (List Nat)} {D:List aj} {e:List Nat} {nn:Nat}
theorem W3 {t:List Nat} {q:Ps} {u:List Nat} (k:fg r e nn) (sL:Run D q u) (dI:D.length<=1000) (heq:kE 3 D=aa):
  oJ w leB ⟨bB.loc {r.tw t with rf:=ab (.aq 30)},q.hp u,[(101,.list (cg R)),(102,.list (D.map .f))],[102,101]⟩:=by
 have s:=vV dI
 refine bT (ad0 (w:=w) (r:=r.cz e nn) (t:=t) (.list (cg R)) (.list (D.map .f)) D q u [] sL (by rw[eY,jt];exact dI)) λfa g5 L=> ?_
 rw[k.eq]
 refine⟨zX ((r.cz e nn).tf t) fa g5 (.list (cg R)) (.list (D.map .f)) D,λG K F=> ?_⟩
 exact F _ rfl _ _ L _ (wq D) ⟨⟨rfl,s⟩,heq⟩
noncomputable def QS (h:b5) (i:Nat):cc:=(h.map Prod.snd).getD i (.list [])
def r4 (s:gS) (r:b5):Prop:=(s= .a/\ ∃D,r= [(16,D)])\/(s= .b/\ ∃D ff,r= [(16,D),(17,ff)])
theorem aF.zV {r:b5} (h:p.r=r):p={p with r:=r}:=congrArg (λr=> ({p with r:=r}:aF)) h
theorem r4.ok {s:gS} (h:r4 s p.r):p.hp ln=ip (QS (p.hp ln)) s/\ ∀t m,nR ((kg t m []).hp (t++ [0])) (p.hp ln)=aa:=by
 rcases h with⟨rfl,D,h⟩ | ⟨rfl,D,ff,h⟩
 ·rw[p.zV h];exact⟨rfl,λ_ _=>rfl⟩
 ·rw[p.zV h];exact⟨rfl,λ_ _=>rfl⟩
theorem Qu {c h:Bool} {O:List (List Nat)} {s:gS} (k:fg r e nn) (aD:r.clo=cI c) (cy:r.dq=cI h) (ap:p.dW=h) (aC:p.lb=e) (bu:p.out=cg O) (aA:e.length<=10) (Yq:a0 O=a0 R) (eK:R.length<=100) (dI:D.length<=100) (qS:O.length<=500) (Yn:eO (a0 (R++c3 e h))) (j7:(a0 (R++c3 e h)).length<=1000000) (c6:r4 s p.r)
  (sL: ∀m v,Run (D++ [fJ (c||h),iT]) (kg (a0 (R++c3 e h)) m (ip v s)) (a0 (R++c3 e h)++ [0])) (heq:kE 3 (D++ [fJ (c||h),iT])=aa):oJ w vx (b6 r ((p.b0 []).aQ 444) ln R D):=by
 refine ak (aan (w:=w) (p:=p) (ln:=ln) (R:=R) (D:=D) k (by show p.out.length+10<=1000000;rw[bu,lO];exact bf (h2 qS 10) (by decide))) λl1 lL=> ?_
 have e1:(((((p.eL ac).o (fS p.lb p.dW)).b0 []).di .none).aQ 429)=((((p.eL ac).b0 []).di .none).aQ 429).l4 (O++fS e h):=by
  rw[ap,aC]
  exact congrArg (λl=> (((((p.eL ac).b0 []).di .none).aQ 429:aF) |>λx=> ({x with out:=l}:aF))) ((congrArg (· ++cg (fS e h)) bu).trans (h5 _ _).symm)
 rw[e1] at lL
 have dQ:a0 (O++fS e h)=a0 (R++c3 e h):=by rw[dG,dG,Yq,Ei]
 have X:=r4.ok (p:=((((p.eL ac).b0 []).di .none).aQ 429).l4 (O++fS e h)) (ln:=l1) c6
 have hs:(a0 (R++c3 e h)).length<=16777216:=bf j7 (by decide)
 have mD:=aao (w:=w) (p:=((((p.eL ac).b0 []).di .none).aQ 429).l4 (O++fS e h)) (ln:=l1) (R:=R) (D:=D) k cy aA (bf eK (by decide))
 have qk:=aap (w:=w) (p:=((((p.eL ac).b0 []).di .none).aQ 429).l4 (O++fS e h)) (ln:=l1) (R:=R++c3 e h) (D:=D) k aD cy (bf dI (by decide))
 have oY:=aaq (w:=w) (p:=(((p.eL ac).b0 []).di .none).aQ 429) (ln:=l1) (R:=R++c3 e h) (D:=D++ [fJ (c||h),iT]) (O:=O++fS e h) k (dQ▸hs)
 have xw:=aar (w:=w) (p:=((((p.eL ac).b0 []).di .none).aQ 429).l4 (O++fS e h)) (ln:=l1) (R:=R++c3 e h) (D:=D++ [fJ (c||h),iT]) k dQ hs
 rw[dQ] at oY xw
 refine ak (aas (w:=w) (r:=r) (p:=((((p.eL ac).b0 []).di .none).aQ 429).l4 (O++fS e h)) (ln:=l1) (R:=R++c3 e h) (D:=D++ [fJ (c||h),iT]) Yn (by rw[bL];exact bf (h2 j7 1) (by decide)) λm=>X.2 _ m) λm B1=> ?_
 have sL:=sL m (QS ((((((p.eL ac).b0 []).di .none).aQ 429).l4 (O++fS e h)).hp l1))
 rw[<-X.1] at sL
 exact lL.to (mD.to (qk.to (oY.to (xw.to (B1.to (W3 k sL (by rw[bL];exact bf (h2 dI 2) (by decide)) heq))))))
end
theorem uY (n:Nat) (A B:List aj):kE n (A++B)=(kE n A&&kE n B):=by
 induction A with
 |nil=>rfl
 |cons a A ai=>exact(congrArg (sr n a&& ·) ai).trans (wI ..).symm
theorem Di (f c h:Bool) (d:dD):kE 3 (jF f c h d)=aa:=by
 obtain ⟨b,v,t,fold,x,cl⟩:=d
 cases f<;>cases v<;>cases t<;>rfl
theorem ze (e:List Nat) (n:Nat) (f h:Bool) (d:dD) (aH:d.x.length<=12):(e8 e n f h d).length<=40:=by
 have ap:=zh e (h&&d.eW)
 have aC:=Oo e d.v
 have bu:=N7 e d.t
 have d8:=EM d.fold n e (b8 [] d.x)
 have fq:=vA d.x []
 have pn:=zh e d.c
 unfold e8 gB
 rw[bL,bL,bL,bL,du];omega
theorem yh (f c h:Bool) (d:dD):(jF f c h d).length<=3:=by cases f;exact fj 3;exact ky 2
theorem yp {e:List Nat} {n:Nat} {f h:Bool} {d:dD} (aH:d.x.length<=12):(mQ e n f h d).length<=62:=by
 unfold mQ
 rw[bL]
 exact fX (LK aH) (show(fS e d.c).length<=2 by cases d.c;exact fw 2;exact fj 2)
theorem Vx (T:List Nat):(fp T).length<=T.length:=by
 unfold fp
 rw[A7,w0,w0]
 exact bf (oK ..) (bf (oK ..) (oK ..))
section
variable {w:Bool} {r:bB} {p:aF} {ln:Nat} {e:List Nat} {nn:Nat}
theorem LJ {d:dD} {f:Bool} {fr:Option cc} {ff:List (List Nat)×List ae} {O:List (List Nat)} (h:p.out=cg O):(p.k6 d f fr ff).out=cg (O++mQ p.lb p.dd f p.dW d):=by
 show(p.out++cg (nS p.dW p.lb d.v d.t (d.im f) d.fold p.dd d.x))++cg (fS p.lb d.c)=_
 rw[h,bt,<-h5,<-h5];rfl
theorem aha {d:dD} {O:List (List Nat)} (k:fg r e nn) (aD:r.clo=cI d.c) (cy:r.dq=cI d.cJ) (ap:p.dW=d.cJ) (aC:p.lb=e) (bu:p.out=cg O) (qS:O=mQ e nn aa ac d) (he:eo e) (ar:ft nn) (hd:iy w d) (c6:r4 .a p.r):oJ w vx (b6 r ((p.b0 []).aQ 444) ln (e8 e nn aa ac d) (lx::jF aa ac ac d)):=by
 have aA:=hd.ok.le
 have zv:nn<=10:=by rcases ar with rfl|rfl|rfl<;>decide
 have C:=Ec (f:=aa) (h:=ac) hd he.le zv
 have G:=zg he.le d.cJ
 refine Qu k aD cy ap aC bu he.le (by rw[qS];exact Dh hd.ok) (bf (ze e nn aa ac d aA) (by decide)) (bf (iY (yh ..)) (by decide)) (by rw[qS];exact bf (yp aA) (by decide)) ?_ ?_ c6 (λm v=>aev he ar hd) ?_
 ·rw[dG];exact(Ce hd he ar).cG (xC (Cd he) _)
 ·rw[dG,bL];omega
 ·show kE 3 ([lx]++(jF aa ac ac d++ [fJ (d.c||d.cJ),iT]))=aa
  rw[uY,uY,Di];rfl
theorem ahb {d2 dB:dD} {O:List (List Nat)} (k:fg r e nn) (aD:r.clo=cI dB.c) (cy:r.dq=cI dB.cJ) (ap:p.dW=dB.cJ) (aC:p.lb=e) (bu:p.out=cg O) (qS:O=mQ e nn aa ac d2++mQ e nn ac d2.cJ dB) (he:eo e) (ar:ft nn) (li:iy w d2) (hd2:iy w dB) (c6:r4 .b p.r):
  oJ w vx (b6 r ((p.b0 []).aQ 444) ln (e8 e nn aa ac d2++e8 e nn ac d2.cJ dB) ((lx::jF aa ac ac d2)++jF ac d2.c d2.cJ dB)):=by
 have l1:=li.ok.le
 have e3:=hd2.ok.le
 have zv:nn<=10:=by rcases ar with rfl|rfl|rfl<;>decide
 have iw:=Ec (f:=aa) (h:=ac) li he.le zv
 have iW:=Ec (f:=ac) (h:=d2.cJ) hd2 he.le zv
 have G:=zg he.le dB.cJ
 refine Qu k aD cy ap aC bu he.le (by rw[qS,dG,dG,Dh li.ok,Dh hd2.ok]) (by rw[bL];exact bf (fX (ze e nn aa ac d2 l1) (ze e nn ac d2.cJ dB e3)) (by decide)) (by rw[bL];exact bf (fX (iY (yh ..)) (yh ..)) (by decide))
  (by rw[qS,bL];exact bf (fX (yp l1) (yp e3)) (by decide)) ?_ ?_ c6 (λm v=> ?_) ?_
 ·rw[dG,dG];exact((Ce li he ar).cG (Ce hd2 he ar)).cG (xC (Cd he) _)
 ·rw[dG,dG,bL,bL];omega
 ·have R:=aey (m:=m) (v:=v) he ar li hd2
  rw[bt (e8 e nn aa ac d2),bt]
  exact R
 ·show kE 3 (([lx]++jF aa ac ac d2)++jF ac d2.c d2.cJ dB++ [fJ (dB.c||dB.cJ),iT])=aa
  rw[uY,uY,uY,Di,Di];rfl
end
noncomputable def mT:List Nat:= [2,3,4,0,10,1]
def j9 (a:Nat):Nat:=mT.getD (a%6) 0
noncomputable def inR (n:Nat):Bool:=gG 2 n&&gG n 9
def oq (a:Nat):Nat:=cond (inR (j9 a)) (j9 a) 2
theorem MQ {q:Nat->Bool} (h:mT.all q=aa) (a:Nat):q (j9 a)=aa:=by
 unfold j9
 rw[A4,nt (show a%6<mT.length from ms _ (by decide))]
 exact fM.mp h _ (HP _)
theorem agY (a:Nat):ft (oq a):=by
 have h:=MQ (q:=λn=>bA (cond (inR n) n 2) 2|| (bA (cond (inR n) n 2) 3||bA (cond (inR n) n 2) 4)) (by decide) a
 rcases rK.mp h with h|h
 ·exact d7 (fh h)
 ·exact cW ((rK.mp h).imp fh fh)
noncomputable def Jt:List aj:= [.none,.str [13],.str [13,10],.str [10],.str [120]]
noncomputable def mG (a:Nat):Nat:=a/6%5
def i6 (a:Nat):aj:=Jt.getD (mG a) .none
def iE (a:Nat):List Nat:= [[10],[13],[13,10],[10],[10]].getD (mG a) [10]
theorem Cm (n:Nat):mG n=0\/mG n=1\/mG n=2\/mG n=3\/mG n=4:=by
 have:mG n<5:=ms _ (by decide)
 revert this
 generalize mG n=k
 omega
theorem adh (a:Nat):eo (iE a):=by
 unfold iE
 rcases Cm a with h|h|h|h|h<;>rw[h]
 ·exact d7 rfl
 ·exact cW (d7 rfl)
 ·exact cW (cW rfl)
 ·exact d7 rfl
 ·exact d7 rfl
def eA (w:Bool) (dd:Nat) (lb:List Nat) (T:List Nat) (st:Nat):aF:=⟨.dy 10 st,.none,.none,ac,ac,ac,ac,0,aa,aa,ac,w,dd,lb,.f .none,.none,.none,[],[],[],[],nd T,[]⟩
def yj (n:Nat):S:=n.repeat S.aO xJ
def yk (w:Bool) (n:Nat) (v:aj) (T:List Nat) (dd:Nat) (k:Nat):St:=⟨[(37,ab (.aq 10)),(97,ab (.aq 14)),(129,ab (.f .none)),(88,ab (.f (.int (.ofNat n)))),(72,ab (.f .none)),(198,ab (.f (.bool w))),(148,ab (.f (v)))],
 (10,.inst 799 (O6.take k) (([.aq 14,.f .none,.aq 11,.dy 10 422,.aq 12,.f .none,.aq 13,.f .none,.f (.int 0),.f (.bool ac),.f (.bool ac),.f (.bool ac),.f (.bool ac),.f (.int 0),.f (.int 0),.f (.bool aa),.f (.bool aa),.f (.bool ac),.f .none,.f (.bool w),.f (.int (.ofNat dd)),.f (.int 80),.f (.str [10])]:List ae).take k))::
 (14,.inst 834 [36] [.aq 15])::(20,nd T)::(15,.list []):: [(11,.list []),(12,.list []),(13,.list [])],[],[]⟩
def vg (T:List Nat):b5:= [(14,.inst 834 [36] [.aq 15]),(20,nd T),(15,.list [])]
section
variable {w:Bool} {T:List Nat} {n dd:Nat} {v:aj} {G:Prop} {W:ae->b5->Prop}
theorem WT (F:aB.path G (bN (aI []) xJ ⟨locs [37,97,129,88,72,198,148] [.aq 10,.aq 14,.f .none,.f (.int (.ofNat n)),.f .none,.f (.bool w),.f (v)] [],(10,.inst 799 [] [])::vg T,[],[]⟩ (ki W))):aB.path G (bN (aI []) (yj 21) (yk w n v T 2 21) (ki W)):=by
 exact F _ rfl _ rfl _ rfl
theorem WU (ar:n∈mT) (F:aB.path G (bN (aI []) (yj 21) (yk w n v T 2 21) (ki W))):aB.path G (bN (aI []) (yj 25) (yk w n v T (cond (inR n) n 2) 23) (ki W)):=by
 rcases e6.mp ar with rfl|ar
 ·exact F aa rfl aa rfl aa rfl ac rfl
 rcases e6.mp ar with rfl|ar
 ·exact F aa rfl aa rfl aa rfl ac rfl
 rcases e6.mp ar with rfl|ar
 ·exact F aa rfl aa rfl aa rfl ac rfl
 rcases e6.mp ar with rfl|ar
 ·exact F ac rfl ac rfl
 rcases e6.mp ar with rfl|ar
 ·exact F aa rfl aa rfl ac rfl ac rfl
 rcases e6.mp ar with rfl|ar
 ·exact F aa rfl ac rfl ac rfl
 ·exact nomatch ar
theorem WV {lb:List Nat} {k:W (.f .none) ((eA w dd lb T 422).hp 0)} (aW:(v= .none/\lb= [10])\/(v= .str [13]/\lb= [13])\/(v= .str [13,10]/\lb= [13,10])\/(v= .str [10]/\lb= [10])\/(v= .str [120]/\lb= [10])) (F:aB.path G (bN (aI []) (yj 25) (yk w n v T dd 23) (ki W))):G:=by
 rcases aW with⟨rfl,rfl⟩ | ⟨rfl,rfl⟩ | ⟨rfl,rfl⟩ | ⟨rfl,rfl⟩ | ⟨rfl,rfl⟩
 ·exact F _ rfl ac rfl k
 ·exact F _ rfl aa rfl k
 ·exact F _ rfl aa rfl k
 ·exact F _ rfl aa rfl k
 ·exact F _ rfl ac rfl k
end
theorem Ju (a:Nat):(i6 a= .none/\iE a= [10])\/(i6 a= .str [13]/\iE a= [13])\/(i6 a= .str [13,10]/\iE a= [13,10])\/(i6 a= .str [10]/\iE a= [10])\/(i6 a= .str [120]/\iE a= [10]):=by
 unfold i6 iE
 rcases Cm a with h|h|h|h|h<;>rw[h]
 ·exact d7 ⟨rfl,rfl⟩
 ·exact cW (d7 ⟨rfl,rfl⟩)
 ·exact cW (cW (d7 ⟨rfl,rfl⟩))
 ·exact cW (cW (cW (d7 ⟨rfl,rfl⟩)))
 ·exact cW (cW (cW (cW ⟨rfl,rfl⟩)))
theorem MR (a:Nat):j9 a∈mT:=rT.mp (MQ (q:=λn=>mT.contains n) (by decide) a)
section
variable {w:Bool} {r:bB} {T:List Nat} {i a:Nat}
theorem aff:aJ (Ao [.aq 10,.aq 14,.f .none,.f (.int (.ofNat (j9 i))),.f .none,.f (.bool w),.f (i6 a)] ((10,.inst 799 [] [])::vg T)) (.f .none) ((eA w (oq i) (iE a) T 422).hp 0):=by
 delta Ao
 exact aV λG W F k=>WV (k:=k) (Ju a) (WU (MR i) (WT F))
noncomputable def qZ:S:=(.aN 52 (.call (.gl 126) (.cons (.clo 40) .nil) .nil))
noncomputable def q0:S:=(.aN 88 (.co (.lst (.cons (.a6 2) (.cons (.a6 3) (.cons (.a6 4) (.cons (.a6 0) (.cons (.a6 10) (.cons (.a6 1) .nil))))))) (.bin .Mod (.call (.gl 126) (.cons (.clo 40) .nil) .nil) (.a6 6))))
noncomputable def NV:S:=(.aN 46 (.co (.call (.gl 183) .nil .nil) (.bin .Mod (.bin .FloorDiv (.lo 52) (.a6 6)) (.a6 5))))
noncomputable def NW:S:=(.aN 83 (.j8 (.or (.cons (.cmp .Eq (.lo 46) (.ks [13])) (.cons (.cmp .Eq (.lo 46) (.ks [13,10])) .nil))) (.lo 46) (.ks [10])))
noncomputable def NX:S:=(.aN 38 (.j8 (.fy .LtE .LtE (.a6 2) (.lo 88) (.a6 9)) (.lo 88) (.a6 2)))
noncomputable def NY:S:=(.aN 103 (.call (.gl 100) (.cons (.call (.gl 21) .nil .nil) .nil) (.e0 88 (.lo 88) (.e0 198 (.clo 43) (.e0 148 (.lo 46) .nil)))))
noncomputable def NZ:S:=(.exp (.aG (.lo 103) 25 (.cons (.call (.gl 240) .nil .nil) .nil) .nil))
noncomputable def NR:S:=(.aN 36 (.cell 101 .nil))
noncomputable def NS:S:=(.aN 8 (.cell 102 (.cons (.tup (.cons (.ks [115,116,114,101,97,109]) .nil)) .nil)))
noncomputable def NT:S:=(.aN 81 (.bF ac))
noncomputable def NU:S:=(.aN 106 (.bF ac))
def kf (r:bB) (T:List Nat):St:=⟨r.loc,[(20,nd T)],[],[]⟩
noncomputable def bB.o (r:bB) (f i k e s:Option ae):bB:={r with hv:=f,ind:=i,ask:=k,bV:=e,ie:=s}
theorem ac8 {a:Nat} {i k e s:Option ae}:cL w NV (kf (r.o (cp a) i k e s) T) (kf (r.o (cp a) i (ab (.f (i6 a))) e s) T):=λG K F=>by
 have I:gf Jt (.ofNat (mG a))=ab (i6 a):=by
  unfold i6
  rcases Cm a with h|h|h|h|h<;>rw[h]<;>rfl
 exact F _ _ (λ_ k=>k) ⟨by decide,by decide⟩ (by decide) _ (lY rfl I)
theorem ac9 {a:Nat} {f i e s:Option ae}:cL w NW (kf (r.o f i (ab (.f (i6 a))) e s) T) (kf (r.o f i (ab (.f (i6 a))) (ab (.f (.str (iE a)))) s) T):=by
 rcases Ju a with h|h|h|h|h
 all_goals rw[h.1,h.2];intro G K F
 ·exact F ac rfl ac rfl
 ·exact F aa rfl
 ·exact F ac rfl aa rfl
 ·exact F ac rfl ac rfl
 ·exact F ac rfl ac rfl
theorem ada {n:Nat} {f k e s:Option ae} (ar:n∈mT):cL w NX (kf (r.o f (cp n) k e s) T) (kf (r.o f (cp n) k e (cp (cond (inR n) n 2))) T):=λG K F=>by
 rcases e6.mp ar with rfl|ar
 ·exact F aa rfl aa rfl
 rcases e6.mp ar with rfl|ar
 ·exact F aa rfl aa rfl
 rcases e6.mp ar with rfl|ar
 ·exact F aa rfl aa rfl
 rcases e6.mp ar with rfl|ar
 ·exact F ac rfl
 rcases e6.mp ar with rfl|ar
 ·exact F aa rfl ac rfl
 rcases e6.mp ar with rfl|ar
 ·exact F ac rfl
 ·exact nomatch ar
noncomputable def bB.kl (r:bB):bB:={r with jG:=ab (.aq 10)}
theorem adb {i a:Nat} {f e s:Option ae}:cL w NY (kf (r.o f (cp (j9 i)) (ab (.f (i6 a))) e s) T) ⟨(bB.kl (r.o f (cp (j9 i)) (ab (.f (i6 a))) e s)).loc,(eA w (oq i) (iE a) T 422).hp 0,[],[]⟩:=λG K F=>by
 have TV:aJ (Ax [.aq 14] [(14,.inst 834 [] []),(20,nd T)]) (.f .none) (vg T):=by
  delta Ax
  exact aV λ_ _ F k=>F _ rfl k
 have X:aJ (QE [] [(20,nd T)]) (.aq 14) (vg T):=λK k=> ⟨rfl,TV _ ⟨rfl,rfl,k⟩⟩
 have E:aJ (QC [.aq 14,.f .none,.f (.int (.ofNat (j9 i))),.f .none,.f (.bool w),.f (i6 a)] (vg T)) (.aq 10) ((eA w (oq i) (iE a) T 422).hp 0):=λK k=> ⟨rfl,aff _ ⟨rfl,rfl,k⟩⟩
 exact F _ _ X _ _ E
end
def Eh:S:= .qM 2 (.bin .Add (.a6 1) (.bin .Mod (.bin .FloorDiv (.lo 52) (.a6 2)) (.a6 2))) EK
noncomputable def q7 (a:Nat):Nat:=a/2%2
def Z8:S:= .cons NZ (.cons NR (.cons NS (.cons NT (.cons NU (.cons Eh vx)))))
def sW:S:= .cons NV (.cons NW (.cons NX (.cons NY Z8)))
theorem cL.jC {w:Bool} {s:S} {σ σ':St} (h:cL w s σ σ'):aJ (Q7.jC (bN (SL w) s) σ) af σ':=gU λG W F k=>h G (cq W) F k
section
variable {w:Bool} {r:bB} {T:List Nat} {e:List Nat} {n a:Nat}
theorem aat {l:List ae} {σ':St} {hp lh:b5} {lu:List Nat} (L:aJ (gX 2 (bN (SL w) EK) (ob 0 (1+q7 a)) ⟨(r.o (cp a) r.ind r.ask r.bV r.ie).loc,hp,lh,lu⟩) .aQ σ'):cL w Eh ⟨(r.o (cp a) r.ind r.ask r.bV r.ie).loc,hp,lh,lu⟩ σ':=λG K F=>by
 have ar:1+q7 a<=1000000:=bf (iX (kx (ms _ (by decide))) 1) (by decide:1+2<=1000000)
 exact F ⟨by decide,by decide⟩ (by decide) (⟨AX (by decide) (kV _),oH.mpr ar⟩:(-1000000:Int)<=c1 (1+q7 a)/\c1 (1+q7 a)<=1000000) _ _ L
def bB.fT (r:bB) (k:Nat):bB:={r with i:=cp k}
theorem abF (k:fg r e n) (hf:r.hv=cp a) (aD:r.clo=cI ac) (cy:r.dq=cI ac) (he:eo e) (ar:ft n) (dQ:T.length<=100):oJ w (.cons Eh vx) (b6 r (eA w n e T 436) 0 [] [lx]):=by
 have ja:fg (r.fT 0) e n:=⟨k.bV,k.ie,k.jG,k.row,k.j2⟩
 have li:=C4 (w:=w) (T:=T)
 have hd2:=C4 (w:=w) (T:=fp T)
 have pu:=li.ok.le
 have c6:r=r.o (cp a) r.ind r.ask r.bV r.ie:=congrArg (λo=> ({r with hv:=o}:bB)) hf
 have F:=λσ' L=>aat (w:=w) (r:=r) (a:=a) (l:= []) (σ':=σ') (hp:=(eA w n e T 436).hp 0) (lh:= [(101,.list (cg [])),(102,.list ([lx].map .f))]) (lu:= [102,101]) L
 rw[<-c6] at F
 refine c5 (LL (w:=w) (r:=r.fT 0) (p:=eA w n e T 436) (ln:=0) (R:= []) (D:= [lx]) (T:=T) (f:=aa) (fr:=af) ja rfl aD cy ar he.le dQ (fw _) (by decide) (cS rfl) rfl rfl rfl) λhT l1 hX Q=> ?_
 have e1:(((eA w n e T 436).d5 (fp T)).k6 (b7 w T) aa af hX).out=cg (mQ e n aa ac (b7 w T)):=LJ (O:= []) rfl
 have n3:fg ((r.fT 0).uP T (b7 w T) aa hT) e n:=⟨k.bV,k.ie,k.jG,k.row,k.j2⟩
 have bY:q7 a=0\/q7 a=1:=by
  have:q7 a<2:=ms _ (by decide)
  omega
 rcases bY with h0|h0
 ·rw[h0] at F
  refine cL.to (F _ (la Q.jC lc)) ?_
  exact aha (p:=((eA w n e T 436).d5 (fp T)).k6 (b7 w T) aa af hX) n3 rfl rfl rfl rfl e1 rfl he ar li (d7 ⟨rfl,_,rfl⟩)
 ·rw[h0] at F
  refine c5 (LL (w:=w) (r:=((r.fT 0).uP T (b7 w T) aa hT).fT 1) (p:=((eA w n e T 436).d5 (fp T)).k6 (b7 w T) aa af hX) (ln:=l1) (R:=e8 e n aa ac (b7 w T)) (D:=lx::jF aa ac ac (b7 w T)) (T:=fp T) (c:=(b7 w T).c) (h:=(b7 w T).cJ) (f:=ac) (fr:=ab (.dict hX.1 hX.2)) ⟨k.bV,k.ie,k.jG,k.row,k.j2⟩ rfl rfl rfl ar he.le (bf (Vx T) dQ) (bf (ze _ _ _ _ _ pu) (by decide)) (bf (iY (yh ..)) (by decide))
   (by show _+500<=1000000;rw[e1,lO];exact bf (h2 (yp pu) 500) (by decide)) rfl rfl rfl) λiO e3 p2 Tp=> ?_
  have e2:(((((eA w n e T 436).d5 (fp T)).k6 (b7 w T) aa af hX).d5 (fp (fp T))).k6 (b7 w (fp T)) ac (ab (.dict hX.1 hX.2)) p2).out=cg (mQ e n aa ac (b7 w T)++mQ e n ac (b7 w T).cJ (b7 w (fp T))):=LJ (p:=(((eA w n e T 436).d5 (fp T)).k6 (b7 w T) aa af hX).d5 (fp (fp T))) e1
  refine cL.to (F _ (la Q.jC (la Tp.jC lc))) ?_
  exact ahb (p:=((((eA w n e T 436).d5 (fp T)).k6 (b7 w T) aa af hX).d5 (fp (fp T))).k6 (b7 w (fp T)) ac (ab (.dict hX.1 hX.2)) p2) ⟨k.bV,k.ie,k.jG,k.row,k.j2⟩ rfl rfl rfl rfl e2 rfl he ar li hd2 (cW ⟨rfl,_,_,rfl⟩)
def bB.vT (r:bB) (a i:Nat):bB:={r with hv:=cp a,ind:=cp (j9 i),ask:=ab (.f (i6 a)),bV:=ab (.f (.str (iE a))),ie:=cp (oq i),jG:=ab (.aq 10)}
noncomputable def bB.zT (r:bB):bB:={r with row:=ab (.aq 101)}
noncomputable def bB.jN (r:bB):bB:={r with row:=ab (.aq 101),j2:=ab (.aq 102)}
def bB.Pz (r:bB):bB:={r with row:=ab (.aq 101),j2:=ab (.aq 102),clo:=cI ac}
def bB.zU (r:bB):bB:={r with row:=ab (.aq 101),j2:=ab (.aq 102),clo:=cI ac,dq:=cI ac}
theorem ade {i:Nat}:cL w NZ ⟨(r.vT a i).loc,(eA w (oq i) (iE a) T 422).hp 0,[],[]⟩ ⟨(r.vT a i).loc,(eA w (oq i) (iE a) T 436).hp 0,[],[]⟩:=λG K F=>by
 exact F _ _ (hS rfl rfl) _ _ (W2 (p:=eA w (oq i) (iE a) T 422))
theorem ac1 {hp:b5}:cL w NR ⟨r.loc,hp,[],[]⟩ ⟨r.zT.loc,hp,[(101,.list [])],[101]⟩:=λG K F=>by exact F _ rfl
theorem ac2 {hp:b5}:cL w NS ⟨r.zT.loc,hp,[(101,.list [])],[101]⟩ ⟨r.jN.loc,hp,[(101,.list []),(102,.list [.f lx])],[102,101]⟩:=λG K F=>by exact F _ rfl
theorem ac3 {hp lh:b5} {lu:List Nat}:cL w NT ⟨r.jN.loc,hp,lh,lu⟩ ⟨r.Pz.loc,hp,lh,lu⟩:=λG K F=>by exact F
theorem ac4 {hp lh:b5} {lu:List Nat}:cL w NU ⟨r.Pz.loc,hp,lh,lu⟩ ⟨r.zU.loc,hp,lh,lu⟩:=λG K F=>by exact F
theorem ad3 {i:Nat} {k e s:Option ae} (dQ:T.length<=100):oJ w sW (kf (r.o (cp a) (cp (j9 i)) k e s) T):=by
 have L:=abF (w:=w) (r:=(r.vT a i).zU) (T:=T) (e:=iE a) (n:=oq i) (a:=a) ⟨rfl,rfl,rfl,rfl,rfl⟩ rfl rfl rfl (adh a) (agY i) dQ
 exact cL.to ac8 (cL.to ac9 (cL.to (ada (MR i)) (cL.to adb (cL.to ade (cL.to ac1 (cL.to ac2 (cL.to ac3 (cL.to ac4 L))))))))
end
noncomputable def q3:X:=(.hC 20 4 [] (.bin .Mod (.lo 4) (.a6 5040)) (.aK (.lo 93) .no (.a6 12)))
noncomputable def q4:X:=(.cmp .Eq (.bin .Mod (.lo 52) (.a6 2)) (.a6 1))
def uf:cM:=⟨dX,jm,mb,om,gD,pL,[]⟩
def jy:cM:=⟨dX,jm,mb,om,gD,pL,[(40,.aq 20)]⟩
def rD (T:cM) (x:X) (σ:St) (K:ae->St->Prop):Prop:=((ev T x).x σ λv σ=> .ret (K v σ)).holds
def m7 (T:cM) (s:S) (σ:St) (K:cE->St->Prop):Prop:=(bN T s σ λf σ=> .ret (K f σ)).holds
theorem QY {T:cM} {x:X} {σ σ':St} {v:ae} (g: ∀(G:Prop) (K:ae->St->Prop),aB.path G ((ev T x).x σ λv σ=> .ret (K v σ))->K v σ'->G):aJ (rD T x σ) v σ':=λK k=>g _ K (aB.rg _ id) k
theorem PN {T:cM} {s:S} {σ σ':St} {f:cE} (g: ∀(G:Prop) (K:cE->St->Prop),aB.path G (bN T s σ λf σ=> .ret (K f σ))->K f σ'->G):aJ (m7 T s σ) f σ':=λK k=>g _ K (aB.rg _ id) k
noncomputable def rv (zs:List Int):List Nat:=(zs.take 12).map λz=> (z%5040).toNat
theorem ahr (zs:List Int):(rv zs).length<=12:=by unfold rv;rw[eg,HR];exact Sf ..
section
variable {r:bB} {T:List Nat}
noncomputable def bB.pU (r:bB) (zs:List Int):bB:={r with P6:=ab (.f (.lst (zs.map .int)))}
theorem UL {loc:List (Nat×Option ae)}: ∀(zs:List Int) (acc:List ae),aJ (jD (pZ 4 (ev uf (.bin .Mod (.lo 4) (.a6 5040))).x) ((zs.map aj.int).map .f) acc ⟨loc,[],[],[]⟩) (acc++(zs.map λz=>ae.f (.int (z%5040)))) ⟨loc,[],[],[]⟩:=λzs=>by
 induction zs with
 |nil=>exact λacc=>by rw[show acc++List.map (λz:Int=>ae.f (.int (z%5040))) []=acc from dj acc];exact Lq
 |cons z zs ai=>
  intro acc
  have i:=ai (acc++ [.f (.int (z%5040))])
  rw[bt] at i
  exact Lp (σ':=⟨[(4,ab (.f (.int z)))],[],[],[]⟩) (λG K F=>by exact F (by decide)) rfl i
theorem ac0 {zs:List Int} (aA:zs.length<=63):aJ (rD uf q3 ⟨(r.pU zs).loc,[],[],[]⟩) (.aq 20) ⟨(r.pU zs).loc,[(20,nd (rv zs))],[],[]⟩:=by
 have s1:cn (zs.map aj.int)=aa:=f3 (by rw[eg];exact bf aA (by decide))
 have e2: ∀σ,tm (.f (.lst (zs.map .int))) (.f .none) (.f (.int 12)) σ=ab (.f (.lst ((zs.take 12).map aj.int))):=λσ=>by
  show(match cn (zs.map aj.int) with
   |true=>match iv (zs.map aj.int) .none (.int 12) with
    |some r=>ab (ae.f (.lst r))
    |none=>af
   |false=>af)=_
  rw[s1]
  show ab (ae.f (.lst (((zs.map aj.int).drop 0).take (12-0))))=_
  rw[HK,List.map_take]
 have s2:cn ((zs.take 12).map aj.int)=aa:=f3 (by rw[eg,HR];exact bf (Sf ..) (by decide))
 have ik:([]++((zs.take 12).map λz=>ae.f (.int (z%5040))))=(rv zs).map λn=>ae.f (.int (.ofNat n)):=by
  rw[RX]
  unfold rv
  rw[oI]
  exact List.map_congr_left λz _=>congrArg (λi=>ae.f (.int i)) (Int.toNat_of_nonneg (Int.emod_nonneg z (by decide))).symm
 have C:=UL (loc:=(r.pU zs).loc) (zs.take 12) []
 rw[ik] at C
 exact QY λG K F k=>by exact F _ (e2 _) s2 _ _ C _ rfl k
theorem PV (dQ:T.length<=100):aJ (wo [.aq 20] [(20,nd T)]) (.f (.int (.ofNat (T.headD 0)))) [(20,nd T.tail)]:=by
 delta wo
 cases T with
 |nil=>exact aV λ_ _ F k=>F rfl ac rfl k
 |cons a T=>exact aV λ_ _ F k=>F (Ai dQ) aa rfl (Ai dQ) k
theorem ac5 {f i k e s:Option ae} (dQ:T.length<=100):aJ (m7 jy qZ (kf (r.o f i k e s) T)) .aQ (kf (r.o (cp (T.headD 0)) i k e s) T.tail):=PN λG K F k=>by exact F _ _ (PV dQ) k
theorem ac6 {f i k e s:Option ae} (dQ:T.length<=100):aJ (m7 jy q0 (kf (r.o f i k e s) T)) .aQ (kf (r.o f (cp (j9 (T.headD 0))) k e s) T.tail):=by
 have I:gf (mT.map λn=>aj.int (.ofNat n)) (.ofNat (T.headD 0%6))=ab (.int (.ofNat (j9 (T.headD 0)))):=by
  show(mT.map λn=>aj.int (.ofNat n))[T.headD 0%6]? =_
  unfold j9
  rw[HO,A4,nt (show T.headD 0%6<mT.length from ms _ (by decide))]
  rfl
 exact PN λG K F k=>by exact F _ _ (PV dQ) (by decide) _ (lY rfl I) k
theorem ac7 {i k e s:Option ae} {a:Nat}:aJ (rD jy q4 (kf (r.o (cp a) i k e s) T)) (.f (.bool (odd a))) (kf (r.o (cp a) i k e s) T):=by
 rw[show odd a=decide (c1 (a%2)=1) from(x9 (a%2) 1).symm]
 exact QY λG K F k=>by exact F (by decide) k
end
section
theorem Ji {l:List ae}:(eN l).isSome=aa->r9 l=aa:=by
 induction l with
 |nil=>exact λ_=>rfl
 |cons a l ai=>cases a with
  |f v=>
   show(match eN l with
    |some r=>ab (v::r)
    |none=>af).isSome=aa->r9 l=aa
   cases e:eN l with
   |none=>exact cm
   |some r=>exact λ_=>ai (by rw[e];rfl)
  |_=>exact cm
theorem abh {α:Type} {n:Nat} {l m:List (Nat×α)}:aL n (l++m)=(aL n l).or (aL n m):=by
 induction l with
 |nil=>rfl
 |cons p l ai=>
  show(match bA p.1 n with
   |true=>ab p.2
   |false=>aL n (l++m))=(match bA p.1 n with
   |true=>ab p.2
   |false=>aL n l).or (aL n m)
  cases bA p.1 n with
  |true=>rfl
  |false=>exact ai
theorem Ds {l m:b5} {y:Nat}:gl (l++m) y=(gl l y).or (gl m y):=by
 unfold gl
 cases d6 y 100 with
 |true=>exact abh
 |false=>rfl
theorem VC {b:b5} {y:Nat} {v:cc} {a:b5}:nR a b=aa->aL y a=ab v->aL y b=af:=by
 induction a with
 |nil=>exact λ_=>a3
 |cons p r ai=>
  intro d h
  have d:=(gF ..).mp d
  have h:(match bA p.1 y with
   |true=>ab p.2
   |false=>aL y r)=ab v:=h
  cases q:bA p.1 y with
  |false=>rw[q] at h;exact ai d.2 h
  |true=>
   have d:=d.1
   rw[fh q] at d
   revert d
   cases aL y b with
   |none=>exact λ_=>rfl
   |some _=>exact cm
noncomputable def lz (g:Nat->Option cc) (ρ' ax:Nat->aR) (n:Nat):aR:=cond (g (n/2)).isSome (ρ' n) (ax n)
theorem AL {g:Nat->Option cc} {ρ' ax:Nat->aR} {y:Nat}:lz g ρ' ax (2*y)=cond (g y).isSome (ρ' (2*y)) (ax (2*y))/\lz g ρ' ax (2*y+1)=cond (g y).isSome (ρ' (2*y+1)) (ax (2*y+1)):=by
 unfold lz
 rw[show 2*y/2=y by omega,show(2*y+1) /2=y by omega]
 exact⟨rfl,rfl⟩
variable [WP]
theorem acw {a b:b5} {y:Nat} {ao:cc} (d:nR a b=aa) (e:gl b y=ab ao):gl a y=af:=by
 have lt:=mr (qP e)
 unfold gl at e⊢
 rw[show d6 y 100=aa from lt] at e⊢
 show aL y a=af
 cases q:aL y a with
 |none=>rfl
 |some v=>exact a3 ((VC d q).symm.trans e)
section
theorem fe.join {aP Fr:bh} {ax ρ':Nat->aR} {a b:b5} {own:aR->Prop} {h₀ h:cw} (iw:fe aP (hy own h₀ Fr) ρ' (gl a) [] h) (iW:fe aP Fr ax (gl b) [] h) (d:nR a b=aa) (o: ∀y ao,gl b y=ab ao-> ∀x∈adr ax y ao,own x) (al: ∀x,own x-> ∃o,h₀.get? x=ab o):
  fe aP Fr (lz (gl a) ρ' ax) (gl (a++b)) [] h/\(∀y,dO (gl a) [] y->dO (gl (a++b)) [] y/\lz (gl a) ρ' ax (2*y)=ρ' (2*y))/\ ∀y,dO (gl b) [] y->dO (gl (a++b)) [] y/\lz (gl a) ρ' ax (2*y)=ax (2*y):=by
 have N: ∀y,dO (gl a) [] y->dO (gl (a++b)) [] y/\lz (gl a) ρ' ax (2*y)=ρ' (2*y)/\lz (gl a) ρ' ax (2*y+1)=ρ' (2*y+1):=λy u=>u.elim (λu=>by
  rw[AL.1,AL.2,u.1]
  refine⟨.inl ⟨?_,u.2⟩,rfl,rfl⟩
  rw[Ds,Sj,u.1];rfl) λu=>absurd u eI
 have O: ∀y,dO (gl b) [] y->dO (gl (a++b)) [] y/\lz (gl a) ρ' ax (2*y)=ax (2*y)/\lz (gl a) ρ' ax (2*y+1)=ax (2*y+1):=λy u=>u.elim (λu=>ak (w8.mp u.1) λao e=>by
  rw[AL.1,AL.2,acw d e]
  refine⟨.inl ⟨?_,u.2⟩,rfl,rfl⟩
  rw[Ds,Sj,u.1,Rl]) λu=>absurd u eI
 have U: ∀{g:b5} {y ao},gl g y=ab ao->dO (gl g) [] y:=λ{g y ao} e=> .inl ⟨by rw[e];rfl,qP e⟩
 have two: ∀y ao,gl (a++b) y=ab ao->gl a y=ab ao/\adr (lz (gl a) ρ' ax) y ao=adr ρ' y ao\/gl b y=ab ao/\adr (lz (gl a) ρ' ax) y ao=adr ax y ao:=λy ao e=>by
  rw[Ds] at e
  cases q:gl a y with
  |some v=>
   rw[q] at e
   have n:=(N y (U q)).2
   exact .inl ⟨e,o2 n ao⟩
  |none=>
   rw[q] at e
   have n:=(O y (U e)).2
   exact .inr ⟨e,o2 n ao⟩
 have out: ∀{x},hy own h₀ Fr x=af-> ¬own x/\Fr x=af:=λ{x} e=>by
  have n: ¬own x:=λz=>ak (al x z) λo q=>by rw[vb z,q] at e;exact a3 e.symm
  rw[vc n] at e
  exact⟨n,e⟩
 refine⟨⟨iW.bE,iW.fr,λy ao e=> (two y ao e).elim (λe=> ?_) λe=> ?_,λy ao e x aH=> (two y ao e).elim (λe=> ?_) λe=> ?_,λy z ao bo e1 e2 ne x aH cP=> ?_⟩,λy u=> ⟨(N y u).1,(N y u).2.1⟩,λy u=> ⟨(O y u).1,(O y u).2.1⟩⟩
 ·have n:=N y (U e.1)
  exact ix (dT.refl _) (λz u=> (N z u).1) (λz u=> (N z u).2.1) (λ_ _=>rfl) n.2.1 n.2.2 (iw.cell y ao e.1)
 ·have n:=O y (U e.1)
  exact ix (dT.refl _) (λz u=> (O z u).1) (λz u=> (O z u).2.1) (λ_ _=>rfl) n.2.1 n.2.2 (iW.cell y ao e.1)
 ·rw[e.2] at aH
  exact⟨(iw.ca y ao e.1 x aH).1,(out (iw.ca y ao e.1 x aH).2).2⟩
 ·rw[e.2] at aH
  exact iW.ca y ao e.1 x aH
 ·refine(two y ao e1).elim (λe=> (two z bo e2).elim (λf=> ?_) λf=> ?_) λe=> (two z bo e2).elim (λf=> ?_) λf=> ?_<;>rw[e.2] at aH<;>rw[f.2] at cP
  ·exact iw.gn y z ao bo e.1 f.1 ne x aH cP
  ·exact(out (iw.ca y ao e.1 x aH).2).1 (o z bo f.1 x cP)
  ·exact(out (iw.ca z bo f.1 x cP).2).1 (o y ao e.1 x aH)
  ·exact iW.gn y z ao bo e.1 f.1 ne x aH cP
variable {prog:cO} {w:ba} {S fF:cM} {Kf:bZ} {k:Nat} {base:cw}
theorem Xy {C e7 id:Nat} {fU:Nat} {p:List Nat×List (Nat×aj)} {pt eM:a4} (X:Kf.In base) (hm:rZ Kf C=aa) (bj:hL Kf (.ref C) "__init__" =ab (ab (.ref e7))) (hf:oT Kf (.ref e7)=ab (.type "function"))
  (init:lC prog w S base k e7) (qU:aL e7 S.a8=ab (fU::p.1,p.2)) (qV:aL e7 S.pt=ab eM) (qW:iM fU p.1=ac) (nZ:aL C fF.a8=ab p) (n1:aL C fF.pt=ab pt) (lt:id<100)
  (mS: ∀full hp K,pt full hp K->(eN full).isSome=aa/\eM (.aq id::full) [(id,.inst C [] [])] λr dn=>r= .f .none/\nR dn hp=aa/\(aL id dn).isSome=aa/\K (.aq id) (dn++hp)):
  lC prog w fF base (k+1) C:=by
 intro rc zS e1 e2
 cases bQ (nZ.symm.trans e1)
 cases bQ (n1.symm.trans e2)
 intro A s aP Fr ax hp pos vs kw kvs full K R aw Cl ag aW aS hz i9 g1 g2 h back
 have h:=mS full hp K h
 have f6:=Jo (ρ':=ax) (U':=dO (gl []) []) aW aS hz i9 (Ji h.1)
 have al: ∀b,(∃y ao,gl hp y=ab ao/\b∈adr ax y ao)-> ∃o,s.heap.get? b=ab o:=λb z=>bT z λy ao z=>lM (Cl.cell y ao z.1) b z.2
 exact EP (Fr:=hy (λb=> ∃y ao,gl hp y=ab ao/\b∈adr ax y ao) s.heap Fr) (hp:= []) X hm bj hf init qU qV qW lt aw
  (Cl.hide (λb o=>bT o λy ao o=> (Cl.ca y ao o.1 b o.2).1) (λx ao e=>a3 ((qQ x).symm.trans e)) (λx ao e=>a3 ((qQ x).symm.trans e)) λx ao e=>a3 ((qQ x).symm.trans e))
  ag f6.1 f6.2 hz i9 g1 g2 rfl h.2 λeH ρ' dn s' x B a ci=>by
   have J:=B.aY.join (Cl.QO (λb o=>bT o λy ao o=> (Cl.ca y ao o.1 b o.2).2) (λx ao e a aE=> ⟨x,ao,e,aE⟩) B.bE B.aY.bE B.aY.fr) ci.1 (λy ao e x aH=> ⟨y,ao,e,aH⟩) al
   exact back _ _ _ s' _ _ ⟨B.bE,λy u=> (J.2.2 y u).1,λy u=> (J.2.2 y u).2,J.1,B.gens,B.os⟩ (show ec _ _ _ (.aq id) x from⟨(J.2.1 id a.1).1,a.2.trans (congrArg xa (J.2.1 id a.1).2.symm)⟩) ci.2.2
end
end
section
theorem jc {α:Type} {a:Nat} {v:α} {l:List (Nat×α)}:aL a l=ab v->(a,v)∈l:=by
 induction l with
 |nil=>exact a3
 |cons p l ai=>
  show(match bA p.1 a with
   |true=>ab p.2
   |false=>aL a l)=ab v->_
  cases q:bA p.1 a with
  |true=>exact λh=>by rw[<-fh q,<-bQ h];exact et
  |false=>exact λh=>eZ _ (ai h)
theorem ah7 {l:List ae}: ∀{r:List aj},eN l=ab r->l=r.map .f:=by
 induction l with
 |nil=>exact λh=>by rw[<-bQ h];rfl
 |cons a l ai=>cases a with
  |f v=>
   intro r h
   have h:(match eN l with
    |some r=>ab (v::r)
    |none=>af)=ab r:=h
   revert h
   cases e:eN l with
   |none=>exact a3
   |some iu=>exact λh=>by rw[<-bQ h,ai e];rfl
  |_=>exact a3
def AS:Nat->(List aj->Prop)->Prop
 |0,P=>P []
 |n+1,P=> ∀a,AS n λl=>P (a::l)
theorem cur {l:List aj}: ∀{P:List aj->Prop},AS l.length P->P l:=by
 induction l with
 |nil=>exact λh=>h
 |cons a l ai=>exact λh=>ai (h a)
def hg:List (Nat×Q7.S):= [(873,JF),(245,JG),(225,JH),(379,xJ),(615,JI),(774,Cr),(699,JQ),(415,JR),(407,JS),(664,JU),(671,Cu),(657,JV),(629,JW),(706,J3),(112,J6),(35,J7),(1841,J8),(1198,Kj),(1235,Kl),(817,Km),(831,Kn),(824,Ko),(356,Kp),(277,Kq),(1138,Kr),(1559,Ks),(1335,KJ),(1356,KN),(1342,KU),(1363,xX),(193,KV),(917,KW),(852,KX),(1176,KY),(2039,KZ),(2057,CB),(2050,K0),(2062,xY),(2069,K1),(422,JP),(400,JT),(721,J0),(736,J1),(713,J2),(1228,Cy),(1214,Cz),(1206,Kk),(1321,KI),(692,Cq),(728,JZ),(750,J4),(743,J5),(1190,Ki),(1221,Kh),(1573,Kt),(1566,Ku),(1314,KH),(1692,KO),(1622,xQ),(1786,KQ),(1765,xS),(1772,xT),(1636,xV),(643,JJ),(451,JK),(444,Ct),(781,Cv),(788,Cw),(1848,Ke),(1412,Ky),(1384,KE),(1377,KG),(1713,sj),(1699,xN),(1706,xO),(1664,xP),(1650,KR),(1657,KS),(1608,xU),(1629,xW),(436,JM),(650,JX),(636,JY),(1405,Kx),(1398,Kz),(1685,xM),(1643,xR),(480,JO),(1524,Kv),(1615,KP),(466,JN),(1391,Kw),(1517,KA),(1510,KC),(458,JL),(1328,KD),(393,Cs),(1300,CA),(1307,KL),(1869,Kb),(1912,Kd),(1883,Cx),(1890,J9),(1862,xK),(1876,Ka),(1855,Kc),(1834,Kg)]
noncomputable def zt:List (Nat×Nat):= [(876,873),(248,245),(900,852),(228,225),(888,852),(799,379),(53,35),(834,817),(359,356),(280,277),(1141,1138),(208,112),(932,852),(196,193),(920,917),(2029,1820)]
variable [WP]
structure rQ (prog:cO) (Kf:bZ) (base:cw):Prop where
 top:Top Kf base (aI [])
 fns: ∀a b,aL a hg=ab b-> ∀p,aL a gD=ab p->rO base a p b
 EU: ∀C f,aL C zt=ab f->rZ Kf C=aa/\hL Kf (.ref C) "__init__" =ab (ab (.ref f))/\oT Kf (.ref f)=ab (.type "function")
 keep: ∀a p,aL a gD=ab p->Bx Kf (.ref a)=aa
 fn: ∀a p,aL a gD=ab p->aL a jm=af->fnIn Kf a=aa
 aeD: ∃c f xs r,qv= .cons (.exp (.mc c f xs)) r/\tN prog Kf base 1291 ([37,97],[]) c f xs r
 aeC: ∃c f xs r,qu= .cons (.exp (.mc c f xs)) r/\tN prog Kf base 1820 ([37,97],[]) c f xs r
theorem Ah {Kf:bZ} {base:cw} {pt:List (Nat×a4)} {clo:List (Nat×ae)} (h:Top Kf base (aI [])):Top Kf base ⟨dX,jm,mb,om,gD,pt,clo⟩:=
 ⟨⟨h.gZ,h.cls,h.ii,h.mM⟩,h.dd,h.sub,h.yH,h.Lw,h.g,h.lim⟩
section
variable (prog:cO) (w:ba) (base:cw) (k:Nat)
def fv (x:Nat×a4):Prop:=(∃p,aL x.1 gD=ab p)/\ ∀fF:cM,fF.a8=gD->aL x.1 fF.pt=ab x.2->lC prog w fF base k x.1
def Ok (l:List (Nat×a4)):Prop:= ∀x∈l,fv prog w base k x
end
variable {prog:cO} {w:ba} {Kf:bZ} {base:cw}
theorem Ok.nil {k:Nat}:Ok prog w base k []:=λx h=>absurd h eI
theorem Ok.cons {k:Nat} {x:Nat×a4} {l:List (Nat×a4)} (h:fv prog w base k x) (t:Ok prog w base k l):Ok prog w base k (x::l):=wY.mpr ⟨h,t⟩
theorem Ok.up {k:Nat} {l:List (Nat×a4)} (h:Ok prog w base k l):Ok prog w base (k+1) l:=λx m=> ⟨(h x m).1,λfF e1 e2 p pt V7 V9 A s aP Fr ax hp pos vs kw kvs full K R aw=>
 (h x m).2 fF e1 e2 p pt V7 V9 A s aP Fr ax hp pos vs kw kvs full K R ⟨bf (iX (tX 3 (ky k)) _) aw.1,bf (iX (tX 20 (ky k)) _) aw.2.1,aw.2.2⟩⟩
theorem Ok.fns {k:Nat} {l:List (Nat×a4)} (X:rQ prog Kf base) (h:Ok prog w base k l) (S:cM) (e1:S.a8=gD) (e2:S.pt=l) (ik:S.ii=jm):iz prog w Kf S base k where
 ok a u e:=(h (a,u) (jc (e2▸e))).2 S e1 e
 keep a u e:=ak (h (a,u) (jc (e2▸e))).1 λp q=>X.keep a p q
 fn a u e n:=ak (h (a,u) (jc (e2▸e))).1 λp q=>X.fn a p q (ik▸n)
variable (ay:WP.P=w.params) (X:rQ prog Kf base) {pt:List (Nat×a4)} {k:Nat} (F:iz prog w Kf (aI pt) base k)
section
include ay X F
theorem fv.b {a:Nat} {u:a4} {b:Q7.S} {p:List Nat×List (Nat×aj)} {ex:List Nat} (hp:aL a gD=ab p) (ag:aL a hg=ab b) (d3:u=bH (aI pt) p.1 ex b):fv prog w base (k+1) (a,u):=
 ⟨⟨p,hp⟩,λfF e1 e2=>Xw (S:=aI pt) (X.fns a b ag p hp) X.top.lim (λΓ env sc e Ev=>FJ ay (Ah X.top) F b Γ env sc e Ev) rfl (e1▸hp) e2 λfull hp K h=>d3▸h⟩
theorem fv.s {a:Nat} {u:a4} {b:Q7.S} {p:List Nat×List (Nat×aj)} {ex:List Nat} (hp:aL a gD=ab p) (D: ∃c f xs r,b= .cons (.exp (.mc c f xs)) r/\tN prog Kf base a p c f xs r) (d3:u=bH (aI pt) p.1 ex b):fv prog w base (k+1) (a,u):=
 ⟨⟨p,hp⟩,λfF e1 e2=>ni D λc f xs r D=>XA (S:=aI pt) D.2 ay (Ah X.top) F rfl (e1▸hp) e2 λfull hp K h=>by rw[d3,D.1] at h;exact h⟩
end
variable {a e7 id:Nat} {u ry:a4} {p:List Nat×List (Nat×aj)} (hp:aL a gD=ab p) (hm:aL a zt=ab e7) (dC:aL e7 gD=ab (37::p.1,p.2)) (bj:aL e7 pt=ab ry) (hs:iM 37 p.1=ac)
include X F hp hm dC bj hs
theorem fv.c {ns:List Nat} (d3:u=jK a ns) (h:AS ns.length λl=> ∀K:ae->b5->Prop,K (.f .none) [(99,.inst a ns (l.map .f))]->ry (.aq 99::l.map .f) [(99,.inst a [] [])] K):fv prog w base (k+1) (a,u):=
 have m:=X.EU a e7 hm
 ⟨⟨p,hp⟩,λfF e1 e2=>Xx (S:=aI pt) X.top.gZ m.1 m.2.1 m.2.2 (F.ok e7 ry bj) dC bj hs (e1▸hp) e2 λfull hp K g=>by
  rw[d3] at g
  exact ak g λl g=>by
   rw[<-fh g.2.1] at h
   refine⟨Ji (by rw[g.1];rfl), ?_⟩
   rw[ah7 g.1]
   exact cur h _ ⟨rfl,ns,l,rfl,g.2.2⟩⟩
theorem fv.m (d3:u=ET a id ry) (lt:id<100):fv prog w base (k+1) (a,u):=
 have m:=X.EU a e7 hm
 ⟨⟨p,hp⟩,λfF e1 e2=>Xz (S:=aI pt) X.top.gZ m.1 m.2.1 m.2.2 (F.ok e7 ry bj) dC bj hs (e1▸hp) e2 lt λfull hp K g=>by rw[d3] at g;exact g⟩
theorem fv.f (d3:u=OK a id ry) (lt:id<100):fv prog w base (k+1) (a,u):=
 have m:=X.EU a e7 hm
 ⟨⟨p,hp⟩,λfF e1 e2=>Xy (S:=aI pt) X.top.gZ m.1 m.2.1 m.2.2 (F.ok e7 ry bj) dC bj hs (e1▸hp) e2 lt λfull hp K g=>by rw[d3] at g;exact g⟩
end
section
variable [WP] {prog:cO} {w:ba} {Kf:bZ} {base:cw} (ay:WP.P=w.params) (X:rQ prog Kf base)
include ay X
theorem N9:Ok prog w base 1 eM:=by
 have F:=Ok.fns X (Ok.nil (w:=w) (k:=0)) (aI []) rfl rfl rfl
 have B:= @fv.b _ prog w Kf base ay X [] 0 F
 with_unfolding_all exact .cons (B rfl rfl rfl) (.cons (B rfl rfl rfl) (.cons (B rfl rfl rfl) (.cons (B rfl rfl rfl) (.cons (B rfl rfl rfl) (.cons (B rfl rfl rfl) (.cons (B rfl rfl rfl) (.cons (B rfl rfl rfl) (.cons (B rfl rfl rfl) (.cons (B rfl rfl rfl) (.cons (B rfl rfl rfl) (.cons (B rfl rfl rfl) (.cons (B rfl rfl rfl) (.cons (B rfl rfl rfl) (.cons (B rfl rfl rfl) (.cons (B rfl rfl rfl) (.cons (B rfl rfl rfl) (.cons (B rfl rfl rfl) (.cons (B rfl rfl rfl) (.cons (B rfl rfl rfl) (.cons (B rfl rfl rfl) (.cons (B rfl rfl rfl) (.cons (B rfl rfl rfl) (.cons (B rfl rfl rfl) (.cons (B rfl rfl rfl) (.cons (B rfl rfl rfl) (.cons (B rfl rfl rfl) (.cons (B rfl rfl rfl) (.cons (B rfl rfl rfl) (.cons (B rfl rfl rfl) (.cons (B rfl rfl rfl) (.cons (B rfl rfl rfl) (.cons (B rfl rfl rfl) (.cons (B rfl rfl rfl) (.cons (B rfl rfl rfl) (.cons (B rfl rfl rfl) (.cons (B rfl rfl rfl) (.cons (B rfl rfl rfl) (.cons (B rfl rfl rfl) .nil))))))))))))))))))))))))))))))))))))))
theorem Oa:Ok prog w base 2 eR:=by
 have F:=Ok.fns X (N9 ay X) (aI eM) rfl rfl rfl
 have B:= @fv.b _ prog w Kf base ay X eM 1 F
 have C:= @fv.c _ prog w Kf base X eM 1 F
 with_unfolding_all exact .cons (C rfl rfl rfl rfl rfl rfl λ_ _ _ _ _ h=>h) (.cons (C rfl rfl rfl rfl rfl rfl λ_ _ _ _ h=>h) (.cons (C rfl rfl rfl rfl rfl rfl λ_ _ _ h=>h) (.cons (C rfl rfl rfl rfl rfl rfl λ_ _ _ _ _ _ h=>h) (.cons (C rfl rfl rfl rfl rfl rfl λ_ _ _ h=>h) (.cons (fv.m X F rfl rfl rfl rfl rfl rfl (by decide)) (.cons (B rfl rfl rfl) (.cons (B rfl rfl rfl) (.cons (B rfl rfl rfl) (.cons (B rfl rfl rfl) (.cons (B rfl rfl rfl) (.cons (C rfl rfl rfl rfl rfl rfl λ_ _ _ _ _ _ _ h=>h) (.cons (B rfl rfl rfl) (.cons (B rfl rfl rfl) (.cons (B rfl rfl rfl) (.cons (fv.m X F rfl rfl rfl rfl rfl rfl (by decide)) (.cons (C rfl rfl rfl rfl rfl rfl λ_ _ _ _ _ _ _ _ _ h=>h) (.cons (C rfl rfl rfl rfl rfl rfl λ_ _ _ _ _ _ _ _ h=>h) (.cons (C rfl rfl rfl rfl rfl rfl λ_ _ _ _ _ _ h=>h) (.cons (B rfl rfl rfl) (.cons (C rfl rfl rfl rfl rfl rfl λ_ _ _ h=>h) (.cons (C rfl rfl rfl rfl rfl rfl λ_ _ _ h=>h) (.cons (C rfl rfl rfl rfl rfl rfl λ_ _ _ _ h=>h) (.cons (C rfl rfl rfl rfl rfl rfl λ_ _ _ _ h=>h) (N9 ay X).up)))))))))))))))))))))))
theorem Oe:Ok prog w base 3 dr:=by
 have F:=Ok.fns X (Oa ay X) (aI eR) rfl rfl rfl
 have B:= @fv.b _ prog w Kf base ay X eR 2 F
 with_unfolding_all exact .cons (B rfl rfl rfl) (.cons (B rfl rfl rfl) (.cons (B rfl rfl rfl) (.cons (B rfl rfl rfl) (.cons (B rfl rfl rfl) (.cons (B rfl rfl rfl) (.cons (B rfl rfl rfl) (.cons (B rfl rfl rfl) (.cons (B rfl rfl rfl) (.cons (B rfl rfl rfl) (.cons (B rfl rfl rfl) (.cons (B rfl rfl rfl) (.cons (B rfl rfl rfl) (.cons (B rfl rfl rfl) (.cons (B rfl rfl rfl) (Oa ay X).up))))))))))))))
theorem Of:Ok prog w base 4 g4:=by
 have F:=Ok.fns X (Oe ay X) (aI dr) rfl rfl rfl
 have B:= @fv.b _ prog w Kf base ay X dr 3 F
 with_unfolding_all exact .cons (B rfl rfl rfl) (.cons (B rfl rfl rfl) (.cons (B rfl rfl rfl) (.cons (B rfl rfl rfl) (.cons (B rfl rfl rfl) (.cons (B rfl rfl rfl) (.cons (B rfl rfl rfl) (.cons (B rfl rfl rfl) (.cons (B rfl rfl rfl) (.cons (B rfl rfl rfl) (.cons (B rfl rfl rfl) (.cons (B rfl rfl rfl) (.cons (B rfl rfl rfl) (.cons (B rfl rfl rfl) (.cons (B rfl rfl rfl) (.cons (B rfl rfl rfl) (.cons (B rfl rfl rfl) (Oe ay X).up))))))))))))))))
theorem Og:Ok prog w base 5 pM:=by
 have F:=Ok.fns X (Of ay X) (aI g4) rfl rfl rfl
 have B:= @fv.b _ prog w Kf base ay X g4 4 F
 with_unfolding_all exact .cons (B rfl rfl rfl) (.cons (B rfl rfl rfl) (.cons (B rfl rfl rfl) (.cons (fv.s (ex:= []) ay X F rfl X.aeD rfl) (.cons (B rfl rfl rfl) (.cons (B rfl rfl rfl) (.cons (B rfl rfl rfl) (.cons (B rfl rfl rfl) (Of ay X).up)))))))
theorem Oh:Ok prog w base 6 pN:=by
 have F:=Ok.fns X (Og ay X) (aI pM) rfl rfl rfl
 have B:= @fv.b _ prog w Kf base ay X pM 5 F
 with_unfolding_all exact .cons (B rfl rfl rfl) (.cons (fv.s (ex:= []) ay X F rfl X.aeC rfl) (.cons (B rfl rfl rfl) (.cons (B rfl rfl rfl) (Og ay X).up)))
theorem Oi:Ok prog w base 7 ti:=by
 have F:=Ok.fns X (Oh ay X) (aI pN) rfl rfl rfl
 have B:= @fv.b _ prog w Kf base ay X pN 6 F
 with_unfolding_all exact .cons (B rfl rfl rfl) (.cons (fv.f X F rfl rfl rfl rfl rfl rfl (by decide)) (.cons (B rfl rfl rfl) (.cons (B rfl rfl rfl) (.cons (B rfl rfl rfl) (Oh ay X).up))))
theorem Oj:Ok prog w base 8 kh:=by
 have F:=Ok.fns X (Oi ay X) (aI ti) rfl rfl rfl
 have B:= @fv.b _ prog w Kf base ay X ti 7 F
 with_unfolding_all exact .cons (B rfl rfl rfl) (.cons (B rfl rfl rfl) (Oi ay X).up)
theorem Ol:Ok prog w base 9 iQ:=by
 have F:=Ok.fns X (Oj ay X) (aI kh) rfl rfl rfl
 have B:= @fv.b _ prog w Kf base ay X kh 8 F
 with_unfolding_all exact .cons (B rfl rfl rfl) (.cons (B rfl rfl rfl) (.cons (B rfl rfl rfl) (Oj ay X).up))
theorem Om:Ok prog w base 10 pO:=by
 have F:=Ok.fns X (Ol ay X) (aI iQ) rfl rfl rfl
 have B:= @fv.b _ prog w Kf base ay X iQ 9 F
 with_unfolding_all exact .cons (B rfl rfl rfl) (.cons (B rfl rfl rfl) (.cons (B rfl rfl rfl) (Ol ay X).up))
theorem Ob:Ok prog w base 11 th:=by
 have F:=Ok.fns X (Om ay X) (aI pO) rfl rfl rfl
 have B:= @fv.b _ prog w Kf base ay X pO 10 F
 with_unfolding_all exact .cons (B rfl rfl rfl) (.cons (B rfl rfl rfl) (Om ay X).up)
theorem Oc:Ok prog w base 12 vR:=by
 have F:=Ok.fns X (Ob ay X) (aI th) rfl rfl rfl
 have B:= @fv.b _ prog w Kf base ay X th 11 F
 with_unfolding_all exact .cons (B rfl rfl rfl) (.cons (B rfl rfl rfl) (Ob ay X).up)
theorem Od:Ok prog w base 13 pL:=by
 have F:=Ok.fns X (Oc ay X) (aI vR) rfl rfl rfl
 have B:= @fv.b _ prog w Kf base ay X vR 12 F
 with_unfolding_all exact .cons (B rfl rfl rfl) (Oc ay X).up
end
section
theorem zi {α:Type} {G:Prop} {n:Nat} {v:α} {p:Nat×α} {l:List (Nat×α)} (h:aL n (p::l)=ab v) (ja:n=p.1->v=p.2->G) (n3:aL n l=ab v->G):G:=by
 have h:(match bA p.1 n with
  |true=>ab p.2
  |false=>aL n l)=ab v:=h
 cases q:bA p.1 n with
 |true=>rw[q] at h;exact ja (fh q).symm (bQ h).symm
 |false=>rw[q] at h;exact n3 h
@[irreducible] def zd (b:Bool) (σ:St):Prop:=m7 (SL b) sW σ λg _=>g= .hG (.f (.bool aa))
def Eb (v:ae) (σ:St):Prop:= ∃b,v= .f (.bool b)/\zd b σ
@[irreducible] def vv (σ:St):Prop:=rD jy q4 σ Eb
@[irreducible] def vu (σ:St):Prop:=m7 jy q0 σ λg σ=>g= .aQ/\vv σ
@[irreducible] def vt (σ:St):Prop:=m7 jy qZ σ λg σ=>g= .aQ/\vu σ
@[irreducible] def vr (σ:St):Prop:=rD uf q3 σ λv σ=>v= .aq 20/\vt σ
noncomputable def sY:bB:=⟨af,af,af,af,af,af,af,af,af,af,af,af,af,af,af,af,af,af,af,af,af,af,af,af,af⟩
theorem aaG {zs:List Int} (cH:zs.length<=63):vr ⟨(sY.pU zs).loc,[],[],[]⟩:=
 have t1:(rv zs).length<=100:=bf (ahr zs) (by decide)
 have aO: ∀{l:List Nat},l.length<=100->l.tail.length<=100:=λ{l} h=>by rw[w0];exact bf (oK _ _) h
 by delta vr vt vu vv Eb zd;exact ac0 (r:=sY) cH _ ⟨rfl,ac5 (r:=sY.pU zs) t1 _ ⟨rfl,ac6 (r:=sY.pU zs) (aO t1) _ ⟨rfl,ac7 (r:=sY.pU zs) _ ⟨_,rfl,ak (ad3 (w:=odd ((rv zs).headD 0)) (r:=sY.pU zs) (aO (aO t1))) λσ' h=>h _ (λg _=> .ret (g= .hG (.f (.bool aa)))) (aB.rg _ id) rfl⟩⟩⟩⟩
noncomputable def s1 (l:List ct):ct:=l.headD default
def xZ (sc:cC) (b:List ct):List ct:=
 .Assign [jg 40 (ef (s1 b))] ((au sc q3).e (b4 (s1 b))) (s1 b).pos::(dH sc qZ).e (s1 b.tail)::(dH sc q0).e (s1 b.tail.tail):: .Assign [jg 43 (ef (s1 b.tail.tail.tail))] ((au sc q4).e (b4 (s1 b.tail.tail.tail))) (s1 b.tail.tail.tail).pos::(dH sc sW).b0 b.tail.tail.tail.tail
def La (sc:cC) (b:List ct):Bool:=(au sc q3).x (b4 (s1 b))&&(dH sc qZ).s (s1 b.tail)&&(dH sc q0).s (s1 b.tail.tail)&&q9 ((au sc q4).e (b4 (s1 b.tail.tail.tail)))&&(au sc q4).x (b4 (s1 b.tail.tail.tail))&&(dH sc sW).b b.tail.tail.tail.tail
theorem ag8 {env:dm} {dw:Expr} {g:List Comprehension} {sc:cC} {t:aZ} {p q:eu} {l:Nat} (aS:env.kindOf t=ab .cell):xo (.ListComp dw g sc q) (ab (.Name t p)) l env=pure ac:=by
 show(pure (env.blockKind== .function&&env.kindOf t==ab .local&&p.line==q.line&& !(sc.names.any λx=>x.1==t&&(x.2== .local||x.2== .cell))):hK Bool)=pure ac
 rw[aS,show((ab SJ==ab NameKind.local):Bool)=ac by decide,hq,wJ,wJ]
variable [WP]
theorem aX.ad2 {Γ:bM} {T:bG} {s:az} {c:aR} {o eh:bX} {h':cw} {pin:Nat->Option aR} (N:aX Γ T s) (aD:Γ.Fr c=ab o) (hs:Bp c s.heap h') (bW:h'.get? c=ab eh) (hp: ∀x a,pin x=ab a->T.U x/\T.ax (2*x)=a):
  aX ⟨Γ.Fr.ins c eh,Γ.L,Γ.base,Γ.gens,Γ.os,pin⟩ T {s with heap:=h'}:=by
 have f:=(N.aY.fr c o aD).2
 have ne: ∀{b},Γ.Fr b=af->b≠c:=λ{b} e q=>by rw[q,aD] at e;exact a3 e.symm
 refine⟨⟨λb x e=> (hs.2 b λq=>by rw[q,f] at e;exact a3 e).trans (N.aY.bE b x e),λb x e=> ?_,λy ao e=>ix (dT.refl _) (λ_ h=>h) (λ_ _=>rfl) (λa aE=> (hs.2 a (ne (N.aY.ca y ao e a aE).2)).symm) rfl rfl (N.aY.cell y ao e),
  λy ao e a aE=>have z:=N.aY.ca y ao e a aE;⟨z.1,(bh.gb _ _ (ne z.2)).trans z.2⟩,N.aY.gn⟩,⟨ak N.lo.ns λm h=> ⟨m,h.1.sameBut hs (ne N.lo.free.2),h.2⟩,⟨N.lo.free.1,(bh.gb _ _ (ne N.lo.free.2)).trans N.lo.free.2⟩,N.lo.b2,N.lo.lu⟩,N.base,N.gens,N.os,hp⟩
 by_cases q:b=c
 ·rw[q] at e⊢
  exact⟨bQ ((bh.gc _ _ _).symm.trans e)▸bW,f⟩
 ·have e:=(bh.gb _ _ q).symm.trans e
  exact⟨(hs.2 b q).trans (N.aY.fr b x e).1,(N.aY.fr b x e).2⟩
section
variable {prog:cO} {w:ba} {Kf:bZ} {base:cw} {A:c2} {E:ah->az->Prop} {s bk:az} {sc:cC} {env:dm} {Γ:bM} {T:bG} {S:cM}
theorem Qj {n:Nat} {c:aR} {o:bX} {v:ah} {pin:Nat->Option aR} {Q:Unit->az->Prop} (Ev:dk sc env Γ S) (cu:pB sc (nm n)=aa) (l:env.cells.lookup (nm n)=ab c) (hf:Γ.Fr c=ab o) (hd:o.data= .cell af) (N:aX Γ T s) (hp: ∀x a,pin x=ab a->T.U x/\T.ax (2*x)=a)
  (q: ∀eh s',eh.data= .cell (ab v)->aX ⟨Γ.Fr.ins c eh,Γ.L,Γ.base,Γ.gens,Γ.os,pin⟩ T s'->Q () s'):bg (bp prog w) A (storeName env (nm n) v) Q E s:=
 wpAny_storeName_cell Ev.fn (Ev.is cu) l ⟨o,(N.aY.fr c o hf).1,hd⟩ λh' aD hs=>ak aD λeh bW=>q eh _ bW.2 (N.ad2 hf hs bW.1 hp)
theorem PG {x:Q7.X} {k:Nat} {p:Expr} {P:St->Prop} {K:ae->St->Prop} {Q:ah->az->Prop} (e:P=λσ=>rD S x σ K) (co:bc prog w Γ k S sc env x) {t:Expr} (uZ:(au sc x).e p=t) (hp:(au sc x).x p=aa) (aw:fu A k) (N:aX Γ T s) (h:P T.σ) (q: ∀a5 v av s',T.dS a5->aX Γ a5 s'->a5.A av v->K av a5.σ->Q v s'):bg (bp prog w) A (dz t env) Q E s:=uZ▸co.cX p hp aw N (show rD S x T.σ K by rw[e] at h;exact h) q
theorem runC {x:Q7.S} {k:Nat} {p:ct} {r:List ct} {P K:St->Prop} {Q:nx->az->Prop} (e:P=λσ=>m7 S x σ λg σ=>g= .aQ/\K σ) (co:ew prog w Γ k S sc env x) {t:ct} (uZ:(dH sc x).e p=t) (hp:(dH sc x).s p=aa) (aw:fu A k) (N:aX Γ T s) (h:P T.σ) (q: ∀a5 s',T.dS a5->aX Γ a5 s'->K a5.σ->bg (bp prog w) A (nB r env) Q E s'):bg (bp prog w) A (nB (t::r) env) Q E s:=
 BP (uZ▸co.s p hp aw N (show m7 S x T.σ λg σ=>g= .aQ/\K σ by rw[e] at h;exact h) λa5 g f s' x N hf h=>by
  rw[h.1] at hf
  rw[show f= .next from hf]
  exact q a5 s' x N h.2)
theorem aen {x:Q7.S} {k:Nat} {p:List ct} {P:St->Prop} {K:cE->St->Prop} {Q:nx->az->Prop} (e:P=λσ=>m7 S x σ K) (co:ew prog w Γ k S sc env x) {t:List ct} (uZ:(dH sc x).b0 p=t) (hp:(dH sc x).b p=aa) (aw:fu A k) (N:aX Γ T s) (h:P T.σ) (q: ∀a5 g f s',T.dS a5->aX Γ a5 s'->AV a5 f g->K g a5.σ->Q f s'):bg (bp prog w) A (nB t env) Q E s:=uZ▸co.b p hp aw N (show m7 S x T.σ K by rw[e] at h;exact h) q
noncomputable abbrev bM.sh (base:cw) (s:az) (L:aR):bM:=⟨λ_=>af,L,base,s.gens,s.os,λ_=>af⟩
theorem aaF {L df j1:aR} {m CP:aZ->Option ah} {cs:List (aZ×aR)} {v:ah} {x:aj} {ex:List Nat} (ag: ∀b o,base.get? b=ab o->s.heap.get? b=ab o) (I:InCallC s L m cs CP bk) (mW:cs.lookup (nm 40)=ab df) (mX:cs.lookup (nm 43)=ab j1) (Yb:CP (nm 40)=af) (Yc:CP (nm 43)=af)
  (hm:m (nm 93)=ab v) (aW:bq s.heap.get? x v): ∃l5 hk,l5.data= .cell af/\hk.data= .cell af/\j1≠df/\aX (((bM.sh base s L).hold j1 hk).hold df l5) ⟨s.heap.get?,λ_=>0,⟨locs [93] [.f x] ex,[],[],[]⟩⟩ bk:=by
 have ne:j1≠df:=λq=>absurd (n9 40 43 (name_of_addr I.apart (mem_of_lookup mW) (mem_of_lookup (q▸mX)))) (by decide)
 have j5: ∀y,St.g ⟨locs [93] [.f x] ex,[],[],[]⟩ y=af:=λy=> (congrFun (Du rfl) y).trans (qQ y)
 have n0: ∀{y ao},St.g ⟨locs [93] [.f x] ex,[],[],[]⟩ y≠ab ao:=λ{y ao} e=>a3 ((j5 y).symm.trans e)
 have rm: ∀b,L<=b->s.heap.get? b=af:=λb ag=>by
  cases q:s.heap.get? b with
  |none=>rfl
  |some o=>exact absurd (oP q) (mv.mpr (bf I.toInCall.fresh ag))
 have b2: ∀{n c},cs.lookup (nm n)=ab c->L<c:=λl=>I.above _ _ (mem_of_lookup l)
 have Lh:=I.cell _ _ mW
 have Li:=I.cell _ _ mX
 rw[Yb] at Lh
 rw[Yc] at Li
 have N:aX (bM.sh base s L) ⟨s.heap.get?,λ_=>0,⟨locs [93] [.f x] ex,[],[],[]⟩⟩ bk:=by
  refine⟨⟨I.toInCall.keep,λ_ _ e=>a3 e,λy ao e=> (n0 e).elim,λy ao e=> (n0 e).elim,λy z ao bo e=> (n0 e).elim⟩,⟨⟨m,I.toInCall.ns,λn av e=> ?_⟩,⟨rm _ (fj _),rfl⟩,λy ao e=> (n0 e).elim,λy h=>absurd h eI⟩,ag, ?_, ?_,λ_ _ e=>a3 e⟩
  ·rw[NL] at e
   exact zi e (λe1 e2=> ⟨v,by rw[e1];exact hm,by rw[e2];exact aW⟩) a3
  ·exact bT I.toInCall.same λh t e=>by rw[e]
  ·exact bT I.toInCall.same λh t e=>by rw[e]
 exact ak Lh λl5 cj=>ak Li λhk hw=> ⟨l5,hk,cj.2,hw.2,ne,
  (N.hold ⟨rm _ (kx (b2 mX)),rfl,H3 (b2 mX),λy ao e=> (n0 e).elim⟩ hw.1).hold ⟨rm _ (kx (b2 mW)),(bh.gb _ _ ne.symm),H3 (b2 mW),λy ao e=> (n0 e).elim⟩ cj.1⟩
theorem aaH (ay:WP.P=w.params) (X:rQ prog Kf base) {b:List ct} (fz:sc.kind= .function) (Nc:pB sc (nm 40)=aa) (ZI:pB sc (nm 43)=aa) (eU:La sc b=aa) {t0:List ct} (cj:xZ sc b=t0) {df j1:aR} {l5 hk:bX} (Hw:env.scope=sc) (Rr:env.globals=jx) (Rt:env.builtins=oV)
  (mW:env.cells.lookup (nm 40)=ab df) (mX:env.cells.lookup (nm 43)=ab j1) (VX:l5.data= .cell af) (V5:hk.data= .cell af) (ne:j1≠df) (N:aX (((bM.sh base s env.locals).hold j1 hk).hold df l5) T bk) (aw:fu A 13) (h:vr T.σ):
  bg (bp prog w) A (nB t0 env) (λf s'=>f= .ret (.bool aa)/\dT T.aP s'.heap.get? /\s'.gens=s.gens/\s'.os=s.os) E bk:=by
 rw[<-cj]
 have G:=λ{Γ:bM} {S:cM} (e:Γ.base=base) (l:Γ.L=env.locals) (c: ∀n v,aL n S.clo=ab v->wL env Γ n v)=> (⟨Hw,fz,l.symm,Rr,Rt,c⟩:dk sc env Γ S)
 have ot:=λ(clo:List (Nat×ae)) (x:Q7.X) (Γ:bM)=>FK (prog:=prog) (w:=w) (k:=13) ay (Ah (pt:=pL) (clo:=clo) X.top) (Ok.fns X (Od ay X) ⟨dX,jm,mb,om,gD,pL,clo⟩ rfl rfl rfl) x Γ env sc
 have ss:=λ(clo:List (Nat×ae)) (x:Q7.S) (Γ:bM)=>FJ (prog:=prog) (w:=w) (k:=13) ay (Ah (pt:=pL) (clo:=clo) X.top) (Ok.fns X (Od ay X) ⟨dX,jm,mb,om,gD,pL,clo⟩ rfl rfl rfl) x Γ env sc
 have B:=k2 eU
 have hM: ∀{l p},xo ((au sc q3).e (b4 (s1 b))) (ab (.Name (nm 40) p)) l env=pure ac:=λ{l p}=>ag8 (by unfold Ic;rw[Hw];exact beq_iff_eq.mp Nc)
 have Lg:=B.2.2.2.1
 unfold xZ
 generalize e1:(au sc q3).e (b4 (s1 b))=t1 at hM⊢
 generalize e2:(dH sc qZ).e (s1 b.tail)=jP
 generalize ik:(dH sc q0).e (s1 b.tail.tail)=t3
 generalize nT:(au sc q4).e (b4 (s1 b.tail.tail.tail))=FU at Lg⊢
 generalize nU:(dH sc sW).b0 b.tail.tail.tail.tail=ajv
 have Hy:=G (Γ:=((bM.sh base s env.locals).hold j1 hk).hold df l5) (S:=uf) rfl rfl λn v e=>a3 e
 refine BP (IK (PG (S:=uf) (P:=vr) (K:=λv σ=>v= .aq 20/\vt σ) (by delta vr;rfl) (ot [] q3 _ rfl Hy) e1 B.1 aw N h λbS v av dh bi aT bl h=> ?_) hM)
 have bl:bS.A (.aq 20) v:=h.1▸bl
 refine Qj (pin:=λx=>cond (bA x 20) (ab (bS.ax (2*20))) af) Hy Nc mW (bh.gc _ _ _) VX aT (λx a e=> ?_) λzL fV VY aT=> ?_
 ·cases q:bA x 20 with
  |false=>rw[q] at e;exact a3 e
  |true=>rw[q] at e;rw[fh q];exact⟨bl.1,bQ e⟩
 have mM: ∀{Fr:bh},Fr df=ab zL-> ∀n v,aL n [(40,ae.aq 20)]=ab v->wL env ⟨Fr,env.locals,base,s.gens,s.os,λx=>cond (bA x 20) (ab (bS.ax (2*20))) af⟩ n v:=λ{Fr} hf n u e=>
  zi e (λe1 e2=>by rw[e1,e2];exact⟨df,zL,v,mW,hf,VY,_,rfl,bl.2⟩) a3
 have wQ:=G (S:=jy) rfl rfl (mM (Fr:=((((bM.sh base s env.locals).hold j1 hk).hold df l5).Fr.ins df zL)) (bh.gc _ _ _))
 have tQ:=ss [(40,.aq 20)] qZ _ rfl wQ
 have RH:=ss [(40,.aq 20)] q0 _ rfl wQ
 have RI:=ot [(40,.aq 20)] q4 _ rfl wQ
 refine runC (x:=qZ) (S:=jy) (P:=vt) (K:=vu) (by delta vt;rfl) tQ e2 B.2.1 aw aT h.2 λfk iS cD bR h=> ?_
 refine runC (x:=q0) (S:=jy) (P:=vu) (K:=vv) (by delta vu;rfl) RH ik B.2.2.1 aw bR h λi2 iS eX dU h=> ?_
 refine BP (IK (PG (S:=jy) (P:=vv) (K:=Eb) (by delta vv;rfl) RI nT B.2.2.2.2.1 aw dU h λkZ v4 av ru g7 fN k3 h=>ak h λc h=> ?_) (ts Lg))
 rw[h.1] at k3
 refine Qj wQ ZI mX ((bh.gb _ _ ne).trans ((bh.gb _ _ ne).trans (bh.gc _ _ _))) V5 fN fN.pin λPk Qs V6 gR=> ?_
 have Rv:=G (S:=SL c) rfl rfl λn u e=>zi e (λe1 e2=>mM (Fr:=(((((bM.sh base s env.locals).hold j1 hk).hold df l5).Fr.ins df zL).ins j1 Pk)) ((bh.gb _ _ ne.symm).trans (bh.gc _ _ _)) n u (by rw[e1,e2];rfl)) λe=>zi e (λe1 e2=>by rw[e1,e2];exact⟨j1,Pk,v4,mX,bh.gc _ _ _,V6,bq.i k3⟩) a3
 refine aen (S:=SL c) (P:=zd c) (K:=λg _=>g= .hG (.f (.bool aa))) (by delta zd;rfl) (ss [(40,.aq 20),(43,.f (.bool c))] sW _ rfl Rv) nU B.2.2.2.2.2 aw gR h.2 λTQ g f aju G9 nv hf h=> ?_
 rw[show g=_ from h] at hf
 exact ak hf λu e=> ⟨by rw[e.1,show u= .bool aa from bq.i e.2],λb o e=>nv.aY.bE b o (G9.bE _ _ (g7.bE _ _ (eX.bE _ _ (cD.bE _ _ (bi.bE _ _ e))))),nv.gens,nv.os⟩
end
end
theorem items_int {R:WRecords} {xs:List xb}:Iw R xs .int=aa-> ∃zs:List Int,xs=zs.map .int:=by
 induction xs with
 |nil=>exact λ_=> ⟨[],rfl⟩
 |cons d xs ai=>
  intro h
  have h:=b3 (show(Iu R d .int&&Iw R xs .int)=aa from h)
  cases d with
  |int z=>exact ak (ai h.2) λzs e=> ⟨z::zs,by rw[e];rfl⟩
  |_=>exact cm h.1
theorem Uc {R:WRecords} {args:List xb} (h:Iv R args [.list .int]=aa): ∃zs:List Int,args= [.list (zs.map .int)]:=by
 cases args with
 |nil=>exact cm h
 |cons d ds=>
  have h:=b3 (show(Iu R d (.list .int)&&Iv R ds [])=aa from h)
  cases ds with
  |cons e es=>exact cm h.2
  |nil=>
   cases d with
   |list xs=>exact ak (items_int (R:=R) (xs:=xs) ((rL _).symm.trans (show(Iw R xs .int||false)=aa from h.1))) λzs e=> ⟨zs,by rw[e]⟩
   |_=>exact cm h.1
def Nv (sc:cC) (body:List ct):Bool:=
 (sc.kind== .function)&&pB sc (nm 40)&&pB sc (nm 43)&&fH sc (nm 93)&&(!sc.isCoroutine&& !sc.isGenerator)&&La sc body
theorem UR {n:aZ} {names:List (aZ×mx)}: ∀{k:Nat} {acc:List (aZ×aR)},(acc.lookup n).isSome=aa\/(n,SJ)∈names->((cellsFrom k names acc).lookup n).isSome=aa:=by
 induction names with
 |nil=>exact λh=>h.elim id λh=>absurd h eI
 |cons x r ai=>
  intro k acc h
  unfold cellsFrom
  split
  ·refine ai (h.elim (λh=> .inl ?_) λh=> (e6.mp h).elim (λh=> .inl ?_) .inr)
   ·rw[mq]
    split
    ·rfl
    ·exact h
   ·rw[mq,(t4 h).1,beq_self_eq_true];rfl
  ·rename_i aD
   exact ai (h.elim .inl λh=> (e6.mp h).elim (λh=> (aD (by rw[<-(t4 h).2];rfl)).elim) .inr)
def ul (w:ba) (h:cw):Prop:= ∃base Kf,(∀b o,base.get? b=ab o->h.get? b=ab o)/\ @rQ ⟨w.params⟩ Ia Kf base
def TS:ah->xb->Prop
 |v,.int i=> ∃t,v= .int i t
 |_,_=>True
theorem Well.Zl {P:cx} {h:cw} {v:ah} {d:xb} (w:Well P h v d):TS v d:=by
 cases w with
 |int i t=>exact⟨t,rfl⟩
 |_=>trivial
theorem aim {P:cx} {h:cw} [WP] {zs:List Int}: ∀{vs:List ah},WellAll P h vs (zs.map .int)->ez h.get? (zs.map .int) vs:=by
 induction zs with
 |nil=>exact λh=>by cases h;exact .nil
 |cons z zs ai=>exact λh=>by cases h with
  |cons ap aC=>exact ak (Well.Zl ap) λt e=>e▸ .cons (.int _ _) (ai aC)
set_option backward.match.sparseCases true in
theorem adF {zs:List Int} (h:rU.row.toRowW.pre.holds [] {args:= [.list (zs.map .int)]}=aa):zs.length<=63:=by
 have h:(WTm.and (.not (.lt (.lit (.int 63)) (.len (.arg 0)))) (.lit (.bool aa))).holds [] {args:= [.list (zs.map .int)]}=aa:=h
 have e:(WTm.and (.not (.lt (.lit (.int 63)) (.len (.arg 0)))) (.lit (.bool aa))).value [] {args:= [.list (zs.map .int)]}=ab (.bool (!decide ((63:Int)< ((zs.map It).length:Int)))):=by
  show(match(ab (Bt (!decide ((63:Int)< ((zs.map It).length:Int)))):Option xb) with
   |some (.bool ac)=>ab (Bt ac)
   |some (.bool aa)=>ab (Bt aa)
   |_=>af)=_
  cases (!decide ((63:Int)< ((zs.map It).length:Int)))<;>rfl
 unfold WTm.holds at h
 rw[e] at h
 rw[eg] at h
 by_cases q:(63:Int)< (zs.length:Int)
 ·simp only[q,decide_true] at h
  cases h
 ·omega
theorem Uy {fd:jV} {f6:iA} {v:ah} (hp:fd.params=⟨[],[f6],af,[],[],af,[]⟩) (hd:fd.defaults= .none) (pq:nm 93=f6.arg):ID fd ⟨[v],[]⟩=pure [(f6.arg,v)]:=by
 unfold ID
 rw[hp,hd]
 cases f6 with|mk a b c=>
 cases (pq:nm 93=a)
 exact rfl
theorem adD {e:WCtx} (h:e.res=ab (.bool aa)):(Iy .res (.lit (.bool aa))).holds [] e=aa:=by
 have s:same (.bool aa) (.bool aa)=aa:=by decide+kernel
 have v:(Iy .res (.lit (.bool aa))).value [] e=ab (.bool aa):=by
  cases e with|mk a r x=>
  cases (h:r=_)
  exact(show _=ab (Bt (same (.bool aa) (.bool aa))) from rfl).trans (by rw[s])
 unfold WTm.holds
 rw[v]
theorem ail {q:cO} {loose:List aZ} {XP:(aZ->Option ah)->cw->Prop} {d:DefRec} {kwd:List (aZ×Expr)} {f6:iA} (hp:d.params=⟨[],[f6],af,[],[],af,[]⟩) (pq:nm 93=f6.arg) (bw:xZ d.scope d.body=d.body) (eU:Nv d.scope d.body=aa):
  WalkO q loose XP ul rU.row.toRowW d kwd λf vs=>iB f vs:=by
 intro w ajt bk l2 n8 G Y a o pm cd doc CY Ng bW hd Yr dI aje cJ args vals as DO ajc ajf Y3 ajd
 letI:WP:=⟨w.params⟩
 obtain ⟨base,Kf,ag,X⟩:=Y
 obtain ⟨b1,ij,JD,JE,uD,Uq⟩:=k2 eU
 obtain ⟨uD,Cp⟩:=b3 uD
 replace b1:=beq_iff_eq.mp b1
 replace uD:=jh uD
 replace Cp:=jh Cp
 have DP:(Iv [] args [.list .int]&&rU.row.toRowW.pre.holds [] {args:=args})=aa:=DO
 rw[gF] at DP
 obtain ⟨zs,rfl⟩:=Uc DP.1
 have cH:=adF DP.2
 cases Y3 with
 |cons ap aC=>
  cases aC
  cases ap with
  | @list ad vs xs aA hw=>
   have aW:bq bk.heap.get? (.lst (zs.map .int)) (.ref ad):= .lst (n:=0) aA (aim hw)
   obtain ⟨name,params,body,scope,pos⟩:=d
   dsimp only at hp bw
   subst hp
   have Yu:CY= .none:=by
    rcases dI.pos with⟨_,h⟩ | ⟨h,_⟩
    ·exact h
    ·exact absurd rfl h
   refine IL ?_
   refine codeAny_call_cells (binds:= [(f6.arg,.ref ad)]) (by decide) bW hd (X.top.lim.keeps ag) Yr rfl ?_ rfl (λx aH=> ?_) (λdh I=> ?_) uD Cp b1
   ·exact Uy rfl Yu pq
   ·simp only[e6,eI,or_false] at aH
    subst aH
    rw[<-pq]
    exact .inl (beq_iff_eq.mp JE)
   ·have h8:(callEnvC {docDef name ⟨[],[f6],af,[],[],af,[]⟩ body scope pm cd doc with defaults:=CY,kwdefaults:=Ng} bk.heap.objs.size a).kindOf f6.arg=ab .local:=by
     rw[<-pq]
     exact beq_iff_eq.mp JE
    have kc:nm 40≠nm 93:=λq=>absurd (n9 _ _ q) (by decide)
    have gN:nm 43≠nm 93:=λq=>absurd (n9 _ _ q) (by decide)
    have Mz: ∀n,pB scope (nm n)=aa-> ∃c,(callEnvC {docDef name ⟨[],[f6],af,[],[],af,[]⟩ body scope pm cd doc with defaults:=CY,kwdefaults:=Ng} bk.heap.objs.size a).cells.lookup (nm n)=ab c:=λn ar=>
     w8.mp (UR (.inr (mem_of_lookup (beq_iff_eq.mp ar))))
    refine ak (Mz 40 ij) λdf mW=>ak (Mz 43 JD) λj1 mX=>bT (aaF (v:= .ref ad) (ex:= [52,88,46,83,38,103,36,8,81,106,2,4,3,110,39,68,71,42,66,87,58,41,90,11]) ag I mW mX ?_ ?_ ?_ aW) λl5 hk Z=> ?_
    ·show(t8 _ [(f6.arg,.ref ad)] λ_=>af) (nm 40)=_
     unfold t8 t8
     rw[if_pos h8]
    ·show(t8 _ [(f6.arg,.ref ad)] λ_=>af) (nm 43)=_
     unfold t8 t8
     rw[if_pos h8]
    ·show(bindL _ [(f6.arg,.ref ad)] λ_=>af) (nm 93)=_
     unfold bindL bindL
     rw[if_pos h8]
     rw[pq]
     simp
    ·refine h4 (aaH (prog:=Ia) (w:=w) (b:=body) rfl X b1 ij JD Uq bw rfl rfl rfl mW mX Z.1 Z.2.1 Z.2.2.1 Z.2.2.2 ⟨show callerA.depth+1+3*13<=990 by decide,show callerA.units+3+20*13<=9000 by decide,rfl⟩ (aaG cH)) (λf s' dC=> ?_) λe s' dC=>dC
     obtain ⟨rfl,keep,YA,YT⟩:=dC
     refine⟨.inl ⟨.bool aa,.bool aa,[],rfl,λ_=>rfl,.bool aa, ?_,λ_=> ⟨.nil,λa aE=>by cases aE⟩⟩,.of_keep keep,YT,.of_eq (YA.trans cJ)⟩
     show(Iu [] (.bool aa) .bool&&(Iy .res (.lit (.bool aa))).holds [] {args:= [.list (zs.map .int)],res:=ab (.bool aa),after:= [.list (zs.map .int)]})=aa
     exact i4 rfl (adD rfl)
end Q7
namespace Hd
noncomputable abbrev bU:cO:=Ia
noncomputable def zG:List ct->Nat->ct
 | [],_=> .Pass default
 |a::_,0=>a
 |_::l,n+1=>zG l n
noncomputable def U9 (s:ct):List ct:=match s with
 | .ClassDef _ _ _ b _ _ _ _ _ _ _=>b
 |_=> []
noncomputable def sz (c d:Nat):ct:=zG (U9 (zG bU.main.body c)) d
noncomputable def Dq (c:Nat):ct:=zG bU.main.body c
noncomputable def a7 (x:aZ) (t:Nat):ah:= .str x t
noncomputable def kJ (i:Int) (t:Nat):ah:= .int i t
noncomputable def aq (c:ah) (d:Option aR) (x:Data):bX:=⟨c,d,x, #[]⟩
noncomputable def obs (c:ah) (d:Option aR) (x:Data) (aK:Array (Option ah)):bX:=⟨c,d,x,aK⟩
noncomputable def d4 (l:List ah):bX:=⟨.type "tuple",af,.seq l.toArray 0, #[]⟩
noncomputable def hv (l:List ah):bX:=⟨.none,af,.fields l.toArray, #[]⟩
noncomputable def yu (c:ah) (l:List ah):bX:=⟨c,af,.fields l.toArray, #[]⟩
noncomputable def bV (P:cx) (k v:ah):cT:=match k with
 | .str x _=> ⟨kX P x,k,v⟩
 |_=> ⟨0,k,v⟩
noncomputable def qO (s:ct) (nm pP:aZ) (g:Nat) (cl:List (aZ×aR)) (CZ pm cd df:ah):jV:=match s with
 | .FunctionDef _ a8 body _ _ _ sc _ _ _=> ⟨nm,pP,a8,.stmts body,sc,g,cl,CZ,.none,.none,pm,af,cd,df,0⟩
 |_=>default
noncomputable def yw (nm:aZ) (c g:Nat) (pm cd:ah):jV:=qO (Dq c) nm nm g [] .none pm cd .none
noncomputable def vL:List aZ->Nat->List ah
 | [],_=> []
 |x::l,t=> .str x t::vL l (t+1)
noncomputable def gJ (P:cx) (n:aZ) (t a:Nat):cT:=bV P (.str n t) (.ref a)
noncomputable def k5 (l:List cT) (n:Nat:=l.length):bX:=aq (.type "dict") af (.dict l.toArray n)
noncomputable def hc (c:ah) (n q:aZ) (t k:Nat) (ln:Int) (na nl:Int) (b:Bool) (f:List ah) (a:Nat):bX:=yu (.type "code") ([.str n t,.str q (t+1),.str "/claim/cut.py" (t+2),.int ln 0,.int na 0,.int 0 0,.int 0 0,.int nl 0,.ref a,.bool b,.int 181 0,.ref (a+1),.none]++f++ [c,.int (c1 k) 0,.int ln 0,.str "/claim/cut.py" (k+1)])
noncomputable def Ee:List (aZ×mx)->List aZ
 | []=> []
 |x::l=>match x.2 with
  | .local=>x.1::Ee l
  |_=>Ee l
noncomputable abbrev p8:=List bX×List cT×List ah
noncomputable def CF (P:cx) (m:aZ×Nat) (cl:List Nat) (CZ:ah) (s:ct) (a t:Nat):p8:=match s with
 | .FunctionDef nm a8 _ _ _ _ sc _ _ p=>
  let vs:=Ee sc.names
  let k:=t+3+vs.length
  let pP:aZ:=⟨(cl++nm.cps.toList).toArray⟩
  ([d4 [],hv [],d4 (vL vs (t+3)),d4 [],aq .none af (.func (qO s nm pP 0 [] .none .none .none .none)),
   hc (.ref (a+4)) nm pP t k p.line a8.args.length 3 aa [.ref (a+2),.ref (a+3)] a,
   aq (.type "function") af (.func (qO s nm pP 3 [] CZ (.str m.1 m.2) (.ref (a+5)) .none))],[gJ P nm (k+2) (a+6)],[.int p.line 0,.int 4 0,.ref (a+5)])
 |_=> ([],[],[])
noncomputable def mt (P:cx) (m:aZ×Nat) (cl:List Nat) (c d a t:Nat):List ah->p8
 | []=>CF P m cl .none (sz c d) a t
 |Dd=>let r:=CF P m cl (.ref a) (sz c d) (a+1) t
  (d4 Dd::r.1,r.2)
noncomputable def lT (P:cx) (m:aZ×Nat) (c a t:Nat):List bX:=(CF P m [] .none (Dq c) a t).1
noncomputable def fB (f:Nat->Nat->Nat->List ah->p8) (d a:Nat):List Nat->List p8
 | []=> []
 |t::l=>f d a t []::fB f (d+1) (a+7) l
noncomputable def hN (P:cx) (s:aZ) (t:Nat):p8:=([],[bV P (a7 "id" (t+1)) (a7 s t)],[])
noncomputable def Mh (P:cx) (e q:Nat):List (aZ×List ah)->List cT
 | []=> []
 |x::l=>gJ P x.1 (q+1) e::Mh P (e+1) (q+2) l
noncomputable def Mi (e q:Nat):List (aZ×List ah)->List bX
 | []=> []
 |x::l=>yu (.type "getset_descriptor") (a7 x.1 q:: .ref e::x.2)::Mi e (q+2) l
noncomputable def pl:List (aZ×List ah):= [("__dict__",[.builtin "function.__dict__",.builtin "function.__dict__#set"]),("__weakref__",[.builtin "ExceptionGroup.__weakref__",.none])]
noncomputable def bn (n:String) (l:List ah):bX:=yu (.type "builtin_function_or_method") (.builtin n::l)
noncomputable def dx (P:cx) (m:aZ×Nat) (c a t e h:Nat) (r:List Nat) (v:Bool:=aa) (x z:Bool:=ac) (u:List Nat:= []) (w:List (aZ×List ah):= []) (g:(Nat->Nat->Nat->List ah->p8)->List p8:=λ_=> []):List bX:=match Dq c with
 | .ClassDef n _ _ _ _ _ _ _ _ st p=>
  let l:=g (mt P m (n.cps.toList++ [46]) c)
  let q:=h+st.length
  let y:=a+z.toNat
  let s:=e+2
  let b:List ah:=r.map .ref++(bif x then [.type "Exception",.type "BaseException",.type "object"] else [.type "object"])
  let i:=l.flatMap (·.2.1)++ [gJ P "__static_attributes__" q e]
  let j:=bV P (a7 "__module__" (t+7)) (a7 m.1 m.2)
  let k:=bV P (a7 "__firstlineno__" (t+11)) (.int p.line (t+10))
  [d4 (bif v then b.take 1 else []),bn "type.__prepare__" [.type "type"],k5 (j::bV P (a7 "__qualname__" (t+9)) (a7 n (t+8))::k::(i++(bif z then [gJ P "__classcell__" (q+1) (a+3)] else [])))]++(bif z then [obs (.type "cell") af (.cell (ab (.ref s))) #[]] else [])++
  [d4 [],hv (l.flatMap (·.2.2)),hc .none n n (t+2) (t+5) p.line 0 0 ac [.none,.none] (y+3),obs (.type "frame") af (.plain) #[ab (.ref (y+5)),ab (.ref 3),ab (.ref (a+2)),af,ab (.str m.1 m.2),af,ab (.ref 0)]]++l.flatMap (·.1)++
  [d4 (vL st h),k5 (j::k::(i++Mh P (e+3) (q+1) w++ [bV P (a7 "__doc__" (q+1+2*w.length+z.toNat)) .none])) (2+w.length+z.toNat),
   obs (.type "type") af (.cls ⟨n,b.take 1,.ref s::b,e+1,n,aa,[],u.map .ref,ac,af,ac⟩) #[bif v then ab (.ref a) else af,af,ab (.str n t),ab (.str n (t+8)),ab (.builtin (bif x then "Exception.__new__" else "object.__new__")),ab (.bool aa)]]++
  Mi s (q+1) w++ [yu (.type "super") [.ref s,.ref s,.ref s],bn "object.__init_subclass__" [.ref s]]
 |_=> []
noncomputable def kn (l:List Nat):bX->bX
 | ⟨c,d,.cls ⟨n,b,m,a,q,x,y,_,z,v,w⟩,s⟩=> ⟨c,d,.cls ⟨n,b,m,a,q,x,y,l.map .ref,z,v,w⟩,s⟩
 |o=>o
noncomputable def abY:aZ×Nat:=("__main__",164)
noncomputable def EV:aZ×Nat:=("yaml.error",194)
noncomputable def jL:aZ×Nat:=("yaml.events",321)
noncomputable def s7:aZ×Nat:=("yaml.emitter",665)
noncomputable def hi:aZ×Nat:=("yaml.tokens",1420)
noncomputable def zu:aZ×Nat:=("yaml.reader",1897)
noncomputable def vF:aZ×Nat:=("yaml.scanner",2040)
noncomputable def EW:aZ×Nat:=("yaml.parser",2853)
noncomputable def vG:aZ×Nat:=("law_qm0007_07",3174)
noncomputable def gl (f:aZ->Nat->Nat->cT):List cT:= [f "_wall" 193 21,f "Mark" 259 53,f "YAMLError" 279 67,f "MarkedYAMLError" 320 95,f "Event" 360 122,f "NodeEvent" 389 144,f "CollectionStartEvent" 424 164,f "CollectionEndEvent" 440 176,f "StreamStartEvent" 469 196,f "StreamEndEvent" 485 208,f "DocumentStartEvent" 518 228,f "DocumentEndEvent" 547 248,f "AliasEvent" 563 260,f "ScalarEvent" 600 280,f "SequenceStartEvent" 616 292,f "SequenceEndEvent" 632 304,f "MappingStartEvent" 648 316,f "MappingEndEvent" 664 328,f "EmitterError" 682 340,f "ScalarAnalysis" 725 359,f "Emitter" 1376 799,f "Rows" 1419 834,f "Token" 1452 855,f "DirectiveToken" 1485 876,f "DocumentStartToken" 1503 888,f "DocumentEndToken" 1521 900,f "StreamStartToken" 1552 920,f "StreamEndToken" 1570 932,f "BlockSequenceStartToken" 1588 944,f "BlockMappingStartToken" 1606 956,f "BlockEndToken" 1624 968,f "FlowSequenceStartToken" 1642 980,f "FlowMappingStartToken" 1660 992,f "FlowSequenceEndToken" 1678 1004,f "FlowMappingEndToken" 1696 1016,f "KeyToken" 1714 1028,f "ValueToken" 1732 1040,f "BlockEntryToken" 1750 1052,f "FlowEntryToken" 1768 1064,f "AliasToken" 1799 1083,f "AnchorToken" 1830 1102,f "TagToken" 1861 1121,f "ScalarToken" 1896 1141,f "ReaderError" 1938 1167,f "_is_printable" 1945 1176,f "Reader" 2039 1238,f "ScannerError" 2057 1252,f "SimpleKey" 2096 1271,f "Scanner" 2852 1789,f "ParserError" 2870 1801,f "Parser" 3173 2029,f "_law_PIECES" 3190 2032,f "_law_ENDINGS" 3196 2039,f "_law_HANDLES" 3209 2043,f "_law_next" 3216 2050,f "_law_lines" 3226 2057,f "_law_text" 3232 2062,f "_law_told" 3239 2069,f "law" 3245 2074]
noncomputable def dP (P:cx) (m:aZ×Nat) (n:Nat) (_:bX):bX:=k5 ((bV P (a7 "__name__" 165) (a7 m.1 m.2):: [bV P (a7 "__doc__" 166) .none,bV P (a7 "__package__" 167) .none,bV P (a7 "__loader__" 168) (.builtin "__main__.__loader__#opaque"),bV P (a7 "__spec__" 169) .none,gJ P "__annotations__" 170 6,gJ P "__builtins__" 171 4,bV P (a7 "__file__" 173) (a7 "/claim/cut.py" 172),bV P (a7 "__cached__" 174) .none]++gl (gJ P)).take n)
noncomputable def Mf:List (Int×Nat)->List ah
 | []=> []
 |x::l=> .int x.1 0:: .int 0 0:: .ref x.2::Mf l
noncomputable def lg (n:Nat) (_:bX):bX:=hv (Mf ([(1,20),(5,27),(43,63),(45,76),(68,103),(76,132),(82,152),(91,172),(93,184),(99,204),(101,216),(109,236),(115,256),(117,268),(127,288),(129,300),(131,312),(133,324),(136,336),(138,348),(149,369),(1023,809),(1034,844),(1039,865),(1047,884),(1049,896),(1051,908),(1058,928),(1060,940),(1062,952),(1064,964),(1066,976),(1068,988),(1070,1000),(1072,1012),(1074,1024),(1076,1036),(1078,1048),(1080,1060),(1082,1072),(1089,1091),(1096,1110),(1103,1129),(1113,1149),(1127,1175),(1129,1182),(1191,1248),(1193,1260),(1202,1282),(2044,1797),(2046,1810),(2434,2038),(2437,2049),(2439,2056),(2451,2061),(2468,2068),(2478,2073)].take n))
noncomputable def DZ:List bX->BT->Nat->BT
 | [],t,_=>t
 |o::l,t,n=>DZ l (t.ins n o) (n+1)
noncomputable def lX:List (List bX)->BT->Nat->BT
 | [],t,_=>t
 |l::ls,t,n=>lX ls (DZ l t n) (n+l.length)
noncomputable def m8:List (Nat×(bX->bX))->BT->BT
 | [],t=>t
 |x::l,t=>m8 l (t.set x.1 x.2)
noncomputable def TN (P:cx):BT:=DZ [boot_o_0 P,boot_o_1 P,boot_o_2 P,boot_o_3 P,boot_o_4 P,boot_o_5 P,boot_o_6 P,boot_o_7 P,boot_o_8 P,boot_o_9 P,boot_o_10 P] .nil 0
noncomputable def acY (P:cx):List (List bX):= [[d4 [],hv [],hc .none "<module>" "<module>" 182 185 1 0 0 ac [.none,.none] 11,obs (.type "frame") af (.plain) #[ab (.ref 13),ab (.ref 3),ab (.ref 3),af,ab (a7 "__main__" 164),af,ab (.ref 0)]]]
noncomputable def nF (P:cx):BT:=lX (acY P) (TN P) 11
noncomputable def UT (P:cx):List (Nat×(bX->bX)):= [(2,λ_=>aq .none af (.dict [bV P (a7 "type.__subclasses__.Exception.0" 276) (kJ 67 0),bV P (a7 "type.__subclasses__.Exception.n" 277) (kJ 1 0)].toArray 2)),(3,dP P jL 18),(12,lg 9)]
noncomputable def acP (P:cx):List (List bX):= [lT P abY 0 15 187,
 dx P EV 2 22 196 51 246 [] (v:=ac) (w:=pl) (g:=λf=>fB f 0 29 [208]++ [f 1 36 223 [kJ 4 221,kJ 75 222]]++fB f 2 44 [237]),
 dx P EV 3 58 260 65 272 [] (x:=aa) (u:= [95]) (w:= [("__weakref__",[.builtin "ExceptionGroup.__weakref__",.none])]),
 dx P EV 4 71 280 93 312 [67] (x:=aa) (g:=λf=> [f 0 78 292 [.none,.none,.none,.none,.none]]++fB f 1 86 [304]),
 dx P jL 6 98 323 120 351 [] (u:= [144,176,196]) (w:=pl) (g:=λf=> [f 0 105 335 [.none,.none]]++fB f 1 113 [344]),
 dx P jL 7 127 361 142 383 [122] (u:= [164]) (g:=λf=> [f 0 134 373 [.none,.none]]),
 dx P jL 8 147 390 162 415 [144,122] (g:=λf=> [f 0 154 402 [.none,.none,.none]]),
 dx P jL 9 167 425 174 437 [122],
 dx P jL 10 179 441 194 463 [122] (g:=λf=> [f 0 186 453 [.none,.none,.none]])]
noncomputable def ug (P:cx):BT:=lX (acP P) (m8 (UT P) (nF P)) 15
noncomputable def UU (P:cx):List (Nat×(bX->bX)):= [(3,dP P s7 29),(12,lg 20),(67,kn [95,340]),(122,kn [144,176,196,208,228,248]),(144,kn [164,260,280]),(164,kn [292,316]),(176,kn [304,328])]
noncomputable def acQ (P:cx):List (List bX):= [dx P jL 11 199 470 206 482 [122],
 dx P jL 12 211 486 226 510 [122] (g:=λf=> [f 0 218 498 [.none,.none,.none,.none,.none]]),
 dx P jL 13 231 519 246 541 [122] (g:=λf=> [f 0 238 531 [.none,.none,.none]]),
 dx P jL 14 251 548 258 560 [144,122],
 dx P jL 15 263 564 278 590 [144,122] (g:=λf=> [f 0 270 576 [.none,.none,.none]]),
 dx P jL 16 283 601 290 613 [164,144,122],
 dx P jL 17 295 617 302 629 [176,122],
 dx P jL 18 307 633 314 645 [164,144,122],
 dx P jL 19 319 649 326 661 [176,122],
 dx P s7 21 331 667 338 679 [67] (x:=aa),
 dx P s7 22 343 683 357 710 [] (v:=ac) (w:=pl) (g:=λf=>fB f 0 350 [695])]
noncomputable def r5 (P:cx):BT:=lX (acQ P) (m8 (UU P) (ug P)) 199
noncomputable def UW (P:cx):List (Nat×(bX->bX)):= [(3,dP P s7 30),(12,lg 21)]
noncomputable def acR (P:cx):List (List bX):= [dx P s7 23 364 726 797 1341 [] (v:=ac) (w:=pl) (g:=λf=> [([k5 [bV P (a7 "!" 738) (a7 "!" 739),bV P (a7 "tag:yaml.org,2002:" 740) (a7 "!!" 741)]],[gJ P "DEFAULT_TAG_PREFIXES" 744 371],[]),f 1 372 745 [.none,.none,.none,.none,.none]]++fB f 2 380 [758,765,773,781]++ [f 6 408 791 [.bool ac,.bool ac]]++fB f 7 416 [800,807,814]++ [f 10 437 821 [.bool ac]]++fB f 11 445 [836,843]++ [f 13 459 850 [.bool ac,.bool ac,.bool ac,.bool ac]]++fB f 14 467 [861,868,875,882,889,896,903,910,917,924,931,939]++ [f 26 551 946 [.bool ac]]++fB f 27 559 [954,961]++ [f 29 573 968 [.bool ac]]++fB f 30 581 [976,983,990,997,1004,1012,1020,1028,1036,1043,1051,1061,1070,1083,1101,1110,1140,1147,1154]++ [f 49 714 1161 [.bool ac,.bool ac]]++fB f 50 722 [1173]++ [f 51 729 1182 [.none]]++fB f 52 737 [1190,1199]++ [f 54 751 1209 [.bool aa],([k5 [bV P (a7 "\x00" 1225) (a7 "0" 1226),bV P (a7 "\x07" 1227) (a7 "a" 1228),bV P (a7 "\x08" 1229) (a7 "b" 1230),bV P (a7 "\t" 1231) (a7 "t" 1232),bV P (a7 "\n" 1233) (a7 "n" 1234),bV P (a7 "\x0b" 1235) (a7 "v" 1236),bV P (a7 "\x0c" 1237) (a7 "f" 1238),bV P (a7 "\x0d" 1239) (a7 "r" 1240),bV P (a7 "\x1b" 1241) (a7 "e" 1242),bV P (a7 "\"" 1243) (a7 "\"" 1244),bV P (a7 "\\" 1245) (a7 "\\" 1246),bV P (a7 "" 1247) (a7 "N" 1248),bV P (a7 " " 1249) (a7 "_" 1250),bV P (a7 " " 1251) (a7 "L" 1252),bV P (a7 " " 1253) (a7 "P" 1254)]],[gJ P "ESCAPE_REPLACEMENTS" 1270 759],[]),f 56 760 1271 [.bool aa]]++fB f 57 768 [1284,1293,1310]++ [f 60 789 1325 [.bool aa]])]
noncomputable def r6 (P:cx):BT:=lX (acR P) (m8 (UW P) (r5 P)) 364
noncomputable def UX (P:cx):List (Nat×(bX->bX)):= [(3,dP P hi 41),(12,lg 32)]
noncomputable def acS (P:cx):List (List bX):= [dx P s7 24 804 1377 832 1411 [] (v:=ac) (w:=pl) (g:=λf=>fB f 0 811 [1389,1396,1404]),
 dx P hi 26 839 1422 853 1443 [] (u:= [876,888,900,920,932,944,956,968,980]) (w:=pl) (g:=λf=>fB f 0 846 [1434]),
 dx P hi 27 860 1453 874 1478 [855] (g:=λf=> [hN P "<directive>" 1465]++fB f 1 867 [1467]),
 dx P hi 28 879 1486 886 1500 [855] (g:=λ_=> [hN P "<document start>" 1498]),
 dx P hi 29 891 1504 898 1518 [855] (g:=λ_=> [hN P "<document end>" 1516]),
 dx P hi 30 903 1522 918 1546 [855] (g:=λf=> [hN P "<stream start>" 1534,f 1 910 1536 [.none,.none,.none]]),
 dx P hi 31 923 1553 930 1567 [855] (g:=λ_=> [hN P "<stream end>" 1565]),
 dx P hi 32 935 1571 942 1585 [855] (g:=λ_=> [hN P "<block sequence start>" 1583]),
 dx P hi 33 947 1589 954 1603 [855] (g:=λ_=> [hN P "<block mapping start>" 1601]),
 dx P hi 34 959 1607 966 1621 [855] (g:=λ_=> [hN P "<block end>" 1619]),
 dx P hi 35 971 1625 978 1639 [855] (g:=λ_=> [hN P "[" 1637])]
noncomputable def uh (P:cx):BT:=lX (acS P) (m8 (UX P) (r6 P)) 804
noncomputable def UY (P:cx):List (Nat×(bX->bX)):= [(3,dP P zu 52),(12,lg 43),(855,kn [876,888,900,920,932,944,956,968,980,992,1004,1016,1028,1040,1052,1064,1083,1102,1121,1141])]
noncomputable def acT (P:cx):List (List bX):= [dx P hi 36 983 1643 990 1657 [855] (g:=λ_=> [hN P "{" 1655]),
 dx P hi 37 995 1661 1002 1675 [855] (g:=λ_=> [hN P "]" 1673]),
 dx P hi 38 1007 1679 1014 1693 [855] (g:=λ_=> [hN P "}" 1691]),
 dx P hi 39 1019 1697 1026 1711 [855] (g:=λ_=> [hN P "?" 1709]),
 dx P hi 40 1031 1715 1038 1729 [855] (g:=λ_=> [hN P ":" 1727]),
 dx P hi 41 1043 1733 1050 1747 [855] (g:=λ_=> [hN P "-" 1745]),
 dx P hi 42 1055 1751 1062 1765 [855] (g:=λ_=> [hN P "," 1763]),
 dx P hi 43 1067 1769 1081 1793 [855] (g:=λf=> [hN P "<alias>" 1781]++fB f 1 1074 [1783]),
 dx P hi 44 1086 1800 1100 1824 [855] (g:=λf=> [hN P "<anchor>" 1812]++fB f 1 1093 [1814]),
 dx P hi 45 1105 1831 1119 1855 [855] (g:=λf=> [hN P "<tag>" 1843]++fB f 1 1112 [1845]),
 dx P hi 46 1124 1862 1139 1888 [855] (g:=λf=> [hN P "<scalar>" 1874,f 1 1131 1876 [.none]])]
noncomputable def ui (P:cx):BT:=lX (acT P) (m8 (UY P) (uh P)) 983
noncomputable def UZ (P:cx):List (Nat×(bX->bX)):= [(3,dP P vF 57),(12,lg 48),(67,kn [95,340,1167]),(95,kn [1252])]
noncomputable def acU (P:cx):List (List bX):= [dx P zu 48 1144 1899 1165 1930 [67] (x:=aa) (g:=λf=>fB f 0 1151 [1911,1923]),
 lT P zu 49 1170 1939,
 dx P zu 50 1177 1946 1236 2020 [] (w:=pl) (g:=λf=>fB f 0 1184 [1958]++ [f 1 1191 1967 [kJ 0 1966],f 2 1199 1976 [kJ 1 1975],f 3 1207 1985 [kJ 1 1984]]++fB f 4 1215 [1994,2001,2012]),
 dx P vF 52 1243 2042 1250 2054 [95,67] (x:=aa),
 dx P vF 53 1255 2058 1269 2083 [] (v:=ac) (w:=pl) (g:=λf=>fB f 0 1262 [2070])]
noncomputable def r7 (P:cx):BT:=lX (acU P) (m8 (UZ P) (ui P)) 1144
noncomputable def U0 (P:cx):List (Nat×(bX->bX)):= [(3,dP P vF 58),(12,lg 49),(1238,kn [1789])]
noncomputable def acV (P:cx):List (List bX):= [dx P vF 54 1276 2097 1787 2840 [1238] (z:=aa) (g:=λf=> [([d4 [.ref 1279],d4 [a7 "__class__" 2112],hv [],d4 (vL ["self","stream"] 2113),d4 [],aq .none af (.func (qO (sz 54 0) "__init__" "Scanner.__init__" 0 [] .none .none .none .none)),hc (.ref 1289) "__init__" "Scanner.__init__" 2109 2115 1204 2 3 aa [.ref 1287,.ref 1288] 1285,aq (.type "function") af (.func (qO (sz 54 0) "__init__" "Scanner.__init__" 3 [("__class__",1279)] .none (a7 "yaml.scanner" 2040) (.ref 1290) (.ref 1284))),d4 []],[gJ P "__init__" 2117 1291],[.int 1204 0,.int 4 0,.ref 1290]),f 1 1293 2118 [.ref 1292]]++fB f 2 1301 [2126,2133,2140,2147,2155,2165,2174,2184,2192,2201,2209,2217,2225,2232,2239,2246,2256,2263,2270,2280,2287,2294,2304,2313,2323,2333,2344,2351,2358,2365,2372,2379,2387,2394,2401,2409,2416,2423,2430,2437,2444,2451,2458,2466,2474,2485,2496,2506,2517,2527,2537,2547,2556,2571,2586,2607,2618,2627,2637,2647]++ [([k5 [bV P (a7 "0" 2660) (a7 "\x00" 2661),bV P (a7 "a" 2663) (a7 "\x07" 2664),bV P (a7 "b" 2666) (a7 "\x08" 2667),bV P (a7 "t" 2669) (a7 "\t" 2670),bV P (a7 "\t" 2672) (a7 "\t" 2673),bV P (a7 "n" 2675) (a7 "\n" 2676),bV P (a7 "v" 2678) (a7 "\x0b" 2679),bV P (a7 "f" 2681) (a7 "\x0c" 2682),bV P (a7 "r" 2684) (a7 "\x0d" 2685),bV P (a7 "e" 2687) (a7 "\x1b" 2688),bV P (a7 " " 2690) (a7 " " 2691),bV P (a7 "\"" 2693) (a7 "\"" 2694),bV P (a7 "\\" 2696) (a7 "\\" 2697),bV P (a7 "/" 2699) (a7 "/" 2700),bV P (a7 "N" 2702) (a7 "" 2703),bV P (a7 "_" 2705) (a7 " " 2706),bV P (a7 "L" 2708) (a7 " " 2709),bV P (a7 "P" 2711) (a7 " " 2712)],k5 [bV P (a7 "P" 2711) (a7 " " 2712)],k5 [bV P (a7 "x" 2715) (kJ 2 2716),bV P (a7 "u" 2717) (kJ 4 2718),bV P (a7 "U" 2719) (kJ 8 2720)]],[gJ P "ESCAPE_REPLACEMENTS" 2714 1721,gJ P "ESCAPE_CODES" 2724 1723],[])]++fB f 64 1724 [2725,2739,2754,2765,2779,2795,2807,2819,2832])]
noncomputable def ql (P:cx):BT:=lX (acV P) (m8 (U0 P) (r7 P)) 1276
noncomputable def U1 (P:cx):List (Nat×(bX->bX)):= [(3,dP P EW 60),(12,lg 51),(95,kn [1252,1801]),(1789,kn [2029])]
noncomputable def acW (P:cx):List (List bX):= [dx P EW 56 1792 2855 1799 2867 [95,67] (x:=aa),
 dx P EW 57 1804 2871 2027 3163 [1789,1238] (z:=aa) (g:=λf=> [([k5 [bV P (a7 "!" 2883) (a7 "!" 2884),bV P (a7 "!!" 2885) (a7 "tag:yaml.org,2002:" 2886)],d4 [.ref 1807],d4 [a7 "__class__" 2893],hv [],d4 (vL ["self","stream"] 2894),d4 [],aq .none af (.func (qO (sz 57 1) "__init__" "Parser.__init__" 0 [] .none .none .none .none)),hc (.ref 1818) "__init__" "Parser.__init__" 2890 2896 2049 2 3 aa [.ref 1816,.ref 1817] 1814,aq (.type "function") af (.func (qO (sz 57 1) "__init__" "Parser.__init__" 3 [("__class__",1807)] .none (a7 "yaml.parser" 2853) (.ref 1819) (.ref 1813)))],[gJ P "DEFAULT_TAGS" 2889 1812,gJ P "__init__" 2898 1820],[.int 2049 0,.int 4 0,.ref 1819])]++fB f 2 1821 [2899,2906,2913,2921,2930,2941,2954,2966,2974,2988,2995,3002]++ [f 14 1905 3009 [.bool ac,.bool ac]]++fB f 15 1913 [3029,3037,3046,3055,3063,3072,3080]++ [f 22 1962 3088 [.bool ac]]++fB f 23 1970 [3098,3106,3114,3122]++ [f 27 1998 3130 [.bool ac]]++fB f 28 2006 [3140,3148,3155])]
noncomputable def qm (P:cx):BT:=lX (acW P) (m8 (U1 P) (ql P)) 1792
noncomputable def U2 (P:cx):List (Nat×(bX->bX)):= [(3,dP P vG 68),(12,lg 57)]
noncomputable def acX (P:cx):List (List bX):= [[obs (.type "list") af (.seq [a7 "a" 3176,a7 "\n" 3177,a7 " b" 3178,a7 "c d" 3179,a7 "\n\n" 3180,a7 "---" 3181,a7 "   e" 3182,a7 "#" 3183,a7 "\n" 3184,a7 "f: g" 3185,a7 "..." 3186,a7 "|" 3187,a7 " " 3188,a7 "é" 3189].toArray 0) #[]],
 lT P vG 60 2033 3191,
 [k5 [bV P (a7 "!e!" 3197) (a7 "!x" 3198)],k5 [bV P (a7 "!" 3200) (a7 "!y" 3201),bV P (a7 "!e!" 3202) (a7 "t" 3203)],k5 [bV P (a7 "!e!" 3206) (a7 "!x" 3207)],obs (.type "list") af (.seq [.none,.none,.ref 2040,.ref 2041,.ref 2042].toArray 0) #[]],
 lT P vG 62 2044 3210,
 lT P vG 63 2051 3217,
 [d4 [],hv [],aq .none af (.func (yw "_law_text" 64 0 .none .none)),hc (.ref 2060) "_law_text" "_law_text" 3227 3230 2451 5 3 aa [.none,.none] 2058,aq (.type "function") af (.func (yw "_law_text" 64 3 (a7 "law_qm0007_07" 3174) (.ref 2061)))],
 lT P vG 65 2063 3233,
 [d4 [],hv [],aq .none af (.func (yw "law" 66 0 .none .none)),hc (.ref 2072) "law" "law" 3240 3243 2478 1 3 aa [.none,.none] 2070,aq (.type "function") af (.func (yw "law" 66 3 (a7 "law_qm0007_07" 3174) (.ref 2073)))]]
noncomputable def i1 (P:cx):BT:=lX (acX P) (m8 (U2 P) (qm P)) 2032
noncomputable def rI:List ct:=SS bU
noncomputable def hP:dm:={scope:=bU.main.scope,locals:=jx,globals:=jx,cells:= [],code:= .ref 13,frame:=ab 14}
noncomputable def de:Code:= .body rI hP
noncomputable def c7:eu:=⟨0,0,0,0⟩
noncomputable def eb:String:= "special-get-raises"
noncomputable abbrev er:=Option (nx×t7×Code×eu)
noncomputable def dt (T:cx->BT) (n cq:Nat) (w:ba) (os:cf):t7:=⟨T w.params,n,{}, #[],oQ,cq,os⟩
noncomputable def goP (pr:cO) (e:dm) (c:Code) (p:eu) (w:ba) (l:List ct) (N:Nat) (s:t7) (q:eu):er:=segRunT qi pr w 11 (ab (.ref 6)) 1 N s (piecesOf l e c q [r0 p])
noncomputable def tgP (pr:cO) (w:ba) (s:az) (t:w9):Option (az×w9):=topGo qi pr w 11 (ab (.ref 6)) 12 s t
noncomputable def rhP (s:az) (c:Code) (p:eu) (f:Frame):Option (az×w9):=ab (s,⟨denote qi c,c,p,[f]⟩)
noncomputable def bP (pr:cO) (w:ba) (s:t7) (l:List ct) (e:dm) (c:Code) (p:eu):er:=segRunT qi pr w 11 (ab (.ref 6)) 1 1 s (blockOf l e c p [r0 p])
noncomputable def fP (pr:cO) (w:ba) (s:az) (c:Code) (q p:eu):Option az:=xh qi pr w 11 (ab (.ref 6)) 3 s ⟨doneF .next,c,q,[r0 p]⟩
noncomputable def go (w:ba) (l:List ct) (N:Nat) (s:t7) (q:eu):er:=goP bU hP de c7 w l N s q
noncomputable def aba (w:ba) (os:cf):Option (az×w9):=tgP bU w ⟨oR w.params, #[],oQ,Bu,os⟩ (topStub bU)
noncomputable def ael (w:ba) (os:cf):Option (az×w9):=rhP (dt nF 15 187 w os).abs de c7 (r0 c7)
noncomputable def aa6 (w:ba) (os:cf):er:=bP bU w (dt nF 15 187 w os) rI hP de c7
noncomputable def aeh (w:ba) (os:cf):er:=ab (.next,dt nF 15 187 w os,de,c7)
noncomputable def jy:List ct:=rI.take 11
noncomputable def hX:List ct:=rI.drop 11
noncomputable def aaT (w:ba) (os:cf):er:=go w jy 2109 (dt nF 15 187 w os) c7
noncomputable def ad4 (w:ba) (os:cf):er:=ab (.next,dt ug 199 470 w os,de,⟨93,0,98,32⟩)
noncomputable def IX:List ct:=hX.take 12
noncomputable def p2:List ct:=hX.drop 12
noncomputable def aaU (w:ba) (os:cf):er:=go w IX 2642 (dt ug 199 470 w os) ⟨93,0,98,32⟩
noncomputable def ad5 (w:ba) (os:cf):er:=ab (.next,dt r5 364 726 w os,de,⟨138,0,148,38⟩)
noncomputable def BV:List ct:=p2.take 1
noncomputable def wM:List ct:=p2.drop 1
noncomputable def El (w:ba) (os:cf):er:=go w BV 2494 (dt r5 364 726 w os) ⟨138,0,148,38⟩
noncomputable def Fx (w:ba) (os:cf):er:=ab (.next,dt r6 804 1377 w os,de,⟨149,0,1022,20⟩)
noncomputable def aaV (w:ba) (os:cf):er:=El (w.withFollow eb ac) os
noncomputable def ad6 (w:ba) (os:cf):er:=Fx (w.withFollow eb ac) os
noncomputable def aaW (w:ba) (os:cf):er:=El (w.withFollow eb aa) os
noncomputable def ad7 (w:ba) (os:cf):er:=Fx (w.withFollow eb aa) os
noncomputable def IY:List ct:=wM.take 12
noncomputable def wN:List ct:=wM.drop 12
noncomputable def aaX (w:ba) (os:cf):er:=go w IY 2628 (dt r6 804 1377 w os) ⟨149,0,1022,20⟩
noncomputable def ad8 (w:ba) (os:cf):er:=ab (.next,dt uh 983 1643 w os,de,⟨1066,0,1067,12⟩)
noncomputable def IZ:List ct:=wN.take 12
noncomputable def wO:List ct:=wN.drop 12
noncomputable def aaY (w:ba) (os:cf):er:=go w IZ 2636 (dt uh 983 1643 w os) ⟨1066,0,1067,12⟩
noncomputable def ad9 (w:ba) (os:cf):er:=ab (.next,dt ui 1144 1899 w os,de,⟨1112,0,1112,8⟩)
noncomputable def I0:List ct:=wO.take 6
noncomputable def Hs:List ct:=wO.drop 6
noncomputable def aaZ (w:ba) (os:cf):er:=go w I0 1245 (dt ui 1144 1899 w os) ⟨1112,0,1112,8⟩
noncomputable def aea (w:ba) (os:cf):er:=ab (.next,dt r7 1276 2097 w os,de,⟨1193,0,1201,24⟩)
noncomputable def BW:List ct:=Hs.take 1
noncomputable def Ht:List ct:=Hs.drop 1
noncomputable def Em (w:ba) (os:cf):er:=go w BW 2981 (dt r7 1276 2097 w os) ⟨1193,0,1201,24⟩
noncomputable def Fy (w:ba) (os:cf):er:=ab (.next,dt ql 1792 2853 w os,de,⟨1202,0,2042,17⟩)
noncomputable def aa0 (w:ba) (os:cf):er:=Em (w.withFollow eb ac) os
noncomputable def aeb (w:ba) (os:cf):er:=Fy (w.withFollow eb ac) os
noncomputable def aa1 (w:ba) (os:cf):er:=Em (w.withFollow eb aa) os
noncomputable def aec (w:ba) (os:cf):er:=Fy (w.withFollow eb aa) os
noncomputable def BX:List ct:=Ht.take 3
noncomputable def Hu:List ct:=Ht.drop 3
noncomputable def En (w:ba) (os:cf):er:=go w BX 1544 (dt ql 1792 2853 w os) ⟨1202,0,2042,17⟩
noncomputable def Fz (w:ba) (os:cf):er:=ab (.next,dt qm 2032 3174 w os,de,⟨2046,0,2431,69⟩)
noncomputable def aa2 (w:ba) (os:cf):er:=En (w.withFollow eb ac) os
noncomputable def aed (w:ba) (os:cf):er:=Fz (w.withFollow eb ac) os
noncomputable def aa3 (w:ba) (os:cf):er:=En (w.withFollow eb aa) os
noncomputable def aee (w:ba) (os:cf):er:=Fz (w.withFollow eb aa) os
noncomputable def BY:List ct:=Hu.take 9
noncomputable def Hv:List ct:=Hu.drop 9
noncomputable def Eo (w:ba) (os:cf):er:=go w BY 308 (dt qm 2032 3174 w os) ⟨2046,0,2431,69⟩
noncomputable def FA (w:ba) (os:cf):er:=ab (.next,dt i1 2075 3246 w os,de,⟨2478,0,2532,21⟩)
noncomputable def aa4 (w:ba) (os:cf):er:=Eo (w.withFollow eb ac) os
noncomputable def aef (w:ba) (os:cf):er:=FA (w.withFollow eb ac) os
noncomputable def aa5 (w:ba) (os:cf):er:=Eo (w.withFollow eb aa) os
noncomputable def aeg (w:ba) (os:cf):er:=FA (w.withFollow eb aa) os
noncomputable def NI (w:ba) (os:cf):Option az:=fP bU w (dt i1 2075 3246 w os).abs de ⟨2478,0,2532,21⟩ c7
noncomputable def PD (w:ba) (os:cf):Option az:=ab (dt i1 2075 3246 w os).abs
lay_quick Hd.goP Hd.tgP Hd.rhP Hd.bP Hd.fP
theorem adY:(λ(w:ba) (os:cf)=>PySem.W.Fast.tw619501993275344166 bU w ⟨oR w.params, #[],oQ,Bu,os⟩ (topStub bU))=λ(w:ba) (os:cf)=>PySem.W.Fast.tw12868069056937615806 (dt nF 15 187 w os).abs de c7 (r0 c7):=by kernel_rfl
theorem Wp:aba=ael:=by
 have h:=adY
 rw[<-PySem.W.Fast.te619501993275344166,<-PySem.W.Fast.te12868069056937615806] at h
 exact h
theorem adW:(λ(w:ba) (os:cf)=>PySem.W.Fast.tw9636917575800995740 bU w (dt nF 15 187 w os) rI hP de c7)=λ(w:ba) (os:cf)=>ab (.next,dt nF 15 187 w os,de,c7):=by kernel_rfl
theorem Wi:aa6=aeh:=by
 have h:=adW
 rw[<-PySem.W.Fast.te9636917575800995740] at h
 exact h
theorem adX:(λ(w:ba) (os:cf)=>PySem.W.Fast.tw10288856822799916893 bU w (dt i1 2075 3246 w os).abs de ⟨2478,0,2532,21⟩ c7)=λ(w:ba) (os:cf)=>ab (dt i1 2075 3246 w os).abs:=by kernel_rfl
theorem Wj:NI=PD:=by
 have h:=adX
 rw[<-PySem.W.Fast.te10288856822799916893] at h
 exact h
theorem zT:(λ(w:ba) (os:cf)=>PySem.W.Fast.tw17372073306025509499 bU hP de c7 w jy 2109 (dt nF 15 187 w os) c7)=λ(w:ba) (os:cf)=>ab (.next,dt ug 199 470 w os,de,⟨93,0,98,32⟩):=by kernel_rfl
theorem e1:aaT=ad4:=by
 have h:=zT
 rw[<-PySem.W.Fast.te17372073306025509499] at h
 exact h
theorem jN:(λ(w:ba) (os:cf)=>PySem.W.Fast.tw17372073306025509499 bU hP de c7 w IX 2642 (dt ug 199 470 w os) ⟨93,0,98,32⟩)=λ(w:ba) (os:cf)=>ab (.next,dt r5 364 726 w os,de,⟨138,0,148,38⟩):=by kernel_rfl
theorem e2:aaU=ad5:=by
 have h:=jN
 rw[<-PySem.W.Fast.te17372073306025509499] at h
 exact h
theorem adM:(λ(w:ba) (os:cf)=>PySem.W.Fast.tw17372073306025509499 bU hP de c7 (w.withFollow eb ac) BV 2494 (dt r5 364 726 (w.withFollow eb ac) os) ⟨138,0,148,38⟩)=λ(w:ba) (os:cf)=>ab (.next,dt r6 804 1377 (w.withFollow eb ac) os,de,⟨149,0,1022,20⟩):=by kernel_rfl
theorem Wa:aaV=ad6:=by
 have h:=adM
 rw[<-PySem.W.Fast.te17372073306025509499] at h
 exact h
theorem adN:(λ(w:ba) (os:cf)=>PySem.W.Fast.tw17372073306025509499 bU hP de c7 (w.withFollow eb aa) BV 2494 (dt r5 364 726 (w.withFollow eb aa) os) ⟨138,0,148,38⟩)=λ(w:ba) (os:cf)=>ab (.next,dt r6 804 1377 (w.withFollow eb aa) os,de,⟨149,0,1022,20⟩):=by kernel_rfl
theorem Wb:aaW=ad7:=by
 have h:=adN
 rw[<-PySem.W.Fast.te17372073306025509499] at h
 exact h
theorem zU:(λ(w:ba) (os:cf)=>PySem.W.Fast.tw17372073306025509499 bU hP de c7 w IY 2628 (dt r6 804 1377 w os) ⟨149,0,1022,20⟩)=λ(w:ba) (os:cf)=>ab (.next,dt uh 983 1643 w os,de,⟨1066,0,1067,12⟩):=by kernel_rfl
theorem nT:aaX=ad8:=by
 have h:=zU
 rw[<-PySem.W.Fast.te17372073306025509499] at h
 exact h
theorem adO:(λ(w:ba) (os:cf)=>PySem.W.Fast.tw17372073306025509499 bU hP de c7 w IZ 2636 (dt uh 983 1643 w os) ⟨1066,0,1067,12⟩)=λ(w:ba) (os:cf)=>ab (.next,dt ui 1144 1899 w os,de,⟨1112,0,1112,8⟩):=by kernel_rfl
theorem nU:aaY=ad9:=by
 have h:=adO
 rw[<-PySem.W.Fast.te17372073306025509499] at h
 exact h
theorem adP:(λ(w:ba) (os:cf)=>PySem.W.Fast.tw17372073306025509499 bU hP de c7 w I0 1245 (dt ui 1144 1899 w os) ⟨1112,0,1112,8⟩)=λ(w:ba) (os:cf)=>ab (.next,dt r7 1276 2097 w os,de,⟨1193,0,1201,24⟩):=by kernel_rfl
theorem qG:aaZ=aea:=by
 have h:=adP
 rw[<-PySem.W.Fast.te17372073306025509499] at h
 exact h
theorem adQ:(λ(w:ba) (os:cf)=>PySem.W.Fast.tw17372073306025509499 bU hP de c7 (w.withFollow eb ac) BW 2981 (dt r7 1276 2097 (w.withFollow eb ac) os) ⟨1193,0,1201,24⟩)=λ(w:ba) (os:cf)=>ab (.next,dt ql 1792 2853 (w.withFollow eb ac) os,de,⟨1202,0,2042,17⟩):=by kernel_rfl
theorem Wc:aa0=aeb:=by
 have h:=adQ
 rw[<-PySem.W.Fast.te17372073306025509499] at h
 exact h
theorem adR:(λ(w:ba) (os:cf)=>PySem.W.Fast.tw17372073306025509499 bU hP de c7 (w.withFollow eb aa) BW 2981 (dt r7 1276 2097 (w.withFollow eb aa) os) ⟨1193,0,1201,24⟩)=λ(w:ba) (os:cf)=>ab (.next,dt ql 1792 2853 (w.withFollow eb aa) os,de,⟨1202,0,2042,17⟩):=by kernel_rfl
theorem Wd:aa1=aec:=by
 have h:=adR
 rw[<-PySem.W.Fast.te17372073306025509499] at h
 exact h
theorem adS:(λ(w:ba) (os:cf)=>PySem.W.Fast.tw17372073306025509499 bU hP de c7 (w.withFollow eb ac) BX 1544 (dt ql 1792 2853 (w.withFollow eb ac) os) ⟨1202,0,2042,17⟩)=λ(w:ba) (os:cf)=>ab (.next,dt qm 2032 3174 (w.withFollow eb ac) os,de,⟨2046,0,2431,69⟩):=by kernel_rfl
theorem We:aa2=aed:=by
 have h:=adS
 rw[<-PySem.W.Fast.te17372073306025509499] at h
 exact h
theorem adT:(λ(w:ba) (os:cf)=>PySem.W.Fast.tw17372073306025509499 bU hP de c7 (w.withFollow eb aa) BX 1544 (dt ql 1792 2853 (w.withFollow eb aa) os) ⟨1202,0,2042,17⟩)=λ(w:ba) (os:cf)=>ab (.next,dt qm 2032 3174 (w.withFollow eb aa) os,de,⟨2046,0,2431,69⟩):=by kernel_rfl
theorem Wf:aa3=aee:=by
 have h:=adT
 rw[<-PySem.W.Fast.te17372073306025509499] at h
 exact h
theorem adU:(λ(w:ba) (os:cf)=>PySem.W.Fast.tw17372073306025509499 bU hP de c7 (w.withFollow eb ac) BY 308 (dt qm 2032 3174 (w.withFollow eb ac) os) ⟨2046,0,2431,69⟩)=λ(w:ba) (os:cf)=>ab (.next,dt i1 2075 3246 (w.withFollow eb ac) os,de,⟨2478,0,2532,21⟩):=by kernel_rfl
theorem Wg:aa4=aef:=by
 have h:=adU
 rw[<-PySem.W.Fast.te17372073306025509499] at h
 exact h
theorem adV:(λ(w:ba) (os:cf)=>PySem.W.Fast.tw17372073306025509499 bU hP de c7 (w.withFollow eb aa) BY 308 (dt qm 2032 3174 (w.withFollow eb aa) os) ⟨2046,0,2431,69⟩)=λ(w:ba) (os:cf)=>ab (.next,dt i1 2075 3246 (w.withFollow eb aa) os,de,⟨2478,0,2532,21⟩):=by kernel_rfl
theorem Wh:aa5=aeg:=by
 have h:=adV
 rw[<-PySem.W.Fast.te17372073306025509499] at h
 exact h
theorem uz {f g:ba->cf->er} (h:f=g) (w:ba) (os:cf):f w os=g w os:=by rw[h]
theorem x2 {f g:ba->cf->er} (ap:(λ(w:ba) (os:cf)=>f (w.withFollow eb ac) os)=λ(w:ba) (os:cf)=>g (w.withFollow eb ac) os) (aC:(λ(w:ba) (os:cf)=>f (w.withFollow eb aa) os)=λ(w:ba) (os:cf)=>g (w.withFollow eb aa) os) (w:ba) (os:cf):f w os=g w os:=
 byRow2 eb (P:=λw=>f w os=g w os) (λw=>congrFun (congrFun ap w) os) (λw=>congrFun (congrFun aC w) os) w
theorem og {w:ba} {b:List ct} {k n N:Nat} {s s':t7} {r:az} {pos rc:eu} (h:go w (b.take k) n s pos=ab (.next,s',de,rc))
  (aS:xh qi bU w 11 (ab (.ref 6)) N s'.abs (restOf (b.drop k) hP de rc [r0 c7])=ab r):xh qi bU w 11 (ab (.ref 6)) (n+N) s.abs (restOf b hP de pos [r0 c7])=ab r:=by
 have:=piece_app (segRun_of h) aS
 rwa [p7] at this
noncomputable def e5 (P:cx):cw:=absHeap (i1 P) 2075 {}
theorem Qi (T:cx->BT) (n cq:Nat) (w:ba) (os:cf):(dt T n cq w os).abs=⟨absHeap (T w.params) n {}, #[],oQ,cq,os⟩:=rfl
theorem Rp:Hv= []:=by kernel_rfl
theorem aeo (w:ba) (os:cf):xh qi bU w 11 (ab (.ref 6)) (12+(1+(2109+(2642+(2494+(2628+(2636+(1245+(2981+(1544+(308+3))))))))))) ⟨oR w.params, #[],oQ,Bu,os⟩ (topStub bU)=
  ab ⟨e5 w.params, #[],oQ,3246,os⟩:=by
 refine go_top (congrFun (congrFun Wp w) os) ?_
 refine piece_block (segRun_of (congrFun (congrFun Wi w) os)) ?_
 refine og (uz e1 w os) ?_
 refine og (uz e2 w os) ?_
 refine og (x2 (f:=El) (g:=Fx) Wa Wb w os) ?_
 refine og (uz nT w os) ?_
 refine og (uz nU w os) ?_
 refine og (uz qG w os) ?_
 refine og (x2 (f:=Em) (g:=Fy) Wc Wd w os) ?_
 refine og (x2 (f:=En) (g:=Fz) We Wf w os) ?_
 refine og (x2 (f:=Eo) (g:=FA) Wg Wh w os) ?_
 show xh _ _ _ _ _ _ _ (restOf Hv _ _ _ _)=_
 rw[Rp]
 have h:=congrFun (congrFun Wj w) os
 unfold NI PD at h
 have h':=piece_nil (env:=hP) h
 rw[Qi] at h'
 rw[Qi]
 unfold e5
 exact h'
noncomputable def m5:cO:={bU with main:={bU.main with body:=rI.drop 66}}
noncomputable def zk:List aZ:=(["_wall","Mark","YAMLError","MarkedYAMLError","Event","NodeEvent","CollectionStartEvent","CollectionEndEvent","StreamStartEvent","StreamEndEvent","DocumentStartEvent","DocumentEndEvent","AliasEvent","ScalarEvent","SequenceStartEvent","SequenceEndEvent","MappingStartEvent","MappingEndEvent","EmitterError","ScalarAnalysis","Emitter","Rows","Token","DirectiveToken","DocumentStartToken","DocumentEndToken","StreamStartToken","StreamEndToken","BlockSequenceStartToken","BlockMappingStartToken"]:List aZ)++(["BlockEndToken","FlowSequenceStartToken","FlowMappingStartToken","FlowSequenceEndToken","FlowMappingEndToken","KeyToken","ValueToken","BlockEntryToken","FlowEntryToken","AliasToken","AnchorToken","TagToken","ScalarToken","ReaderError","_is_printable","Reader","ScannerError","SimpleKey","Scanner","ParserError","Parser","_law_PIECES","_law_ENDINGS","_law_HANDLES","_law_next","_law_lines","_law_text","_law_told"]:List aZ)
noncomputable def B5 (s:az):Bool:=xlAt m5 [] s&&recOk [] s
noncomputable def Qb (w:ba) (os:cf):az:=⟨e5 w.params, #[],oQ,3246,os⟩
noncomputable def aa7 (w:ba) (_:cf):=((oR w.params).isNs mainGlobals&&(#[]:Array Ig).size==0,(oR w.params).objs.size,(oR w.params).nsMap mainGlobals "__annotations__")
noncomputable def aei (_:ba) (_:cf):Bool×Nat×Option ah:=(aa,11,ab (.ref 6))
noncomputable def aa8 (w:ba) (os:cf):=staticsOk (BJ bU.main.body) (oR w.params) (e5 w.params)&&namesBound bU (e5 w.params)&&gensDone (Qb w os)&&laidKept (oR w.params) (e5 w.params)
noncomputable def aej (_:ba) (_:cf):Bool:=aa
noncomputable def aa9 (w:ba) (os:cf):=openSeen m5 zk (BJ bU.main.body) B5 aa (Qb w os)
noncomputable def aek (_:ba) (_:cf):=openGood m5 zk
theorem Wl:aa7=aei:=by kernel_rfl
theorem Wn:aa8=aej:=by kernel_rfl
theorem Wo:aa9=aek:=by kernel_rfl
theorem UI:opening bU=plainProg bU.main.scope.names:=rfl
theorem Xj (s:az):fenceModules? bU s=ab s:=rfl
theorem aaR:LeftO bU m5 zk B5 SN (λw=>e5 w.params) 36806:=by
 refine LeftO.of_pieces (H₀:=oR) (H₁:=e5) (gs₀:= #[]) (gs₁:= #[]) (d₀:=oQ) (d₁:=oQ) (k₀:=Bu) (k₁:=3246) (m₀:=11) (ann:=ab (.ref 6))
  (M:=12+(1+(2109+(2642+(2494+(2628+(2636+(1245+(2981+(1544+(308+3))))))))))) ?_ ?_ aeo (by decide) ?_
 ·exact boot_open UI (by decide) Xj
 ·intro w
  exact congrFun (congrFun Wl w) {}
 ·intro w
  funext os
  exact Prod.ext (congrFun (congrFun Wn w) os) (Prod.ext (congrFun (congrFun Wo w) os) rfl)
end Hd
namespace Q7
section
variable [WP]
def yB (T:Ir) (as:List Nat):bZ:=as.filterMap λa=> ((T.get a).bind alive).map λo=> (a,o)
theorem Dp {T:Ir} {a:Nat} {o:bX}: ∀{as:List Nat},(yB T as).lookup a=ab o->a∈as/\(T.get a).bind alive=ab o
 | [],h=>by cases h
 |b::r,h=>by
  unfold yB at h
  rw[HL] at h
  cases e:(T.get b).bind alive with
  |none=>
   rw[e] at h
   have ai:=Dp (as:=r) h
   exact⟨eZ _ ai.1,ai.2⟩
  |some x=>
   rw[e] at h
   simp only[Option.map_some] at h
   rw[mq] at h
   split at h
   ·rename_i q
    cases h
    have q:=eq_of_beq q
    subst q
    exact⟨et ..,e⟩
   ·have ai:=Dp (as:=r) h
    exact⟨eZ _ ai.1,ai.2⟩
theorem XK {T:Ir} {n:Nat} {life:Life} {as:List Nat} (h:(as.all λa=>d6 a n)=aa):(yB T as).In (absHeap T n life):=by
 intro a o e
 obtain ⟨m,g⟩:=Dp e
 have lt:a<n:=cS (fM.mp h a m)
 obtain ⟨x,aH,cP⟩:=qb.mp g
 rw[abs_get lt aH,cP]
def rp (c:String) (o:bX):Option (List ah×Nat):=match o with
 | ⟨.type d,af,.seq vs n,⟨[]⟩⟩=>match decide (d=c) with
  |true=>ab (vs.toList,n)
  |false=>af
 |_=>af
theorem P8 {c:String} {o:bX} {vs:List ah} {n:Nat} (h:rp c o=ab (vs,n)):o={cls:= .type c,data:= .seq vs.toArray n}:=by
 unfold rp at h
 split at h
 ·split at h
  ·rename_i d dN m e
   have e:=of_decide_eq_true e
   cases h
   subst e
   rfl
  ·cases h
 ·cases h
def Dl (x:ah):aj->Bool
 | .none=>match x with
  | .none=>aa
  |_=>ac
 | .bool b=>match x with
  | .bool c=>decide (b=c)
  |_=>ac
 | .int i=>match x with
  | .int j _=>decide (i=j)
  |_=>ac
 | .str s=>match x with
  | .str y _=>seq (aK s) y&&gG s.length d0
  |_=>ac
 | .st a=>match x with
  | .ref b=>bA a b
  |_=>ac
 |_=>ac
theorem L6 {F:bh} {v:aj} {x:ah} (h:Dl x v=aa):bq F v x:=by
 cases v with
 |none=>cases x with
  |none=>exact .none
  |_=>exact cm h
 |bool b=>cases x with
  |bool c=>rw[show b=c from of_decide_eq_true h];exact .bool _
  |_=>exact cm h
 |int i=>cases x with
  |int j t=>rw[show i=j from of_decide_eq_true h];exact .int _ _
  |_=>exact cm h
 |str s=>cases x with
  |str y t=>rw[<-seq_eq (b3 h).1];exact .str _ _ (cS (b3 h).2)
  |_=>exact cm h
 |st a=>cases x with
  |ref b=>rw[fh h];exact .st _
  |_=>exact cm h
 |_=>exact cm h
def yz:List aj->List ah->Bool
 | [],xs=>xs.isEmpty
 |v::l,xs=>match xs with
  |x::xs=>Dl x v&&yz l xs
  | []=>ac
theorem XH {F:bh} {l:List aj}: ∀{xs:List ah},yz l xs=aa->ez F l xs:=by
 induction l with
 |nil=>exact λ{xs} h=>by cases xs with
  |nil=>exact .nil
  |cons _ _=>exact cm h
 |cons v l ai=>exact λ{xs} h=>by cases xs with
  |nil=>exact cm h
  |cons x xs=>exact .cons (L6 (b3 h).1) (ai (b3 h).2)
def FO (K:bZ) (c:String) (l:List aj) (z:Nat->Bool):ah->Bool
 | .ref a=>match(K.lookup a).bind (rp c) with
  |some (vs,n)=>yz l vs&&z n
  |none=>ac
 |_=>ac
theorem Qg {K:bZ} {base:cw} (X:K.In base) {c:String} {l:List aj} {z:Nat->Bool} {x:ah} (h:FO K c l z x=aa): ∃a vs n,x= .ref a/\base.get? a=ab {cls:= .type c,data:= .seq vs.toArray n}/\ez base.get? l vs/\z n=aa:=by
 cases x with
 |ref a=>
  have h:(match(K.lookup a).bind (rp c) with
   |some (vs,n)=>yz l vs&&z n
   |none=>ac)=aa:=h
  revert h
  cases e:(K.lookup a).bind (rp c) with
  |none=>exact cm
  |some p=>exact λh=>ak (qb.mp e) λo q=> ⟨a,p.1,p.2,rfl,by rw[X _ _ q.1,P8 q.2],XH (b3 h).1,(b3 h).2⟩
 |_=>exact cm h
def qL (K:bZ) (v:aj) (x:ah):Bool:=match v with
 | .tup l=>FO K "tuple" l (bA 0) x
 | .lst l=>FO K "list" l (λ_=>aa) x
 |v=>Dl x v
theorem yA {K:bZ} {base:cw} (X:K.In base) {v:aj} {x:ah} (h:qL K v x=aa):bq base.get? v x:=by
 cases v with
 |tup l=>
  exact c5 (Qg X h) λa vs n q=>by
   rw[q.1]
   have e:=q.2.1
   rw[<-fh q.2.2.2] at e
   exact .tup e q.2.2.1
 |lst l=>exact c5 (Qg X h) λa vs n q=>by rw[q.1];exact .lst q.2.1 q.2.2.1
 |_=>exact L6 h
def lp (K:bZ) (a:Nat) (n:aZ):Option ah:=match K.lookup a with
 |some ⟨_,_,.dict es _,_⟩=>nsFind es n
 |_=>af
set_option backward.match.sparseCases true in
def qY (K:bZ) (a:Nat):Bool:=match K.lookup a with
 |some ⟨_,_,.dict es _,_⟩=>es.all (λe=>match e.key with| .str _ _=>aa|_=>ac)
 |_=>ac
theorem vn {K:bZ} {base:cw} (X:K.In base) {a:Nat} (h:qY K a=aa):base.Ns a (lp K a):=by
 unfold qY at h
 split at h
 ·rename_i c d es n aK e
  have bj:base.isNs a=aa:=by
   unfold Heap.isNs
   rw[X _ _ e]
   exact h
  have:=Heap.Ns.of_isNs bj
  have q:base.nsMap a=lp K a:=by
   funext m
   unfold Heap.nsMap lp
   rw[X _ _ e,e]
  rwa [q] at this
 ·cases h
def yF (K:bZ) (n:Nat) (v:aj):Bool:=match lp K jx (nm n) with
 |some x=>qL K v x
 |none=>ac
theorem X5 {K:bZ} {base:cw} (X:K.In base) (hm:qY K jx=aa) {n:Nat} {v:aj} (h:yF K n v=aa):AW base (nm n) v:=by
 unfold yF at h
 split at h
 ·rename_i x e
  exact⟨x,_,yA X h,vn X hm,.inl e⟩
 ·cases h
def Cn (K:bZ) (c n:Nat):At->Bool
 | .no=>decide (hL K (.ref c) (nm n)=ab af)&&decide (BC K c (nm n)=ab af)
 | .fn f=>decide (hL K (.ref c) (nm n)=ab (ab (.ref f)))&&isFn K (.ref f)&&decide (oS K (.ref f) "__get__" =ab (ab (.builtin "function.__get__")))&&decide (xg K (.ref f)=ab ac)&& !rX.contains (nm n)
 | .val v=>match hL K (.ref c) (nm n) with
  |some (ab a)=>qL K v a&&decide (oS K a "__get__" =ab af)&&nz a&& !rX.contains (nm n)
  |_=>ac
theorem Ul {K:bZ} {base:cw} (X:K.In base) {c n:Nat} {i:At} (h:Cn K c n i=aa):tK K base c n i:=by
 cases i with
 |no=>
  have h:(decide (hL K (.ref c) (nm n)=ab af)&&decide (BC K c (nm n)=ab af))=aa:=h
  rw[gF] at h
  exact⟨of_decide_eq_true h.1,of_decide_eq_true h.2⟩
 |fn f=>
  have h:(decide (hL K (.ref c) (nm n)=ab (ab (.ref f)))&&isFn K (.ref f)&&decide (oS K (.ref f) "__get__" =ab (ab (.builtin "function.__get__")))&&decide (xg K (.ref f)=ab ac)&& !rX.contains (nm n))=aa:=h
  simp only[gF,oE] at h
  obtain ⟨⟨⟨⟨ap,aC⟩,bu⟩,d8⟩,fq⟩:=h
  exact⟨of_decide_eq_true ap,aC,of_decide_eq_true bu,of_decide_eq_true d8,fq⟩
 |val v=>
  change (match hL K (.ref c) (nm n) with
   |some (ab a)=>qL K v a&&decide (oS K a "__get__" =ab af)&&nz a&& !rX.contains (nm n)
   |_=>ac)=aa at h
  split at h
  ·rename_i a e
   simp only[gF,oE] at h
   obtain ⟨⟨⟨ap,aC⟩,bu⟩,d8⟩:=h
   exact⟨a,yA X ap,e,of_decide_eq_true aC,bu,d8⟩
  ·cases h
def CV (K:bZ) (c n:Nat) (v:aj):Bool:=readsIn K c (.type "type")&&match findCls K (.ref c) (.type "type") (nm n) with
 |some (.val a)=>qL K v a&&nz a
 |_=>ac
theorem Vo {K:bZ} {base:cw} (X:K.In base) {c n:Nat} {v:aj} (h:CV K c n v=aa):Hr K base c n v:=by
 unfold CV at h
 rw[gF] at h
 obtain ⟨ap,aC⟩:=h
 split at aC
 ·rename_i a e
  rw[gF] at aC
  exact⟨a,_,yA X aC.1,ap,e,aC.2⟩
 ·cases aC
def subB (K:bZ) (D:Nat) (m:List (Nat×Bool)):Bool:=BA K D "__class__" &&Bw K D&&decide (hL K (.ref D) "__class__" =ab (ab (.builtin "object.__class__")))&&decide (mroIn K D (.type "object")=ab aa)&&
 m.all λx=>match x.2 with
  |true=>isIn K (.ref D) x.1
  |false=>kin_not K D x.1
theorem ag3 {K:bZ} {D:Nat} {m:List (Nat×Bool)} (h:subB K D m=aa):I1 K D m:=by
 unfold subB at h
 simp only[gF] at h
 obtain ⟨⟨⟨⟨ap,aC⟩,bu⟩,d8⟩,fq⟩:=h
 refine⟨ap,aC,of_decide_eq_true bu,of_decide_eq_true d8,λC b aA=> ?_⟩
 have:=fM.mp fq _ (jc aA)
 cases b with
 |true=>exact⟨λ_=>this,λq=>by cases q⟩
 |false=>exact⟨λq=> (by cases q),λ_=>this⟩
end
section
variable [WP]
def y8 (K:bZ):ah->Option (List ah)
 | .none=>ab []
 | .ref t=> ((K.lookup t).bind (rp "tuple")).map H7
 |_=>af
theorem Zx {K:bZ} {base:cw} (X:K.In base) {v:ah} {l:List ah} (h:y8 K v=ab l):(v= .none/\l= [])\/ ∃t n,v= .ref t/\base.get? t=ab (md l n):=by
 cases v with
 |none=>cases h;exact .inl ⟨rfl,rfl⟩
 |ref t=>
  have h:((K.lookup t).bind (rp "tuple")).map H7=ab l:=h
  obtain ⟨p,e,rfl⟩:=qc.mp h
  obtain ⟨o,e1,e2⟩:=qb.mp e
  exact .inr ⟨t,p.2,rfl,by rw[X _ _ e1,P8 (vs:=p.1) (n:=p.2) e2]⟩
 |_=>cases h
def codeB (K:bZ) (cd:ah) (q:aZ):Bool:=match cd with
 | .ref c=>match K.lookup c with
  |some ⟨_,_,.fields (vs:Array ah),_⟩=>match(vs[1]? :Option ah) with
   |some (SR s _)=>seq s q
   |_=>ac
  |_=>ac
 |_=>ac
theorem Vf {K:bZ} {base:cw} (X:K.In base) {cd:ah} {q:aZ} (h:codeB K cd q=aa):base.CodeRec cd q:=by
 unfold codeB at h
 split at h
 ·split at h
  ·split at h
   ·have:=seq_eq h
    subst this
    rename_i e1 _ _ _ e2
    exact⟨_,_,_,_,rfl,X _ _ e1,rfl,e2⟩
   ·cases h
  ·cases h
 ·cases h
def zb (K:bZ):List (Nat×aj)->List (aZ×ah)->Bool
 | [],[]=>aa
 |x::l,y::r=>seq y.1 (nm x.1)&&qL K x.2 y.2&&zb K l r
 |_,_=>ac
theorem Nm {K:bZ} {base:cw} (X:K.In base): ∀{l:List (Nat×aj)} {r:List (aZ×ah)},zb K l r=aa->hZ (λa v=> ∃x,a= .f x/\bq base.get? x v) (l.map λd=> (d.1,.f d.2)) r
 | [],[],_=> .nil
 |x::l,y::r,h=>by
  have h:(seq y.1 (nm x.1)&&qL K x.2 y.2&&zb K l r)=aa:=h
  simp only[gF] at h
  exact .cons ⟨seq_eq h.1.1,_,rfl,yA X h.1.2⟩ (Nm X h.2)
 | [],_::_,h=>by cases h
 |_::_,[],h=>by cases h
def zz:List Nat->List iA->Bool
 | [],[]=>aa
 |n::l,a::r=>seq a.arg (nm n)&&zz l r
 |_,_=>ac
theorem OZ: ∀{l:List Nat} {r:List iA},zz l r=aa->r.map (·.arg)=l.map nm
 | [],[],_=>rfl
 |n::l,a::r,h=>by
  have h:(seq a.arg (nm n)&&zz l r)=aa:=h
  rw[gF] at h
  rw[p5,p5,seq_eq h.1,OZ h.2]
 | [],_::_,h=>by cases h
 |_::_,[],h=>by cases h
def uv (a8:Arguments):Option (List iA):=match a8 with
 | ⟨[],args,af,[],_,af,_⟩=>ab args
 |_=>af
theorem Ub {a8:Arguments} {args:List iA} (h:uv a8=ab args): ∃fz dflt,a8=⟨[],args,af,[],fz,af,dflt⟩:=by
 unfold uv at h
 split at h
 ·cases h;exact⟨_,_,rfl⟩
 ·cases h
def yv (K:bZ) (p:List Nat×List (Nat×aj)) (fd:jV) (args:List iA) (items:List ah):Bool:=
 decide (fd.scope.kind= .function)&& !fd.scope.isCoroutine&& !fd.scope.isGenerator&&bA fd.globals jx&&bA fd.builtins oV&&codeB K fd.code fd.qualname&&zz p.1 args&&(p.1.all λn=>fH fd.scope (nm n))&&
  (fd.scope.names.all λy=>decide (y.2≠ .cell))&&gG items.length p.1.length&&zb K p.2 (((p.1.map nm).drop (p.1.length-items.length)).zip items)
theorem LY {K:bZ} {base:cw} (X:K.In base) {a:Nat} {p:List Nat×List (Nat×aj)} {c:ah} {aK:Array (Option ah)} {fd:jV} {args:List iA} {items:List ah} {body:List ct} {Fd:Option aR} (e:K.lookup a=ab ⟨c,Fd,.func fd,aK⟩) (j3:uv fd.params=ab args) (b0:fd.body= .stmts body) (gp:y8 K fd.defaults=ab items) (h:yv K p fd args items=aa):
  ∃o dflt fz,oG base a p o fd args dflt fz body items:=by
 unfold yv at h
 have ap:=b3 h
 have aC:=b3 ap.1
 have bu:=b3 aC.1
 have d8:=b3 bu.1
 have fq:=k2 d8.1
 have pn:=b3 fq.1
 exact bT (Ub j3) λfz dflt E=> ⟨_,dflt,fz,X _ _ e,rfl,E,b0,of_decide_eq_true pn.1,jh pn.2,jh fq.2.1,fh fq.2.2.1,fh fq.2.2.2.1,Vf X fq.2.2.2.2.1,OZ fq.2.2.2.2.2,fM.mp d8.2,λx aH=>of_decide_eq_true (fM.mp bu.2 x aH),Zx X gp,cS aC.2,Nm X ap.2⟩
def iF (K:bZ) (x:Nat×Q7.S):List ct×List ct:=match K.lookup x.1 with
 |some ⟨_,_,.func fd,_⟩=>match fd.body with
  | .stmts body=> ((dH fd.scope x.2).b0 body,body)
  |_=> ([],[])
 |_=> ([],[])
def nX (K:bZ) (x:Nat×Q7.S):Bool:=match aL x.1 gD,K.lookup x.1 with
 |some p,ab ⟨_,_,.func fd,_⟩=>match uv fd.params,fd.body,y8 K fd.defaults with
  |some args,.stmts body,ab items=>decide p.1.Nodup&&yv K p fd args items&&(dH fd.scope x.2).b body
  |_,_,_=>ac
 |_,_=>ac
theorem Xv {K:bZ} {base:cw} (X:K.In base) {x:Nat×Q7.S} (h:nX K x=aa) (he:(iF K x).1=(iF K x).2): ∀p,aL x.1 gD=ab p->rO base x.1 p x.2:=by
 intro p ep
 unfold nX at h
 unfold iF at he
 rw[ep] at h
 split at h
 ·rename_i c d fd aK eA e
  cases eA
  rw[e] at he
  dsimp only at he
  split at h
  ·rename_i args body items e1 e2 ik
   rw[e2] at he
   have h:=cU h
   exact c5 (LY X e e1 (e2.trans (congrArg _ he.symm)) ik h.2.1) λo dflt fz F=> ⟨of_decide_eq_true h.1,_,fd,args,dflt,fz,body,items,F,h.2.2⟩
  ·cases h
 ·cases h
end
section
variable [WP]
def FT (prog:cO) (K:bZ) (c f:Nat) (fd:jV) (args:List iA):Bool:=
 (match args with|f6::_=>seq f6.arg (nm 37) | []=>ac)&&decide (fd.scope.names.lookup (cF "super")=ab .globalImplicit)&&decide (fd.scope.names.lookup (cF "__class__")=ab .free)&&
 (match fd.code with
  | .ref qz=>match K.lookup qz with
   |some ⟨_,_,.fields (vs:Array ah),_⟩=>match(vs[2]? :Option ah) with
    |some (SR file _)=> (prog.main.file:aZ)==file
    |_=>ac
   |_=>ac
  |_=>ac)&& !(prog.main.scope.names.lookup (cF "super")).isSome&&
 (match fd.closure.lookup (cF "__class__") with
  |some hc=>match K.lookup hc with
   |some ⟨_,_,.cell (ab (.ref D)),_⟩=> (mz K D).isSome&&decide (mroIn K c (.ref D)=ab aa)&&decide (((mz K c).bind λcd=>alongIn K "__init__" ((cd.mro.dropWhile (· != .ref D)).drop 1))=ab (ab (.ref f)))
   |_=>ac
  |none=>ac)&&decide (oT K (.ref f)=ab (.type "function"))&&decide (nsIn K xi "thirdparty.any" =ab af)
theorem ag6 {prog:cO} {K:bZ} {base:cw} (X:K.In base) {c f:Nat} {fd:jV} {args:List iA} (h:FT prog K c f fd args=aa):I3 prog K base c f fd args:=by
 unfold FT at h
 simp only[gF,oE] at h
 obtain ⟨⟨⟨⟨⟨⟨⟨aC,bu⟩,d8⟩,fq⟩,pn⟩,gy⟩,lU⟩,sG⟩:=h
 refine⟨?_,of_decide_eq_true bu,of_decide_eq_true d8, ?_,pn, ?_,of_decide_eq_true lU,of_decide_eq_true sG⟩
 ·split at aC
  ·exact⟨_,_,rfl,seq_eq aC⟩
  ·cases aC
 ·split at fq
  ·rename_i qz eA
   split at fq
   ·rename_i vs _ e1
    split at fq
    ·rename_i file t e2
     exact⟨qz,_,vs,file,t,eA,X _ _ e1,rfl,e2,fq⟩
    ·cases fq
   ·cases fq
  ·cases fq
 ·split at gy
  ·rename_i hc eA
   split at gy
   ·rename_i D _ e1
    simp only[gF] at gy
    obtain ⟨⟨g1,g2⟩,g3⟩:=gy
    obtain ⟨x4,aD⟩:=w8.mp g1
    exact⟨hc,_,D,x4,eA,X _ _ e1,rfl,aD,of_decide_eq_true g2,ak (qb.mp (of_decide_eq_true g3)) λcd z=> ⟨cd,z.1,z.2⟩⟩
   ·cases gy
  ·cases gy
def hM (b:List ct):Expr:=b4 (s1 b)
def rr (K:bZ) (a:Nat) (xs:X) (r:Q7.S):List ct×List ct:=match K.lookup a with
 |some ⟨_,_,.func fd,_⟩=>match fd.body with
  | .stmts b=> (.Expr (.Call (.Attribute (.Call (.Name (cF "super") (ck (ck (ck (hM b)))).pos) [] [] (ck (ck (hM b))).pos) (cF "__init__") (ck (hM b)).pos) ((au fd.scope xs).dw (Q7.xs (hM b))) [] (hM b).pos) (s1 b).pos::(dH fd.scope r).b0 b.tail,b)
  |_=> ([],[])
 |_=> ([],[])
def Ad (prog:cO) (K:bZ) (a:Nat) (p:List Nat×List (Nat×aj)) (c f:Nat) (xs:X) (r:Q7.S):Bool:=match K.lookup a with
 |some ⟨_,_,.func fd,_⟩=>match uv fd.params,fd.body,y8 K fd.defaults with
  |some args,.stmts b,ab items=>yv K p fd args items&&(fH fd.scope (nm 37)&&(au fd.scope xs).l (Q7.xs (hM b)))&&((ck (hM b)).pos.endLine==(hM b).pos.line)&&qK ((au fd.scope xs).dw (Q7.xs (hM b))) []&&FT prog K c f fd args&&(dH fd.scope r).b b.tail
  |_,_,_=>ac
 |_=>ac
theorem Qp {prog:cO} {K:bZ} {base:cw} (X:K.In base) {a:Nat} {p:List Nat×List (Nat×aj)} {c f:Nat} {xs:Q7.X} {r:Q7.S} (aC:p.1.Nodup) (h:Ad prog K a p c f xs r=aa) (he:(rr K a xs r).1=(rr K a xs r).2):tN prog K base a p c f xs r:=by
 unfold Ad at h
 unfold rr at he
 split at h
 ·rename_i cl d fd aK e
  rw[e] at he
  dsimp only at he
  split at h
  ·rename_i args b items e1 e2 ik
   rw[e2] at he
   have g:=k2 h
   exact c5 (LY X e e1 (e2.trans (congrArg _ he.symm)) ik g.1) λo dflt fz F=> ⟨aC,_,fd,args,dflt,fz,items,_,_,_,_,_,_,_,F,ag6 X g.2.2.2.2.1,(b3 g.2.1).1,(b3 g.2.1).2,g.2.2.1,g.2.2.2.1,g.2.2.2.2.2⟩
  ·cases h
 ·cases h
def FZ (K:bZ):Bool:=
 qY K jx&&qY K oV&&qY K xi&&(lp K xi "sys.recursionlimit").isNone&&(jm.all λx=>AR K x.1)&&(uE.all λx=> (lp K jx x.1).isNone&&decide (lp K oV x.1=ab x.2))&&
 (mb.all λx=> (mz K x.1).isSome)&&decide (oS K (.builtin "object.__class__") "__get__" =ab (ab (.builtin "getset_descriptor.__get__")))&&decide (xg K (.builtin "object.__class__")=ab aa)
def vm:At->Bool
 | .val (.ek _ _)=>aa
 |_=>ac
def Co (K:bZ):Bool:=jm.all λx=>x.2.all λy=>vm y.2||Cn K x.1 y.1 y.2
def ya (K:bZ) (c n d:Nat):Bool:=decide (hL K (.ref c) (nm n)=ab (ab (.ref d)))&&decide (oS K (.ref d) "__get__" =ab af)&& !rX.contains (nm n)
theorem LD {K:bZ} {base:cw} {c n d:Nat} {v:aj} (h:ya K c n d=aa) (aW:bq base.get? v (.ref d)):tK K base c n (.val v):=by
 unfold ya at h
 simp only[gF,oE] at h
 exact⟨_,aW,of_decide_eq_true h.1.1,of_decide_eq_true h.1.2,rfl,h.2⟩
theorem V4:(jm.all λx=>x.2.all λy=> !vm y.2|| (bA x.1 799&&bA y.1 287) || (bA x.1 2029&&bA y.1 180))=aa:=by decide+kernel
def CW (K:bZ):Bool:=om.all λx=>x.2.all λy=>CV K x.1 y.1 y.2
def FR (K:bZ):Bool:=mb.all λx=>subB K x.1 x.2
def Dw (K:bZ):Bool:=dX.all λx=>bA x.1 184||yF K x.1 x.2
theorem ahq {K:bZ} {base:cw} (X:K.In base) (ap:FZ K=aa) (aC:Co K=aa) (bu:CW K=aa) (d8:FR K=aa) (fq:Dw K=aa)
  (pn: ∀v,aL 184 dX=ab v->AW base (nm 184) v) (gy: ∀v,(aI []).at 799 287=ab v->tK K base 799 287 v) (lU: ∀v,(aI []).at 2029 180=ab v->tK K base 2029 180 v):Top K base (aI []):=by
 unfold FZ at ap
 simp only[gF] at ap
 obtain ⟨⟨⟨⟨⟨⟨⟨⟨a1,a2⟩,nG⟩,um⟩,qp⟩,uo⟩,I9⟩,Ja⟩,Jb⟩:=ap
 unfold Co at aC
 unfold CW at bu
 unfold FR at d8
 unfold Dw at fq
 refine⟨⟨X,λc l h=> ?_,λc n i h=> ?_,λc t n v h h'=> ?_⟩,λx aH=> ?_,λD m h=> ?_,⟨of_decide_eq_true Ja,of_decide_eq_true Jb⟩,λD m h=> ?_,λn v h=> ?_, ?_⟩
 ·have fZ:(c,l)∈jm:=jc h
  exact fM.mp qp (c,l) fZ
 ·have cy:=h
  unfold cM.at at h
  split at h
  ·rename_i l e
   have fZ:(c,l)∈jm:=jc e
   have hF:=fM.mp aC (c,l) fZ
   have hE:(n,i)∈l:=jc h
   have gO:=fM.mp hF (n,i) hE
   have gO:(vm i||Cn K c n i)=aa:=gO
   cases gp:vm i with
   |false=>rw[gp,oD] at gO;exact Ul X gO
   |true=>
    have l7:=fM.mp (fM.mp V4 (c,l) fZ) (n,i) hE
    have l7:(!vm i|| (bA c 799&&bA n 287) || (bA c 2029&&bA n 180))=aa:=l7
    rw[gp,wK,oD,nk] at l7
    rcases l7 with l7|l7<;> (rw[gF] at l7;obtain ⟨g1,g2⟩:=l7;have g1:=fh g1;have g2:=fh g2;subst g1;subst g2)
    ·exact gy _ cy
    ·exact lU _ cy
  ·cases h
 ·have fZ:(c,t)∈om:=jc h
  have hF:=fM.mp bu (c,t) fZ
  have hE:(n,v)∈t:=jc h'
  have gO:=fM.mp hF (n,v) hE
  exact Vo X gO
 ·have q:=fM.mp uo x aH
  rw[gF] at q
  exact⟨lp K jx,lp K oV,vn X a1,Bj.mp q.1,vn X a2,of_decide_eq_true q.2⟩
 ·have fZ:(D,m)∈mb:=jc h
  exact ag3 (fM.mp d8 (D,m) fZ)
 ·have fZ:(D,m)∈mb:=jc h
  exact fM.mp I9 (D,m) fZ
 ·by_cases q:n=184
  ·subst q;exact pn v h
  ·have fZ:(n,v)∈dX:=jc h
   have hF:=fM.mp fq (n,v) fZ
   have gO:bA n 184=ac:=by
    cases e:bA n 184 with
    |false=>rfl
    |true=>exact absurd (fh e) q
   have l7:(bA n 184||yF K n v)=aa:=hF
   rw[gO,oD] at l7
   exact X5 X a1 l7
 ·exact⟨lp K xi,vn X nG,Bj.mp um⟩
def OL (K:bZ):Bool:=zt.all λx=>rZ K x.1&&decide (hL K (.ref x.1) "__init__" =ab (ab (.ref x.2)))&&decide (oT K (.ref x.2)=ab (.type "function"))
theorem abV {K:bZ} (h:OL K=aa): ∀C f,aL C zt=ab f->rZ K C=aa/\hL K (.ref C) "__init__" =ab (ab (.ref f))/\oT K (.ref f)=ab (.type "function"):=λC f e=>
 have h:=cU (fM.mp h _ (jc e))
 ⟨h.1,of_decide_eq_true h.2.1,of_decide_eq_true h.2.2⟩
def Nh (K:bZ):Bool:=gD.all λx=>Bx K (.ref x.1)&&((aL x.1 jm).isSome||fnIn K x.1)
theorem ZZ {K:bZ} (h:Nh K=aa):(∀a p,aL a gD=ab p->Bx K (.ref a)=aa)/\ ∀a p,aL a gD=ab p->aL a jm=af->fnIn K a=aa:=
 ⟨λa p e=> (b3 (fM.mp h _ (jc e))).1,λa p e n=>by
  have h:=(b3 (fM.mp h _ (jc e))).2
  rw[n] at h
  exact h⟩
end
end Q7
namespace Hd
noncomputable def addrs:List Nat:= [0,2,3,52,53,121,122,143,144,163,164,175,176,195,196,207,208,227,228,247,248,259,260,279,280,291,292,315,316,358,359,798,799,833,834,854,855,875,876,887,888,899,900,919,920,931,932,943,944,955,956,979,980,991,992,1051,1052,1082,1083,1101,1102,1120,1121,1140,1141,1237,1238,1788,1789,2028,2029,2040,2041,2042,35,112,193,225,245,277,356,379,393,400,407,415,422,429,436,444,451,458,466,480,615,629,636,643,650,657,664,671,692,699,706,713,721,728,736,743,750,774,781,788,817,824,831,852,873,917,1138,1176,1190,1198,1206,1214,1221,1228,1235,1291,1300,1307,1314,1321,1328,1335,1342,1356,1363,1377,1384,1391,1398,1405,1412,1510,1517,1524,1559,1566,1573,1608,1615,1622,1629,1636,1643,1650,1657,1664,1685,1692,1699,1706,1713,1765,1772,1786,1820,1834,1841,1848,1855,1862,1869,1876,1883,1890,1912,2039,2050,2057,2062,2069,34,54,55,105,111,123,124,186,192,218,224,238,244,270,276,355,360,361,372,378,392,399,406,408,414,421,428,435,437,443,450,457,459,465,479,614,628,635,642,649,656,663,670,691,698,705,712,714,720,727,729,735,742,749,773,780,787,800,801,816,823,830,835,836,851,856,857,872,910,916,1131,1137,1175,1189,1191,1197,1199,1205,1207,1213,1220,1227,1234,1239,1240,1279,1290,1293,1299,1306,1313,1320,1327,1334,1341,1355,1362,1376,1383,1390,1397,1404,1411,1509,1516,1523,1558,1565,1572,1607,1614,1621,1628,1635,1642,1649,1656,1663,1684,1691,1698,1705,1712,1764,1771,1785,1807,1819,1833,1840,1847,1854,1861,1868,1875,1882,1889,1905,1911,2032,2038,2043,371,1812,1292,2049,2056,2061,2068]
noncomputable def KK (P:cx):bZ:=Q7.yB (i1 P) addrs
noncomputable def ZX (P:cx):Bool:=Q7.FZ (KK P)
noncomputable def ZJ (P:cx):Bool:=Q7.Co (KK P)
noncomputable def ZL (P:cx):Bool:=Q7.ya (KK P) 799 287 371&&Q7.ya (KK P) 2029 180 1812
noncomputable def ZK (P:cx):Bool:=Q7.CW (KK P)
noncomputable def ZW (P:cx):Bool:=Q7.FR (KK P)
noncomputable def ZS (P:cx):Bool:=Q7.Dw (KK P)
noncomputable def ZV (P:cx):Bool:=Q7.OL (KK P)
noncomputable def ZT (P:cx):Bool:=Q7.Nh (KK P)
noncomputable def ZM (P:cx):Bool:=(((Q7.hg.drop 0).take 18).all (Q7.nX (KK P)))
noncomputable def ZN (P:cx):Bool:=(((Q7.hg.drop 18).take 18).all (Q7.nX (KK P)))
noncomputable def ZO (P:cx):Bool:=(((Q7.hg.drop 36).take 18).all (Q7.nX (KK P)))
noncomputable def ZP (P:cx):Bool:=(((Q7.hg.drop 54).take 18).all (Q7.nX (KK P)))
noncomputable def ZQ (P:cx):Bool:=(((Q7.hg.drop 72).take 18).all (Q7.nX (KK P)))
noncomputable def ZR (P:cx):Bool:=(((Q7.hg.drop 90).take 18).all (Q7.nX (KK P)))
theorem WL:(λP=>ZX P)=λ_=>aa:=by kernel_rfl
theorem WI:(λP=>ZT P)=λ_=>aa:=by kernel_rfl
theorem WJ:(λP=>ZV P)=λ_=>aa:=by kernel_rfl
theorem WH:(λP=>ZS P)=λ_=>aa:=by kernel_rfl
theorem Ws:(λP=>ZJ P)=λ_=>aa:=by kernel_rfl
theorem Wt:(λP=>ZK P)=λ_=>aa:=by kernel_rfl
theorem LP:(λP=>ZL P)=λ_=>aa:=by kernel_rfl
theorem WK:(λP=>ZW P)=λ_=>aa:=by kernel_rfl
theorem WA:(λP=>ZM P)=λ_=>aa:=by kernel_rfl
theorem Wu:(λP=> ((Q7.hg.drop 0).take 18).map λx=> (Q7.iF (KK P) x).1)=(λP=> ((Q7.hg.drop 0).take 18).map λx=> (Q7.iF (KK P) x).2):=by kernel_rfl
theorem WB:(λP=>ZN P)=λ_=>aa:=by kernel_rfl
theorem Wv:(λP=> ((Q7.hg.drop 18).take 18).map λx=> (Q7.iF (KK P) x).1)=(λP=> ((Q7.hg.drop 18).take 18).map λx=> (Q7.iF (KK P) x).2):=by kernel_rfl
theorem WC:(λP=>ZO P)=λ_=>aa:=by kernel_rfl
theorem Ww:(λP=> ((Q7.hg.drop 36).take 18).map λx=> (Q7.iF (KK P) x).1)=(λP=> ((Q7.hg.drop 36).take 18).map λx=> (Q7.iF (KK P) x).2):=by kernel_rfl
theorem WD:(λP=>ZP P)=λ_=>aa:=by kernel_rfl
theorem Wx:(λP=> ((Q7.hg.drop 54).take 18).map λx=> (Q7.iF (KK P) x).1)=(λP=> ((Q7.hg.drop 54).take 18).map λx=> (Q7.iF (KK P) x).2):=by kernel_rfl
theorem WE:(λP=>ZQ P)=λ_=>aa:=by kernel_rfl
theorem Wy:(λP=> ((Q7.hg.drop 72).take 18).map λx=> (Q7.iF (KK P) x).1)=(λP=> ((Q7.hg.drop 72).take 18).map λx=> (Q7.iF (KK P) x).2):=by kernel_rfl
theorem WG:(λP=>ZR P)=λ_=>aa:=by kernel_rfl
theorem Wz:(λP=> ((Q7.hg.drop 90).take 18).map λx=> (Q7.iF (KK P) x).1)=(λP=> ((Q7.hg.drop 90).take 18).map λx=> (Q7.iF (KK P) x).2):=by kernel_rfl
theorem X4 (P:cx):(i1 P).get 371=ab (aq (.type "dict") af (.dict [bV P (a7 "!" 738) (a7 "!" 739),bV P (a7 "tag:yaml.org,2002:" 740) (a7 "!!" 741)].toArray 2)):=by kernel_rfl
theorem XZ (P:cx):(i1 P).get 1812=ab (aq (.type "dict") af (.dict [bV P (a7 "!" 2883) (a7 "!" 2884),bV P (a7 "!!" 2885) (a7 "tag:yaml.org,2002:" 2886)].toArray 2)):=by kernel_rfl
theorem X0 (P:cx):(i1 P).get 2040=ab (aq (.type "dict") af (.dict [bV P (a7 "!e!" 3197) (a7 "!x" 3198)].toArray 1)):=by kernel_rfl
theorem X1 (P:cx):(i1 P).get 2041=ab (aq (.type "dict") af (.dict [bV P (a7 "!" 3200) (a7 "!y" 3201),bV P (a7 "!e!" 3202) (a7 "t" 3203)].toArray 2)):=by kernel_rfl
theorem X2 (P:cx):(i1 P).get 2042=ab (aq (.type "dict") af (.dict [bV P (a7 "!e!" 3206) (a7 "!x" 3207)].toArray 1)):=by kernel_rfl
theorem X3 (P:cx):(i1 P).get 2043=ab (aq (.type "list") af (.seq [.none,.none,.ref 2040,.ref 2041,.ref 2042].toArray 0)):=by kernel_rfl
noncomputable def pY:Q7.S->Q7.S
 | .cons _ r=>r
 |r=>r
theorem WS:(λP=>Q7.Ad bU (KK P) 1291 ([37,97],[]) 2029 1190 (.cons (.lo 97) .nil) (pY Q7.qv))=λ_=>aa:=by kernel_rfl
theorem WR:(λP=>Q7.Ad bU (KK P) 1820 ([37,97],[]) 2029 1291 (.cons (.lo 97) .nil) (pY Q7.qu))=λ_=>aa:=by kernel_rfl
theorem WQ:(λP=> (Q7.rr (KK P) 1291 (.cons (.lo 97) .nil) (pY Q7.qv)).1)=λP=> (Q7.rr (KK P) 1291 (.cons (.lo 97) .nil) (pY Q7.qv)).2:=by kernel_rfl
theorem WO:(λP=> (Q7.rr (KK P) 1820 (.cons (.lo 97) .nil) (pY Q7.qu)).1)=λP=> (Q7.rr (KK P) 1820 (.cons (.lo 97) .nil) (pY Q7.qu)).2:=by kernel_rfl
theorem Ym:Q7.qv= .cons (.exp (.mc 2029 1190 (.cons (.lo 97) .nil))) (pY Q7.qv):=by kernel_rfl
theorem Yl:Q7.qu= .cons (.exp (.mc 2029 1291 (.cons (.lo 97) .nil))) (pY Q7.qu):=by kernel_rfl
theorem Wr:(λP=>Q7.qY (KK P) jx)=λ_=>aa:=by kernel_rfl
theorem Wq:(λP=>Q7.lp (KK P) jx (Q7.nm 184))=λ_=>ab (.ref 2043):=by kernel_rfl
theorem UG:(addrs.all λa=>d6 a 2075)=aa:=by decide+kernel
theorem gZ (P:cx):(KK P).In (e5 P):= @Q7.XK ⟨P⟩ _ _ _ _ UG
theorem sE {P:cx} {a:Nat} {o:bX} (h:a<2075) (e:(i1 P).get a=ab o):(e5 P).get? a=alive o:=abs_get h e
section
variable (w:ba)
theorem LG {P:cx} {a:Nat} {k v:List Nat} {t1 jP:Nat} {n:Nat} (h:(e5 P).get? a=ab (eD [bV P (.str (Q7.aK k) t1) (.str (Q7.aK v) jP)] n)) (aS:k.length<=d0) (aW:v.length<=d0) (hs:(a==lJ)=ac):
  @Q7.bq ⟨P⟩ (e5 P).get? (.ek [k] [.str v]) (.ref a):=
 letI:Q7.WP:=⟨P⟩
 .ek (es:= [bV P (.str (Q7.aK k) t1) (.str (Q7.aK v) jP)]) ⟨⟨p6.mpr ⟨eI,RY⟩,λx aH=>by rw[jU.mp aH];exact aS⟩,hs⟩ h (.cons ⟨⟨_,rfl⟩,rfl⟩ .nil) (.cons (.str _ _ aW) .nil)
theorem C0 {P:cx} {a:Nat} {k v kb lr:List Nat} {t1 jP t3 FU:Nat} {n:Nat} (h:(e5 P).get? a=ab (eD [bV P (.str (Q7.aK k) t1) (.str (Q7.aK v) jP),bV P (.str (Q7.aK kb) t3) (.str (Q7.aK lr) FU)] n)) (bY:k≠kb) (aS:k.length<=d0) (aW:v.length<=d0)
  (YG:kb.length<=d0) (DQ:lr.length<=d0) (hs:(a==lJ)=ac): @Q7.bq ⟨P⟩ (e5 P).get? (.ek [k,kb] [.str v,.str lr]) (.ref a):=
 letI:Q7.WP:=⟨P⟩
 .ek (es:= [bV P (.str (Q7.aK k) t1) (.str (Q7.aK v) jP),bV P (.str (Q7.aK kb) t3) (.str (Q7.aK lr) FU)]) ⟨⟨p6.mpr ⟨λq=>bY (jU.mp q),p6.mpr ⟨eI,RY⟩⟩,λx aH=>by
  rcases e6.mp aH with aH|aH
  ·rw[aH];exact aS
  ·rw[jU.mp aH];exact YG⟩,hs⟩ h (.cons ⟨⟨_,rfl⟩,rfl⟩ (.cons ⟨⟨_,rfl⟩,rfl⟩ .nil)) (.cons (.str _ _ aW) (.cons (.str _ _ DQ) .nil))
end
theorem Xu:Q7.hg.drop 108= []:=by decide+kernel
theorem TZ:(Q7.aI []).at 799 287=ab (.val (.ek [[33],[116,97,103,58,121,97,109,108,46,111,114,103,44,50,48,48,50,58]] [.str [33],.str [33,33]])):=by kernel_rfl
theorem TY:(Q7.aI []).at 2029 180=ab (.val (.ek [[33],[33,33]] [.str [33],.str [116,97,103,58,121,97,109,108,46,111,114,103,44,50,48,48,50,58]])):=by kernel_rfl
theorem TX:Q7.aL 184 Q7.dX=ab (.lst [.none,.none,.ek [[33,101,33]] [.str [33,120]],.ek [[33],[33,101,33]] [.str [33,121],.str [116]],.ek [[33,101,33]] [.str [33,120]]]):=by kernel_rfl
theorem Vr (P:cx):(e5 P).get? 2040=ab (eD [bV P (a7 "!e!" 3197) (a7 "!x" 3198)] 1):=sE (by decide) (X0 P)
theorem Vs (P:cx):(e5 P).get? 2041=ab (eD [bV P (a7 "!" 3200) (a7 "!y" 3201),bV P (a7 "!e!" 3202) (a7 "t" 3203)] 2):=sE (by decide) (X1 P)
theorem Vt (P:cx):(e5 P).get? 2042=ab (eD [bV P (a7 "!e!" 3206) (a7 "!x" 3207)] 1):=sE (by decide) (X2 P)
theorem Vu (P:cx):(e5 P).get? 2043=ab (Q7.lobj [.none,.none,.ref 2040,.ref 2041,.ref 2042] 0):=sE (by decide) (X3 P)
theorem Vv (P:cx):(e5 P).get? 371=ab (eD [bV P (a7 "!" 738) (a7 "!" 739),bV P (a7 "tag:yaml.org,2002:" 740) (a7 "!!" 741)] 2):=sE (by decide) (X4 P)
theorem Vq (P:cx):(e5 P).get? 1812=ab (eD [bV P (a7 "!" 2883) (a7 "!" 2884),bV P (a7 "!!" 2885) (a7 "tag:yaml.org,2002:" 2886)] 2):=sE (by decide) (XZ P)
theorem FG:cF "!" =Q7.aK [33]:=by decide+kernel
theorem FH:cF "!e!" =Q7.aK [33,101,33]:=by decide+kernel
theorem Qc:cF "!x" =Q7.aK [33,120]:=by decide+kernel
theorem af3:cF "!y" =Q7.aK [33,121]:=by decide+kernel
theorem af4:cF "t" =Q7.aK [116]:=by decide+kernel
theorem Qd:cF "!!" =Q7.aK [33,33]:=by decide+kernel
theorem Qe:cF "tag:yaml.org,2002:" =Q7.aK [116,97,103,58,121,97,109,108,46,111,114,103,44,50,48,48,50,58]:=by decide+kernel
theorem i7: ∀n:Nat,n<=100->n<=d0:=λn h=>by rw[gj];omega
theorem Xe (P:cx): @Q7.bq ⟨P⟩ (e5 P).get? (.ek [[33,101,33]] [.str [33,120]]) (.ref 2040):=by
 have h:=Vr P
 unfold a7 at h
 rw[FH,Qc] at h
 exact LG h (i7 _ (by decide)) (i7 _ (by decide)) rfl
theorem Xg (P:cx): @Q7.bq ⟨P⟩ (e5 P).get? (.ek [[33,101,33]] [.str [33,120]]) (.ref 2042):=by
 have h:=Vt P
 unfold a7 at h
 rw[FH,Qc] at h
 exact LG h (i7 _ (by decide)) (i7 _ (by decide)) rfl
theorem Xf (P:cx): @Q7.bq ⟨P⟩ (e5 P).get? (.ek [[33],[33,101,33]] [.str [33,121],.str [116]]) (.ref 2041):=by
 have h:=Vs P
 unfold a7 at h
 rw[FG,FH,af3,af4] at h
 exact C0 h (by decide) (i7 _ (by decide)) (i7 _ (by decide)) (i7 _ (by decide)) (i7 _ (by decide)) rfl
theorem Xh (P:cx): @Q7.bq ⟨P⟩ (e5 P).get? (.ek [[33],[116,97,103,58,121,97,109,108,46,111,114,103,44,50,48,48,50,58]] [.str [33],.str [33,33]]) (.ref 371):=by
 have h:=Vv P
 unfold a7 at h
 rw[FG,Qd,Qe] at h
 exact C0 h (by decide) (i7 _ (by decide)) (i7 _ (by decide)) (i7 _ (by decide)) (i7 _ (by decide)) rfl
theorem Xd (P:cx): @Q7.bq ⟨P⟩ (e5 P).get? (.ek [[33],[33,33]] [.str [33],.str [116,97,103,58,121,97,109,108,46,111,114,103,44,50,48,48,50,58]]) (.ref 1812):=by
 have h:=Vq P
 unfold a7 at h
 rw[FG,Qd,Qe] at h
 exact C0 h (by decide) (i7 _ (by decide)) (i7 _ (by decide)) (i7 _ (by decide)) (i7 _ (by decide)) rfl
theorem ahp (P:cx): @Q7.Top ⟨P⟩ (KK P) (e5 P) (Q7.aI []):=by
 letI:Q7.WP:=⟨P⟩
 have X:=gZ P
 refine Q7.ahq X (congrFun WL P) (congrFun Ws P) (congrFun Wt P) (congrFun WK P) (congrFun WH P) (λv aW=> ?_) (λv aW=> ?_) (λv aW=> ?_)
 ·rw[TX] at aW
  cases aW
  exact⟨.ref 2043,Q7.lp (KK P) jx,.lst (Vu P) (.cons .none (.cons .none (.cons (Xe P) (.cons (Xf P) (.cons (Xg P) .nil))))),Q7.vn X (congrFun Wr P),.inl (congrFun Wq P)⟩
 ·rw[TZ] at aW
  cases aW
  exact Q7.LD (fW.mp (congrFun LP P)).1 (Xh P)
 ·rw[TY] at aW
  cases aW
  exact Q7.LD (fW.mp (congrFun LP P)).2 (Xd P)
theorem abT {α:Type} {P:α->Prop} {l:List α} (n:Nat) (ap: ∀x∈l.take n,P x) (aC: ∀x∈l.drop n,P x): ∀x∈l,P x:=by
 rw[<-p7 n l]
 exact List.forall_mem_append.mpr ⟨ap,aC⟩
theorem sC {P:cx} {l:List (Nat×Q7.S)} {n k:Nat} (h:n+18=k) (ap:((l.drop n).take 18).all (Q7.nX (KK P))=aa) (he:(((l.drop n).take 18).map λx=> (Q7.iF (KK P) x).1)=((l.drop n).take 18).map λx=> (Q7.iF (KK P) x).2)
  (aC: ∀x∈l.drop k,∀p,Q7.aL x.1 Q7.gD=ab p-> @Q7.rO ⟨P⟩ (e5 P) x.1 p x.2): ∀x∈l.drop n,∀p,Q7.aL x.1 Q7.gD=ab p-> @Q7.rO ⟨P⟩ (e5 P) x.1 p x.2:=by
 letI:Q7.WP:=⟨P⟩
 refine abT 18 (λx aH=>Q7.Xv (gZ P) (fM.mp ap x aH) (List.map_inj_left.mp he x aH)) ?_
 rw[A1,h]
 exact aC
theorem XB (P:cx): ∀x∈Q7.hg.drop 0,∀p,Q7.aL x.1 Q7.gD=ab p-> @Q7.rO ⟨P⟩ (e5 P) x.1 p x.2:=
 sC (k:=18) rfl (congrFun WA P) (congrFun Wu P) (sC (k:=36) rfl (congrFun WB P) (congrFun Wv P) (sC (k:=54) rfl (congrFun WC P) (congrFun Ww P) (sC (k:=72) rfl (congrFun WD P) (congrFun Wx P) (sC (k:=90) rfl (congrFun WE P) (congrFun Wy P) (sC (k:=108) rfl (congrFun WG P) (congrFun Wz P) (Xu▸ λx h=>absurd h eI))))))
theorem XX (P:cx): @Q7.rQ ⟨P⟩ bU (KK P) (e5 P):=by
 letI:Q7.WP:=⟨P⟩
 have X:=gZ P
 have ks:=Q7.ZZ (congrFun WI P)
 exact⟨ahp P,λa b e=>XB P _ (Q7.jc e),Q7.abV (congrFun WJ P),ks.1,ks.2,
  ⟨_,_,_,_,Ym,Q7.Qp X (by decide) (congrFun WS P) (congrFun WQ P)⟩,⟨_,_,_,_,Yl,Q7.Qp X (by decide) (congrFun WR P) (congrFun WO P)⟩⟩
theorem aiN (w:ba):Q7.ul w (e5 w.params):=⟨e5 w.params,KK w.params,λ_ _ h=>h,XX w.params⟩
theorem aiO (w:ba) (h h':cw) (y:Q7.ul w h) (k: ∀b o,h.get? b=ab o->h'.get? b=ab o):Q7.ul w h':=
 ak y λbase y=>ak y λKf y=> ⟨base,Kf,λx o e=>k x o (y.1 x o e),y.2⟩
theorem O5 (aL:Look): ∀a b:List ct,kz aL (a++b)=(kz aL a&&kz aL b)
 | [],b=>by simp[kz]
 |s::a,b=>by
  simp only[RN,kz]
  rw[O5 aL a b]
  rw[wI]
noncomputable def Ep:Look:={strict:= !(BJ bU.main.body).all cThrough.contains,foot:=af,bare:=A3 (xf bU bU.main.body) [cF "vars",cF "dir",cF "locals"]}
noncomputable def pE:Look:={strict:=ac,foot:=af,bare:= []}
theorem abg:(BJ bU.main.body).all cThrough.contains=aa:=by kernel_rfl
theorem Xl (f:aZ->Bool) (a b c:aZ) (ap:f a=ac) (aC:f b=ac) (bu:f c=ac):(A3 f [a,b,c]).isEmpty=aa:=by
 simp only[A3,ap,aC,bu]
 rfl
theorem abj:xf bU bU.main.body (cF "vars")=ac:=by kernel_rfl
theorem abk:xf bU bU.main.body (cF "dir")=ac:=by kernel_rfl
theorem abl:xf bU bU.main.body (cF "locals")=ac:=by kernel_rfl
theorem abi:(A3 (xf bU bU.main.body) [cF "vars",cF "dir",cF "locals"]).isEmpty=aa:=Xl _ _ _ _ abj abk abl
theorem abn:Ep=pE:=by
 unfold Ep pE
 rw[abg,HQ.mp abi]
 rfl
theorem acF:kz pE (bU.main.body.take 23)=aa:=by kernel_rfl
theorem acG:kz pE ((bU.main.body.drop 23).take 1)=aa:=by kernel_rfl
theorem acH:kz pE ((bU.main.body.drop 24).take 30)=aa:=by kernel_rfl
theorem acI:kz pE ((bU.main.body.drop 54).take 1)=aa:=by kernel_rfl
theorem acJ:kz pE (bU.main.body.drop 55)=aa:=by kernel_rfl
section
open TablesWhole
theorem ahu (A:Alg Bool) (ag:A.both=λa b=>a&&b) (d3:A.unit=aa) (t:cC) (c:TablesWhole.Ctx) (s:cC) (a b:List ct):wSs A t c s (a++b)=(wSs A t c s a&&wSs A t c s b):=by
 induction a with
 |nil=>
  show wSs A t c s b=(A.unit&&wSs A t c s b)
  rw[d3]
  rfl
 |cons x a ai=>
  show A.both (wS A t c s x) (wSs A t c s (a++b))=(A.both (wS A t c s x) (wSs A t c s a)&&wSs A t c s b)
  rw[ai,ag]
  exact(wI _ _ _).symm
theorem aiA (m:Module) (ap:wSs gather m.scope ⟨m.scope,[],[],[],af⟩ m.scope m.body= []) (aC:noTwice m.scope=aa) (bu:wSs holds m.scope ⟨m.scope,[],[],[],af⟩ m.scope m.body=aa):wModule holds m=aa:=by
 unfold wModule
 rw[ap,aC]
 exact(show(aa&&(aa&&(wSs holds m.scope ⟨m.scope,[],[],[],af⟩ m.scope m.body&&aa)))=aa by rw[bu];rfl)
theorem aiC (p:cO) (ap:wModule holds p.main=aa) (aC:p.modules= []) (bu:p.parses= []) (d8:p.harvested= []):p.tablesWhole=aa:=by
 unfold Program.tablesWhole wProgram
 rw[ap,aC,bu,d8]
 rfl
theorem QW (A:Alg Bool) (ag:A.both=λa b=>a&&b) (d3:A.unit=aa) (he: ∀s,A.enter s=aa) (aD: ∀x s n b,A.check x s n b=aa) (m:Module) (h: ∀g,wSs A m.scope ⟨m.scope,[],g,[],af⟩ m.scope m.body=aa):wModule A m=aa:=by
 unfold wModule Alg.all
 rw[ag,d3]
 simp only[List.foldr,he,aD,h]
 rfl
noncomputable def dX (A:Alg Bool) (g:List aZ) (l:List ct):Bool:=wSs A bU.main.scope ⟨bU.main.scope,[],g,[],af⟩ bU.main.scope l
theorem z7 (A:Alg Bool) (ag:A.both=λa b=>a&&b) (d3:A.unit=aa) (g:List aZ) (l:List ct) (n m:Nat) (ap:dX A g ((l.drop n).take m)=aa) (aC:dX A g (l.drop (n+m))=aa):dX A g (l.drop n)=aa:=by
 rw[<-p7 m (l.drop n),dX,ahu A ag d3,A1]
 exact rY ap aC
theorem z6 (A:Alg Bool) (ag:A.both=λa b=>a&&b) (d3:A.unit=aa) (g:List aZ) (l:List ct) (ap:dX A g (l.take 23)=aa) (aC:dX A g ((l.drop 23).take 1)=aa) (bu:dX A g ((l.drop 24).take 30)=aa) (d8:dX A g ((l.drop 54).take 1)=aa) (fq:dX A g (l.drop 55)=aa):dX A g l=aa:=
 z7 A ag d3 g l 0 23 ap (z7 A ag d3 g l 23 1 aC (z7 A ag d3 g l 24 30 bu (z7 A ag d3 g l 54 1 d8 fq)))
noncomputable def kd (f:cC->aZ->Bool):Alg Bool:=⟨λsc n _=>f sc n,λ_ _ _ _=>aa,λ_=>aa,aa,ac,λa b=>a&&b⟩
theorem OR (p:cO) (b:List ct) (f:cC->aZ->Bool) (h: ∀g,wSs (kd f) p.main.scope ⟨p.main.scope,[],g,[],af⟩ p.main.scope b=aa):IA p b f=aa:=
 QW (kd f) rfl rfl (λ_=>rfl) (λ_ _ _ _=>rfl) {p.main with body:=b} h
noncomputable def nI (p:cO):{A:Alg Bool//IB p=wModule A p.main}:=⟨_,rfl⟩
theorem ab6 (p:cO) (h: ∀g,wSs (nI p).1 p.main.scope ⟨p.main.scope,[],g,[],af⟩ p.main.scope p.main.body=aa):IB p=aa:=
 (nI p).2.trans (QW (nI p).1 rfl rfl (λ_=>rfl) (λ_ _ _ _=>rfl) p.main h)
end
section
open TablesWhole
theorem ahc:dX holds [] (bU.main.body.take 23)=aa:=by kernel_rfl
theorem ahd:dX holds [] ((bU.main.body.drop 23).take 1)=aa:=by kernel_rfl
theorem ahe:dX holds [] ((bU.main.body.drop 24).take 30)=aa:=by kernel_rfl
theorem ahf:dX holds [] ((bU.main.body.drop 54).take 1)=aa:=by kernel_rfl
theorem ahg:dX holds [] (bU.main.body.drop 55)=aa:=by kernel_rfl
theorem ahl:wSs gather bU.main.scope ⟨bU.main.scope,[],[],[],af⟩ bU.main.scope bU.main.body= []:=by kernel_rfl
theorem acL:noTwice bU.main.scope=aa:=by kernel_rfl
theorem ahy:bU.tablesWhole=aa:=aiC bU (aiA bU.main ahl acL (z6 holds rfl rfl [] bU.main.body ahc ahd ahe ahf ahg)) rfl rfl rfl
end
noncomputable def qI:cC->aZ->Bool:=λ_ n=>attrL n
theorem ab7:(λg=>dX (kd qI) g (bU.main.body.take 23))=λ_=>aa:=by kernel_rfl
theorem ab8:(λg=>dX (kd qI) g ((bU.main.body.drop 23).take 1))=λ_=>aa:=by kernel_rfl
theorem ab9:(λg=>dX (kd qI) g ((bU.main.body.drop 24).take 30))=λ_=>aa:=by kernel_rfl
theorem aca:(λg=>dX (kd qI) g ((bU.main.body.drop 54).take 1))=λ_=>aa:=by kernel_rfl
theorem acb:(λg=>dX (kd qI) g (bU.main.body.drop 55))=λ_=>aa:=by kernel_rfl
theorem acn:(IA bU bU.main.body λ_ n=>attrL n)=aa:=OR bU bU.main.body qI λg=>z6 (kd qI) rfl rfl g bU.main.body (congrFun ab7 g) (congrFun ab8 g) (congrFun ab9 g) (congrFun aca g) (congrFun acb g)
noncomputable def pJ:List ct:=PySem.Challenge.rw_qm0007_07.above
noncomputable def pf:cC->aZ->Bool:=λ_ n=> !PySem.Challenge.rw_qm0007_07.own.contains n
theorem acq:(λg=>dX (kd pf) g (pJ.take 23))=λ_=>aa:=by kernel_rfl
theorem acr:(λg=>dX (kd pf) g ((pJ.drop 23).take 1))=λ_=>aa:=by kernel_rfl
theorem acs:(λg=>dX (kd pf) g ((pJ.drop 24).take 30))=λ_=>aa:=by kernel_rfl
theorem acu:(λg=>dX (kd pf) g ((pJ.drop 54).take 1))=λ_=>aa:=by kernel_rfl
theorem acv:(λg=>dX (kd pf) g (pJ.drop 55))=λ_=>aa:=by kernel_rfl
theorem acp:(IA bU pJ pf)=aa:=OR bU pJ pf λg=>z6 (kd pf) rfl rfl g pJ (congrFun acq g) (congrFun acr g) (congrFun acs g) (congrFun acu g) (congrFun acv g)
theorem acz:(λg=>dX (nI bU).1 g (bU.main.body.take 23))=λ_=>aa:=by kernel_rfl
theorem acA:(λg=>dX (nI bU).1 g ((bU.main.body.drop 23).take 1))=λ_=>aa:=by kernel_rfl
theorem acB:(λg=>dX (nI bU).1 g ((bU.main.body.drop 24).take 30))=λ_=>aa:=by kernel_rfl
theorem acC:(λg=>dX (nI bU).1 g ((bU.main.body.drop 54).take 1))=λ_=>aa:=by kernel_rfl
theorem acD:(λg=>dX (nI bU).1 g (bU.main.body.drop 55))=λ_=>aa:=by kernel_rfl
theorem aco:IB bU=aa:=ab6 bU λg=>z6 (nI bU).1 rfl rfl g bU.main.body (congrFun acz g) (congrFun acA g) (congrFun acB g) (congrFun acC g) (congrFun acD g)
theorem zF (aL:Look) (l:List ct) (n m:Nat) (ap:kz aL ((l.drop n).take m)=aa) (aC:kz aL (l.drop (n+m))=aa):kz aL (l.drop n)=aa:=by
 rw[<-p7 m (l.drop n),O5,ap,A1,aC]
 rfl
theorem acE:kz Ep bU.main.body=aa:=by
 rw[abn]
 exact zF pE bU.main.body 0 23 acF (zF _ _ 23 1 acG (zF _ _ 24 30 acH (zF _ _ 54 1 acI acJ)))
theorem abx:looksOpen bU=aa:=by
 unfold looksOpen
 repeat' with_reducible refine rY ?_ ?_
 rotate_left 2
 ·exact aco
 rotate_left 1
 ·exact acE
 ·exact acn
 all_goals kernel_rfl
theorem adI:rU.row.wellSaid=aa:=by
 unfold OpenRow.wellSaid OpenRow.partSaid
 repeat' with_reducible refine rY ?_ ?_
 ·exact abx
 all_goals kernel_rfl
theorem ws:rU.wellSaid=aa:=by
 unfold OpenLaw.wellSaid
 repeat' with_reducible refine rY ?_ ?_
 ·exact adI
 rotate_left 16
 ·exact acp
 all_goals kernel_rfl
noncomputable abbrev jk:OpenRow:=rU.row
noncomputable def dL:DefRec:=match defOf m5 jk.name with
 |some (d,_)=>d
 |none=> ⟨jk.name,⟨[],[],af,[],[],af,[]⟩,[],bU.main.scope,⟨0,0,0,0⟩⟩
theorem Yx:defOf m5 jk.name=ab (dL,[]):=by kernel_rfl
theorem Y1:jk.prog.theDef jk.name=ab (dL.params,dL.body,dL.scope):=by kernel_rfl
theorem hz:kwWritten? dL.params.kwonlyargs dL.params.kw_defaults=ab []:=by kernel_rfl
noncomputable def xF:iA:=dL.params.args.headD ⟨jk.name,af,⟨0,0,0,0⟩⟩
theorem YV:dL.params=⟨[],[xF],af,[],[],af,[]⟩:=by kernel_rfl
theorem pq:Q7.nm 93=xF.arg:=by kernel_rfl
theorem bw:Q7.xZ dL.scope dL.body=dL.body:=by kernel_rfl
theorem eU:Q7.Nv dL.scope dL.body=aa:=by kernel_rfl
theorem YO:chainsOk m5=aa:=by kernel_rfl
theorem YQ:(opening jk.prog).tameTopW=aa:=by kernel_rfl
theorem YR:(!bearImports (SS jk.prog))=aa:=by kernel_rfl
theorem YS:(frees jk.toRowW&&jk.within.isEmpty)=aa:=by kernel_rfl
theorem mR:(chainsOk m5&&opensWell jk.prog&&(frees jk.toRowW&&jk.within.isEmpty))=aa:=rY (rY YO (by unfold opensWell;exact rY YQ YR)) YS
theorem Yp:jk.prog.bare:=⟨rfl,rfl,rfl,rfl,rfl,ahy⟩
theorem Y2:jk.toRowW.promised:=⟨[.list [.int 3,.int 1]],by decide+kernel,by decide+kernel⟩
theorem hold:rU.Holds:=holds_law ws λafV=>
 holds_open (r:=jk) (q:=m5) (loose:=zk) (Xt:=B5) (XP:=XL m5 []) (Yf:=SN) (Ya:=λw=>e5 w.params) (YP:=Q7.ul) (d:=dL) (kwd:= []) aaR (λw s e=>by rw[e];exact aiN w) aiO
  (λs e=>xl_of s (fW.mp e).1) XL.keeps Yx Y1 hz (λs e=>recFacts_of (fW.mp e).2) rfl afV mR Yp Y2 (Q7.ail YV pq bw eU)
end Hd
theorem PySem.Challenge.cw_qm0007_07_holds : PySem.Challenge.rw_qm0007_07.Holds :=
  Hd.hold
