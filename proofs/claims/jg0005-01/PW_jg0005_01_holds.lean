import PyProof.Rows.All
import Open.Line
import Open.FastRun
import Open.Boot
import Wide.Loose
import OpenK.KMake
import OpenK.KDescr
import OpenK.KMeth
import OpenK.KCls
import OpenK.KGet
import OpenK.KWalk
import KE.KSortKey
import KE.KNest
import KE.KIsAll
import KE.KSortTup
import KE.KSortAsk
import PyProof.DictCompW
import PyProof.DictDisplay
import PyProof.DictRoads
import PyProof.DictRoadsH
import PyProof.TupleKey
import Lean
import PySem.Challenge.RW_jg0005_01
open PySem PySem.Calls PySem.W PyProof.Rows
set_option Elab.async false
set_option linter.all false
set_option maxRecDepth 100000
set_option genSizeOf false
set_option genCtorIdx false
set_option genInjectivity false
set_option bootstrap.genMatcherCode false
set_option compiler.extract_closed false
set_option tactic.hygienic false
namespace Mine
open _root_.Array renaming size_push→hY,length_toList→i6,getElem?_toList→kH,getElem?_setIfInBounds→lP,getElem?_eq_getElem→mM,toList_map→vf,getElem?_push_size→Al,toList_filterMap→BL,getElem?_push_lt→BM,mem_toList_iff→D4
open _root_.Bool renaming and_eq_true_iff→aP,false_eq_true→aR,and_eq_true→bg,noConfusion→bE,false_ne_true→eu,not_eq_true'→j6,eq_iff_iff→o6,false_or→AA
open _root_.Classical renaming byContradiction→dr,propDecidable→w4
open _root_.ForInStep renaming yield→iX
open _root_.Int renaming le_of_lt→bL,lt_of_le_of_lt→b_,natCast_nonneg→cz,ofNat_lt→cA,eq_ofNat_of_zero_le→dh,fmod_nonneg_of_pos→dC,le_trans→d9,toNat_natCast→eT,gcd→fe,lt_of_lt_of_le→jE,fmod_lt_of_pos→jF,ofNat_le→ki,lt_trans→kj,add_comm→oZ,mul_pos→qR,natAbs_of_nonneg→qT,ofNat→qV,toNat_of_nonneg→r7,not_lt→s5,pow_succ→u5,ne_of_gt→u6,lt_or_le→u7,pow_pos→wZ,natCast_add→x_,mul_le_mul→Aa,fmod_eq_emod_of_nonneg→Aj,fdiv_eq_ediv_of_nonneg→Ak,toNat→CC
open _root_.Int.ofNat renaming inj→vX
open _root_.List renaming getD_eq_getElem?_getD→ai,mem_singleton→aj,replicate→al,mem_append_right→ao,getElem?_eq_getElem→aq,getElem?_eq_some_iff→aw,range→ay,mem_append→aC,mem_cons→aD,length_map→aE,mem_append_left→aF,length_cons→aJ,mem_map→aL,mem_range→aM,mem_filter→aN,getElem?_set_ne→aQ,forall_mem_cons→aU,lookup_cons→aX,length_append→aY,map_cons→a_,size_toArray→ba,getElem?_eq_none→bk,getElem?_set_self→bp,mem_of_getElem?→bw,filterMap_cons_some→bz,all_eq_true→bD,length_filter_le→bG,map_map→bK,append_nil→bM,getElem?_map→bU,filter_cons_of_pos→bZ,filter_cons_of_neg→b0,map_congr_left→ck,length_nil→dp,pairwise_cons→dO,idxOf_lt_length_of_mem→dU,getElem?_append_right→dZ,nodup_cons→ej,drop_eq_getElem_cons→eo,filterMap_cons_none→eI,getElem_of_mem→eV,find?_cons_of_neg→fc,map→fO,filterMap_cons→f_,getElem_mem→gb,length_eq_zero_iff→gh,toArray→gJ,getElem_idxOf→gK,find?_cons_of_pos→gL,map_append→ia,any_eq_true→iW,of_mem_zip→js,length_set→jt,pairwise_singleton→jG,map_nil→jY,nodup_append→jZ,flatMap_cons→j0,ext_getElem?→j4,append_assoc→j5,filter_eq_nil_iff→j8,mem_flatMap→kZ,length_zip→lS,set_set→l_,nodup_nil→mm,getElem?_append_left→mR,filter_congr→m9,any_cons→nu,drop_of_length_le→oQ,forIn_cons→o4,filter_map→o5,length_singleton→pn,lookup→pZ,tail_drop→qa,mem_of_mem_take→qb,mem_iff_getElem→qc,map_eq_nil_iff→qY,getElem?_range→qZ,filter_sublist→q_,sum_cons→rY,mem_cons_self→sL,pairwise_map→tE,length_range→tF,not_mem_nil→vt,mem_reverse→vy,length_drop→vz,flatMap_map→vA,ext_getElem→vB,range'→vT,length→vU,forIn_nil→ye,filterMap→yf,perm_ext_iff_of_nodup→yk,pairwise_iff_getElem→Ai,set_comm→Ay,map_take→Az,sublist_append_left→AF,lookup_eq_none_iff→BI,getElem?_replicate→BJ,length_eq_one_iff→CD,take_append_drop→D0,set_getElem_self→D1,length_replicate→D2,getElem?_reverse→D3,range_eq_range'→Ek,drop_eq_nil_iff→Em
open _root_.List.cons renaming injEq→nw,inj→vW
open _root_.Nat renaming lt_of_lt_of_le→ab,le_trans→af,lt_irrefl→ak,le_refl→az,le_add_left→aG,lt_succ_self→aS,le_succ→bq,succ_pos→bB,zero_le→bV,le_of_lt→bX,lt_of_le_of_lt→b9,le_of_not_lt→cw,lt_succ_of_lt→cx,le_add_right→cE,succ_le_succ→cY,le_of_eq→dg,add_right_comm→dq,ne_of_gt→dA,ne_of_lt→dM,add_le_add_left→d_,le_of_ble_eq_true→et,add_assoc→eM,le_succ_of_le→eS,lt_of_lt_of_eq→fx,zero_add→gW,le_of_succ_le→iE,ble→jv,sub_add_cancel→jC,add_sub_cancel→jD,lt_add_of_pos_right→jO,add_comm→kh,lt_succ_of_le→kq,lt_of_succ_lt→kr,lt_of_le_of_ne→mJ,add_sub_cancel_left→oA,lt_or_ge→oY,mul_le_mul_left→r0,succ→u4,lt_trichotomy→vd,succ_ne_self→vV,min_le_left→x9,sub_zero→DV,sub_self→DW,lt_of_succ_lt_succ→DZ
open _root_.Option renaming bind_eq_some_iff→cL,isSome_iff_exists→dF,map_eq_some_iff→eW,map_some→jf,bind_some→nv
open _root_.Option.some renaming inj→cG
open _root_.Prod.mk renaming injEq→x7,inj→BG
open _root_.PyProof.Rows renaming IntsAre→fb,listItems_at→fw,Attribute_name→hJ,listUpdate_at→jU,IsTup→lQ,StrsAre→oL,entry_list_sort→qX,seqEpoch_at→sZ,slot_list_sort→s9,tail_any→DO,args_list_sort→DU
open _root_.PyProof.Rows.F renaming entry_set_update_loop→ny
open _root_.PyProof.Rows.SortSt renaming mk'→wY
open _root_.PySem renaming wpAny_bind→aa,Shared→ae,Value→ag,wpAny_pure→ah,Around→aK,wpAny_holding→aV,codeAny_mono→a7,wpAny_setState_of→a8,World→a9,codeAny_builtin→bf,wpAny_newObj_type→bo,mem_of_lookup→bu,wpAny_call_entry→bQ,wpAny_standAt→bS,plainId_quiet→bT,wpAny_isInstance→cj,wpAny_callSpecial?_slot→cD,sizeLine_eq→cH,wpAny_askSetting→cQ,wpAny_of_eq→cU,DictEntry→cV,seg_bind_wrap→dD,strKind→dG,Keyword→dT,dunder→dY,PlainL→eB,wpAny_updateSeq→ff,codeAny_of_tree→fg,wpAny_Call_Name_kw→fL,wpAny_typeOf→f6,wpAny_loadName_local→f7,codeAny_call_builtin→f9,wpAny_rule→gq,wpAny_attempt→gu,NameKind→gQ,wpAny_seqItems→gX,wpAny_Expr_any→gZ,Result→iw,BindsTo→iy,wpAny_setField_rec→iz,wpAny_Constant_str→iA,wpAny_specialOf→iL,wpAny_allTrue_Or_cons→iS,Scope→iU,wpAny_truthy_bool→iV,wpAny_mono→jc,wpAny_letGo→jd,wpAny_tryCatch→je,wpAny_call→kg,list_append_plainL→kn,call_function_tree→ko,wpAny_field→kE,wpAny_Call_method_lateS→kG,wpAny_setField→ll,wpAny_Assign_Subscript→lu,wpAny_execs_cons→lX,Operator→mf,GenState→mh,sub_set_self→mi,wpAny_loadName_free→mP,wpAny_loadName_cell→mQ,isSubtype_stop→nI,slot_dict_getitem→nJ,wpAny_storeSet_of→oN,wpAny_pyIter_slot→oO,wpAny_Call_append→oP,wpAny_handled→oW,slot_gen_next→oX,SetFound→pV,typeIs_int→qP,intKind_is→qQ,Model→qU,wpAny_execs_nil→qW,weight_type_call_type→rZ,wpAny_throw→sY,wpAny_fieldsOf→s8,OsState→tD,wpAny_isTrue_BoolOp→u9,wpAny_newList→vo,wpAny_Name→vS,concat_meets→x3,wpAny_setEpoch_of→x4,wpAny_evalAll_nil→x5,wpAny_Return_some→x6,plainObj_wpAny_Assign_Attribute→yg,IsEnum→z4,wpAny_items_cons→z5,wpAny_forIn_list→z6,noFill_tuple_add→z7,entryFor_of_fast→z8,Entry→Au,wpAny_noted→Av,wpAny_mkInt→Aw,wpAny_items_nil→BF,call_meets→DP,wpAny_runValue→DQ,wpAny_newTuple→DR,evalPairs_cons→DS,entryFor_alias→DT,wpAny_newFunctionEnv_cells→DX,wpAny_Subscript_list_slice→DY
open _root_.PySem.Around renaming under_plain→ra
open _root_.PySem.AutoSeq1 renaming wpAny_loadPart'→iY
open _root_.PySem.Builtin renaming bitAnd→vY
open _root_.PySem.Builtin.Builtins renaming bindParams→dE
open _root_.PySem.Builtin.Frozenset renaming updateFrom→o8,newClass→pY
open _root_.PySem.Builtin.Generator renaming genWake→qd
open _root_.PySem.Builtin.List renaming listLengthHint→gw,listSameRef→iF,listItems→ja,listExtendWith→r_
open _root_.PySem.Builtin.Range renaming rangeSize→fG,rangeFitsLong→rd,small→w5
open _root_.PySem.Builtin.SmallTypes renaming ownedTupleHandOut→mn,ownedTupleIsFree→mN,nextOf→pX
open _root_.PySem.Calls renaming call_function_entry→yl
open _root_.PySem.Code renaming quiet_builtin→sM
open _root_.PySem.End renaming susp→qO
open _root_.PySem.F renaming called_set→bJ,plain_extend_loop→fy,plain_min_loop→gv,entry_extend_loop→iM,slot_set_iter→j7,args_tuple_add_2→mL,plainAttrs_list→m_,entry_type_call→na,entry_tuple_add→nc,slot_tuple_add→nK,entry_min_loop→nL,plain_set_new→oz,slot_list_lt→o7,slot_enumerate_next→vC,slot_list_count→yh,plain_list_iadd→yi,entry_list_iadd→yj,plain_sum_loop→Ab,plain_any_loop→Ac,plain_all_loop→Ad,entry_sum_loop→Ae,entry_set_init→Af,entry_any_loop→Ag,entry_all_loop→Ah,slot_list_pop→AB,slot_int_rmul→AD,entry_set_new→AE,slot_set_add→BH,plain_min→Ei,entry_min→Ej
open _root_.PySem.Heap renaming get?_push_size→av,get?_push_of_some→aA,lt_size→aI,size_push→aW,get?_update_self→b7,SameBut→c9,ExtBut→p_
open _root_.PySem.Heap.DictOf renaming new→CE
open _root_.PySem.Heap.MapOf renaming typeIs→BK
open _root_.PySem.Heap.SameBut renaming update→bA
open _root_.PySem.MeetsSeq3 renaming plain_eq_loop→w2,entry_eq_loop→w3
open _root_.PySem.NameKind renaming free→fJ,cell→kl
open _root_.PySem.Obj renaming mapSeq→aO,putSet→jB,mapFields→sI,isFreed_of_seq→ta,data_mapSeq→x8,cls_mapSeq→z9
open _root_.PySem.PyData renaming strOk→jM,keyHash→jN
open _root_.PySem.Sem renaming bind_eq_wrap'→fR,onRaise_eq_wrap→gc,wrap_wrap→iq
open _root_.PySem.SetTable renaming insertAt→bt,below→b8,Probe→ir,grown→lR,sizeAbove→lT,fill→ml,fits→pW,mk→Ax
open _root_.PySem.SetTable.probe renaming go→lx
open _root_.PySem.Shared renaming TypeIs→g_
open _root_.PySem.Str renaming ofString→d8
open _root_.PySem.Value renaming none→di,ref→dQ,type→gG,isStrOf→m8,int→nH,isInt→vp
open _root_.PySem.W renaming looks_findIn→jr,boot_heap→kB,CmpBack→lr,plainGet_of→oM,kas_sort→pU,Looks→As
open _root_.PySem.W.Looks renaming of_pure→z_
open _root_.Rat renaming intCast_mul→bH,intCast_le_intCast→bY,le_trans→dK,le_refl→ek,mul_le_mul_of_nonneg_right→eC,intCast_add→fQ,intCast_nonneg→h_,mul_le_mul_of_nonneg_left→lO,le_of_mul_le_mul_right→mK,intCast_eq_zero_iff→oy,intCast_pos→pk,mul_nonneg→qS,div_mul_cancel→s_,divInt_eq_div→u_
open _root_.String renaming splitOnAux→sJ
theorem od{p:Prop}[Decidable p](h:decide p=true):p:=of_decide_eq_true h
section
def MF(k:Lean.SyntaxNodeKind)(s:String):Lean.Syntax:=
 .node .none ``Lean.Parser.Tactic.tacticSeq #[.node .none ``Lean.Parser.Tactic.tacticSeq1Indented #[.node .none `null #[.node .none k #[.atom .none s]]]]
def rf:Lean.Syntax:=MF ``Lean.Parser.Tactic.tacticRfl "rfl"
section
variable {α:Type _}{l:List α}{M:List α→Prop}
@[elab_as_elim] theorem y8 (h:l.length=0) (k:M []):M l:=(gh.mp h).symm▸k
@[elab_as_elim] theorem y7 {n:Nat} (h:l.length=n+1) (k:∀a t,t.length=n→M (a::t)):M l:=by cases l with|nil=>cases h|cons a t=>exact k a t (Nat.succ.inj h)
@[elab_as_elim] theorem uk (h:l.length=1) (k:∀a,M [a]):M l:=y7 h λ a z h=>y8 h (k a)
@[elab_as_elim] theorem ui (h:l.length=2) (k:∀a b,M [a,b]):M l:=y7 h λ a z h=>uk h (k a)
@[elab_as_elim] theorem Jn (h:l.length=3) (k:∀a b c,M [a,b,c]):M l:=y7 h λ a z h=>ui h (k a)
@[elab_as_elim] theorem Nm (h:l.length=4) (k:∀a b c d,M [a,b,c,d]):M l:=y7 h λ a z h=>Jn h (k a)
@[elab_as_elim] theorem Nl (h:l.length=5) (k:∀a b c d e,M [a,b,c,d,e]):M l:=y7 h λ a z h=>Nm h (k a)
end
@[elab_as_elim] theorem L5 {M:Nat→Prop} (k:Nat) (a:M 0) (b:M 1) (c:M 2) (d:M 3) (e:∀k,M (k+4)):M k:=by
 cases k with|zero=>exact a|succ k=>cases k with|zero=>exact b|succ k=>cases k with|zero=>exact c|succ k=>cases k with|zero=>exact d|succ k=>exact e k
@[elab_as_elim] theorem Rv {M:Nat→Prop} {k:Nat} (h:1≤k) (h':k≤3) (a:M 1) (b:M 2) (c:M 3):M k:=
 L5 (M:= λ k=>1≤k→k≤3→M k) k (λ h=>absurd h (by decide)) (λ z z=>a) (λ z z=>b) (λ z z=>c) (λ k z h=>absurd h (Nat.not_le_of_lt (aG 4 k))) h h'
@[elab_as_elim] theorem jw {α:Type _} {β:Type _} {f:α→β} {l:List α} {d:β} {M:β→Prop} (h:d∈l.map f) (k:∀x,x∈l→M (f x)):M d:=(aL.mp h).elim λ x h=>h.2▸k x h.1
theorem Jh{α β:Type}{a:α}{o:Option β}{g:β→α}{p:β}(k:o.elim True λ p=>a=g p)(h:o=some p):a=g p:=by subst h;exact k
theorem vQ{α:Type}{o:Option α}{f:α→Bool}(h:o.any f=true):∃a,o=some a∧f a=true:=by
 cases o with
 |none=>exact bE h
 |some a=>exact⟨a,rfl,h⟩
theorem ga{l:List Bool}(h:l.all id=true){b:Bool}(i:Nat)(e:l[i]? =some b):b=true:=bD.mp h b (bw e)
theorem bN{b:Bool}(h:(!b)=true):b=false:=by cases b<;>first|rfl|exact bE h
theorem nn{α:Type _}{P:Prop}{a:α}(h:a∈([]:List α)):P:=absurd h vt
theorem mc{α:Type _}{a b:α}{l:List α}(h:a∈b::l):b=a∨a∈l:=(aD.mp h).imp (λ e=>e.symm) λ e=>e
theorem m1{α:Type _}{a b:α}(h:a∈[b]):b=a:=(aj.mp h).symm
theorem xa{A0:Prop}{A1:Prop}{G:Prop}(h:A0∧A1)(k:A0→A1→G):G:=k h.1 h.2
theorem xe{fm:Sort _}{A0:fm→Prop}{G:Prop}(h:∃x0,A0 x0)(k:∀x0,A0 x0→G):G:=h.elim k
theorem jH{A0:Prop}{A1:Prop}{A2:Prop}{G:Prop}(h:A0∧A1∧A2)(k:A0→A1→A2→G):G:=xa h.2 (k h.1)
theorem T1{fm:Sort _}{A0:Prop}{A1:fm→Prop}{G:Prop}(h:A0∧∃x0,A1 x0)(k:A0→∀x0,A1 x0→G):G:=xe h.2 (k h.1)
theorem c0{fm:Sort _}{A0:fm→Prop}{A1:fm→Prop}{G:Prop}(h:∃x0,A0 x0∧A1 x0)(k:∀x0,A0 x0→A1 x0→G):G:=h.elim λ x h=>xa h (k x)
theorem iB{fm:Sort _}{kW:Sort _}{A0:fm→kW→Prop}{G:Prop}(h:∃x0,∃x1,A0 x0 x1)(k:∀x0,∀x1,A0 x0 x1→G):G:=h.elim λ x h=>xe h (k x)
theorem cg{A0:Prop}{A1:Prop}{A2:Prop}{A3:Prop}{G:Prop}(h:A0∧A1∧A2∧A3)(k:A0→A1→A2→A3→G):G:=jH h.2 (k h.1)
theorem Hi{fm:Sort _}{A0:Prop}{A1:Prop}{A2:fm→Prop}{G:Prop}(h:A0∧A1∧∃x0,A2 x0)(k:A0→A1→∀x0,A2 x0→G):G:=T1 h.2 (k h.1)
theorem mq{fm:Sort _}{A0:Prop}{A1:fm→Prop}{A2:fm→Prop}{G:Prop}(h:A0∧∃x0,A1 x0∧A2 x0)(k:A0→∀x0,A1 x0→A2 x0→G):G:=c0 h.2 (k h.1)
theorem En{fm:Sort _}{kW:Sort _}{A0:Prop}{A1:fm→kW→Prop}{G:Prop}(h:A0∧∃x0,∃x1,A1 x0 x1)(k:A0→∀x0,∀x1,A1 x0 x1→G):G:=iB h.2 (k h.1)
theorem cI{fm:Sort _}{A0:fm→Prop}{A1:fm→Prop}{A2:fm→Prop}{G:Prop}(h:∃x0,A0 x0∧A1 x0∧A2 x0)(k:∀x0,A0 x0→A1 x0→A2 x0→G):G:=h.elim λ x h=>jH h (k x)
theorem Mq{fm:Sort _}{kW:Sort _}{A0:fm→Prop}{A1:fm→kW→Prop}{G:Prop}(h:∃x0,A0 x0∧∃x1,A1 x0 x1)(k:∀x0,A0 x0→∀x1,A1 x0 x1→G):G:=h.elim λ x h=>T1 h (k x)
theorem ew{fm:Sort _}{kW:Sort _}{A0:fm→kW→Prop}{A1:fm→kW→Prop}{G:Prop}(h:∃x0,∃x1,A0 x0 x1∧A1 x0 x1)(k:∀x0,∀x1,A0 x0 x1→A1 x0 x1→G):G:=h.elim λ x h=>c0 h (k x)
theorem iu{fm:Sort _}{kW:Sort _}{CF:Sort _}{A0:fm→kW→CF→Prop}{G:Prop}(h:∃x0,∃x1,∃x2,A0 x0 x1 x2)(k:∀x0,∀x1,∀x2,A0 x0 x1 x2→G):G:=h.elim λ x h=>iB h (k x)
theorem nP{fm:Sort _}{A0:Prop}{A1:Prop}{A2:fm→Prop}{A3:fm→Prop}{G:Prop}(h:A0∧A1∧∃x0,A2 x0∧A3 x0)(k:A0→A1→∀x0,A2 x0→A3 x0→G):G:=mq h.2 (k h.1)
theorem Ms{fm:Sort _}{A0:Prop}{A1:fm→Prop}{A2:fm→Prop}{A3:fm→Prop}{G:Prop}(h:A0∧∃x0,A1 x0∧A2 x0∧A3 x0)(k:A0→∀x0,A1 x0→A2 x0→A3 x0→G):G:=cI h.2 (k h.1)
theorem Mr{fm:Sort _}{kW:Sort _}{A0:Prop}{A1:fm→kW→Prop}{A2:fm→kW→Prop}{G:Prop}(h:A0∧∃x0,∃x1,A1 x0 x1∧A2 x0 x1)(k:A0→∀x0,∀x1,A1 x0 x1→A2 x0 x1→G):G:=ew h.2 (k h.1)
theorem eE{fm:Sort _}{A0:fm→Prop}{A1:fm→Prop}{A2:fm→Prop}{A3:fm→Prop}{G:Prop}(h:∃x0,A0 x0∧A1 x0∧A2 x0∧A3 x0)(k:∀x0,A0 x0→A1 x0→A2 x0→A3 x0→G):G:=h.elim λ x h=>cg h (k x)
theorem nO{fm:Sort _}{kW:Sort _}{A0:fm→Prop}{A1:fm→Prop}{A2:fm→kW→Prop}{G:Prop}(h:∃x0,A0 x0∧A1 x0∧∃x1,A2 x0 x1)(k:∀x0,A0 x0→A1 x0→∀x1,A2 x0 x1→G):G:=h.elim λ x h=>Hi h (k x)
theorem eX{fm:Sort _}{kW:Sort _}{A0:fm→Prop}{A1:fm→kW→Prop}{A2:fm→kW→Prop}{G:Prop}(h:∃x0,A0 x0∧∃x1,A1 x0 x1∧A2 x0 x1)(k:∀x0,A0 x0→∀x1,A1 x0 x1→A2 x0 x1→G):G:=h.elim λ x h=>mq h (k x)
theorem dj{fm:Sort _}{kW:Sort _}{A0:fm→kW→Prop}{A1:fm→kW→Prop}{A2:fm→kW→Prop}{G:Prop}(h:∃x0,∃x1,A0 x0 x1∧A1 x0 x1∧A2 x0 x1)(k:∀x0,∀x1,A0 x0 x1→A1 x0 x1→A2 x0 x1→G):G:=h.elim λ x h=>cI h (k x)
theorem lB{fm:Sort _}{kW:Sort _}{CF:Sort _}{A0:fm→kW→CF→Prop}{A1:fm→kW→CF→Prop}{G:Prop}(h:∃x0,∃x1,∃x2,A0 x0 x1 x2∧A1 x0 x1 x2)(k:∀x0,∀x1,∀x2,A0 x0 x1 x2→A1 x0 x1 x2→G):G:=h.elim λ x h=>ew h (k x)
theorem rg{fm:Sort _}{A0:Prop}{A1:Prop}{A2:Prop}{A3:fm→Prop}{A4:fm→Prop}{G:Prop}(h:A0∧A1∧A2∧∃x0,A3 x0∧A4 x0)(k:A0→A1→A2→∀x0,A3 x0→A4 x0→G):G:=nP h.2 (k h.1)
theorem tG{fm:Sort _}{A0:Prop}{A1:Prop}{A2:fm→Prop}{A3:fm→Prop}{A4:fm→Prop}{G:Prop}(h:A0∧A1∧∃x0,A2 x0∧A3 x0∧A4 x0)(k:A0→A1→∀x0,A2 x0→A3 x0→A4 x0→G):G:=Ms h.2 (k h.1)
theorem J0{fm:Sort _}{kW:Sort _}{A0:Prop}{A1:Prop}{A2:fm→kW→Prop}{A3:fm→kW→Prop}{G:Prop}(h:A0∧A1∧∃x0,∃x1,A2 x0 x1∧A3 x0 x1)(k:A0→A1→∀x0,∀x1,A2 x0 x1→A3 x0 x1→G):G:=Mr h.2 (k h.1)
theorem bO{fm:Sort _}{kW:Sort _}{A0:fm→kW→Prop}{A1:fm→kW→Prop}{A2:fm→kW→Prop}{A3:fm→kW→Prop}{G:Prop}(h:∃x0,∃x1,A0 x0 x1∧A1 x0 x1∧A2 x0 x1∧A3 x0 x1)(k:∀x0,∀x1,A0 x0 x1→A1 x0 x1→A2 x0 x1→A3 x0 x1→G):G:=h.elim λ x h=>eE h (k x)
theorem c_{fm:Sort _}{kW:Sort _}{CF:Sort _}{A0:fm→kW→CF→Prop}{A1:fm→kW→CF→Prop}{A2:fm→kW→CF→Prop}{G:Prop}(h:∃x0,∃x1,∃x2,A0 x0 x1 x2∧A1 x0 x1 x2∧A2 x0 x1 x2)(k:∀x0,∀x1,∀x2,A0 x0 x1 x2→A1 x0 x1 x2→A2 x0 x1 x2→G):G:=h.elim λ x h=>dj h (k x)
theorem k7{fm:Sort _}{kW:Sort _}{A0:Prop}{A1:Prop}{A2:Prop}{A3:fm→kW→Prop}{A4:fm→kW→Prop}{G:Prop}(h:A0∧A1∧A2∧∃x0,∃x1,A3 x0 x1∧A4 x0 x1)(k:A0→A1→A2→∀x0,∀x1,A3 x0 x1→A4 x0 x1→G):G:=J0 h.2 (k h.1)
theorem lY{fm:Sort _}{kW:Sort _}{A0:Prop}{A1:fm→kW→Prop}{A2:fm→kW→Prop}{A3:fm→kW→Prop}{A4:fm→kW→Prop}{G:Prop}(h:A0∧∃x0,∃x1,A1 x0 x1∧A2 x0 x1∧A3 x0 x1∧A4 x0 x1)(k:A0→∀x0,∀x1,A1 x0 x1→A2 x0 x1→A3 x0 x1→A4 x0 x1→G):G:=bO h.2 (k h.1)
theorem cJ{fm:Sort _}{kW:Sort _}{CF:Sort _}{A0:fm→kW→CF→Prop}{A1:fm→kW→CF→Prop}{A2:fm→kW→CF→Prop}{A3:fm→kW→CF→Prop}{G:Prop}(h:∃x0,∃x1,∃x2,A0 x0 x1 x2∧A1 x0 x1 x2∧A2 x0 x1 x2∧A3 x0 x1 x2)(k:∀x0,∀x1,∀x2,A0 x0 x1 x2→A1 x0 x1 x2→A2 x0 x1 x2→A3 x0 x1 x2→G):G:=h.elim λ x h=>bO h (k x)
section
variable {M:qU}{A:aK}{s:ae}{X:ag→ae→Prop}{α β:Type}
theorem wm{t:Sem α}{P Q:α→ae→Prop}(h:wpAny M A t P (λ z z=>False) s)(k:∀v s',P v s'→Q v s'):wpAny M A t Q X s:=jc h k λ z z f=>f.elim
theorem wk{t:Sem α}{P Q:α→ae→Prop}(h:wpAny M A t P X s)(k:∀v s',P v s'→Q v s'):wpAny M A t Q X s:=jc h k λ z z f=>f
theorem wb{t:Sem α}{f:α→Sem β}{P:α→ae→Prop}{Q:β→ae→Prop}(h:wpAny M A t P (λ z z=>False) s)(k:∀v s',P v s'→wpAny M A (f v) Q X s'):wpAny M A (t>>=f) Q X s:=aa (wm h k)
theorem LX{t:Sem α}{f:α→Sem β}{P:α→ae→Prop}{Q:β→ae→Prop}(h:wpAny M A t P X s)(k:∀v s',P v s'→wpAny M A (f v) Q X s'):wpAny M A (t>>=f) Q X s:=aa (wk h k)
theorem v5{v:α}{f:α→Sem β}{Q:β→ae→Prop}(h:wpAny M A (f v) Q X s):wpAny M A (pure v>>=f) Q X s:=aa (ah h)
theorem wF{a b:Sem α}{Q:α→ae→Prop}(h:wpAny M A b Q X s):wpAny M A (if false=true then a else b) Q X s:=h
theorem wT{a b:Sem α}{Q:α→ae→Prop}(h:wpAny M A a Q X s):wpAny M A (if true=true then a else b) Q X s:=h
theorem wI{p:Prop}[Decidable p]{a b:Sem α}{Q:α→ae→Prop}(h:p→wpAny M A a Q X s)(h':¬p→wpAny M A b Q X s):wpAny M A (if p then a else b) Q X s:=by by_cases hp:p<;>first|(rw[if_pos hp];exact h hp)|(rw[if_neg hp];exact h' hp)
theorem wN{p:Prop}[Decidable p]{a b:Sem α}{Q:α→ae→Prop}(hp:¬p)(h:wpAny M A b Q X s):wpAny M A (if p then a else b) Q X s:=by rw[if_neg hp];exact h
theorem wP{p:Prop}[Decidable p]{a b:Sem α}{Q:α→ae→Prop}(hp:p)(h:wpAny M A a Q X s):wpAny M A (if p then a else b) Q X s:=by rw[if_pos hp];exact h
end
structure Vw where
 e:Expr
 b:List Stmt
 o:List Stmt
 a:Arguments
 sc:iU
set_option backward.match.sparseCases false in
noncomputable def vw:Stmt→Vw
 |.For t _ b _ _=>⟨t,b,[],⟨[],[],none,[],[],none,[]⟩,⟨.function,[],false,false,[]⟩⟩
 |.While t b _ _=>⟨t,b,[],⟨[],[],none,[],[],none,[]⟩,⟨.function,[],false,false,[]⟩⟩
 |.If t b o _=>⟨t,o,b,⟨[],[],none,[],[],none,[]⟩,⟨.function,[],false,false,[]⟩⟩
 |.FunctionDef _ a b _ _ _ sc _ _ _=>⟨.Name "x" default,b,[],a,sc⟩
 |.ClassDef _ _ _ b _ _ _ _ _ _ _=>⟨.Name "x" default,b,[],⟨[],[],none,[],[],none,[]⟩,⟨.function,[],false,false,[]⟩⟩
 |_=>⟨.Name "x" default,[],[],⟨[],[],none,[],[],none,[]⟩,⟨.function,[],false,false,[]⟩⟩
noncomputable def oR(l:List Stmt)(i:Nat):Stmt:=l.getD i (.Pass ⟨0,0,0,0⟩)
noncomputable def pJ(l:List Stmt)(i:Nat):Expr:=(vw (oR l i)).e
noncomputable def nF(l:List Stmt)(i:Nat):List Stmt:=(vw (oR l i)).b
section
variable {a b c n m:Nat}
theorem rF(h:a≤n)(d:jv n m=true):a≤m:=af h (et d)
theorem LZ(h:a≤n)(d:jv (n+1) m=true):a<m:=b9 h (et d)
theorem vi(e:a=b)(h:b≤n)(d:jv n m=true):a≤m:=rF (e▸h) d
theorem P9(e:a=b)(h:b≤n)(d:jv (n+1) m=true):a<m:=LZ (e▸h) d
theorem Rl(e:a=b)(e':b=c)(h:c≤n)(d:jv n m=true):a≤m:=vi (e.trans e') h d
theorem G3(h:a≤b)(h':b≤n)(d:jv n m=true):a≤m:=rF (af h h') d
theorem GV(h:a+b≤n)(d:jv n m=true):a≤m:=rF (af (cE a b) h) d
theorem JQ(h:a+(b+1)≤n)(d:jv n m=true):a+1+b≤m:=rF (dq a 1 b▸h) d
theorem GU(h:a+(b+1)<n):a+1+b<n:=dq a 1 b▸h
theorem By(h:a+(b+1)=c):a+1+b=c:=(dq a 1 b).trans h
theorem LN(h:c=a+(b+1)):c=a+1+b:=(By h.symm).symm
theorem JP(h:a+(b+1)=c):a<c:=h▸jO (bB b)
theorem GS(h:c=a+(b+1)):a<c:=JP h.symm
theorem IV(h:a+(b+1)≤c):a<c:=ab (jO (bB b)) h
theorem TN(e:a=b)(h:b+(c+1)≤n)(d:jv n m=true):a+1≤m+1:=cY (e▸GV h d)
theorem T4(h:a≤n)(h':b≤m)(d:jv (n+m) c=true):a+b≤c:=af (Nat.add_le_add h h') (et d)
theorem D9(e:b=c)(h:a<c):a<b:=e▸h
theorem Ua{i a b c:Nat}(e:a=c)(e':b=c)(h:i<c):i<min a b:=by rw[e,e',Nat.min_self];exact h
theorem Rj{i a c:Nat}(e:a=c)(h:i<c):i<min a c:=Ua e rfl h
theorem KD{i a c:Nat}(e:a=c)(h:i<c):i<min c a:=Ua rfl e h
theorem Vx{P:Prop}(h:a<b)(h':b<a):P:=absurd (Nat.lt_trans h h') (ak a)
theorem TY{P:Prop}(h:a<b)(h':b≤a):P:=absurd (ab h h') (ak a)
theorem TZ{P:Prop}(h:a<b)(e:a=b):P:=absurd e (dM h)
theorem TX{P:Prop}(h:0<a)(e:a=0):P:=absurd e (dA h)
end
section
variable {a b n m:Int}{k l:Nat}
theorem L6(h:a≤n)(d:decide (n≤m)=true):a≤m:=d9 h (of_decide_eq_true d)
theorem RG(h:a≤n)(d:decide (n<m)=true):a<m:=b_ h (of_decide_eq_true d)
theorem Wb(h:n≤a)(d:decide (m≤n)=true):m≤a:=d9 (of_decide_eq_true d) h
theorem Uk(h:n≤a)(d:decide (m<n)=true):m<a:=jE (of_decide_eq_true d) h
theorem RH(h:k≤l)(d:decide ((l:Int)≤m)=true):(k:Int)≤m:=L6 (ki.mpr h) d
theorem Wc(h:k≤l)(d:decide ((l:Int)<m)=true):(k:Int)<m:=RG (ki.mpr h) d
end
theorem Ka{k i:Nat}(h:i<k):k-i=k-(i+1)+1:=by rw[Nat.sub_succ];exact(Nat.succ_pred_eq_of_pos (Nat.sub_pos_of_lt h)).symm
theorem PT(i d:Nat):i+1+d-i=d+1:=by rw[eM,oA,kh]
theorem Tj{i j:Nat}(h:i<j):∃d,j=i+1+d:=⟨j-(i+1),(Nat.add_sub_cancel' h).symm⟩
theorem Vn{u n L d e:Nat}(hn:1≤n)(hd:d≤8)(h:u+20*n<L):u+min d e<L:=
 b9 (d_ (af (x9 d e) (af hd (af (by decide:8≤20*1) (r0 20 hn)))) u) h
theorem Pj{u n L d e:Nat}(hn:1≤n)(hd:d≤8)(h:u+20*n<L):u+1+min e d<L:=
 b9 (eM u 1 _▸d_ (af (d_ (af (Nat.min_le_right e d) hd) 1) (af (by decide:1+8≤20*1) (r0 20 hn))) u) h
theorem P8{z:Int}{n:Nat}(h0:0≤z)(h:z<n):z.natAbs<n:=by
 obtain⟨k,rfl⟩:=dh h0;exact cA.mp h
theorem VM{i j t:Nat}(h1:t≤i)(h2:t≤j)(e:i-t=j-t):i=j:=by rw[← jC h1,e,jC h2]
theorem Nh(a b:Nat):a≤a+(b+1) -1-b:=dg (by rw[← eM,jD,jD])
theorem QL(a b:Nat):a+(b+1) -1-b-a=0:=by rw[← eM,jD,jD,DW]
section
variable {i:Int}{n:Nat}
theorem VH(h:0≤i):(i+1).toNat=i.toNat+1:=by obtain⟨k,rfl⟩:=dh h;rfl
theorem VG(i:Int):(i-1+1).toNat=i.toNat:=by rw[Int.sub_add_cancel]
theorem T3(h0:0≤i)(h:i<n):i.toNat<n:=by obtain⟨k,rfl⟩:=dh h0;exact cA.mp h
theorem V3(h0:0≤i)(h:i.toNat<n):i<n:=by obtain⟨k,rfl⟩:=dh h0;exact cA.mpr h
theorem VY(h0:0≤i)(h:i<3):i=0∨i=1∨i=2:=by
 obtain⟨k,rfl⟩:=dh h0;exact(by decide:∀k<3,((k:Nat):Int)=0∨((k:Nat):Int)=1∨((k:Nat):Int)=2) k (cA.mp h)
end
theorem uj{u n L j:Nat}(hj:j≤20)(h:u+20*(n+1)<L):u+j+20*n<L:=b9 (by rw[eM,Nat.mul_succ,kh (20*n)];exact d_ (Nat.add_le_add_right hj _) u) h
theorem VZ(n:Nat):(-1+(n:Int)).toNat=n-1:=by rw[oZ];exact Int.toNat_sub n 1
theorem TC{k:Nat}(h:0<k):(k:Int) -1=((k-1:Nat):Int):=(Int.ofNat_sub h).symm
theorem Rk(j n:Nat):((min j n:Nat):Int)=if(n:Int)<(j:Int)then(n:Int)else(j:Int):=by
 by_cases h:(n:Int)<(j:Int)
 ·rw[if_pos h,Nat.min_eq_right (bX (cA.mp h))]
 ·rw[if_neg h,Nat.min_eq_left (ki.mp (s5.mp h))]
end
structure Up(s s':ae):Prop where
 heap:s.heap.objs.size≤s'.heap.objs.size
 gens:s.gens.size≤s'.gens.size
theorem Up.refl(s:ae):Up s s:=⟨az _,az _⟩
theorem Up.trans{s s' k_:ae}(x:Up s s')(y:Up s' k_):Up s k_:=⟨af x.heap y.heap,af x.gens y.gens⟩
theorem Up.update{s:ae}{a f}:Up s {s with heap:=s.heap.update a f}:=⟨dg (bA ..).1.symm,az _⟩
theorem Up.alloc{s:ae}{o}:Up s {s with heap:=s.heap.push o}:=⟨by rw[aW];exact bq _,az _⟩
theorem Up.newGen{s:ae}{x}:Up s {s with gens:=s.gens.push x}:=⟨az _,by rw[hY];exact bq _⟩
theorem Up.setGen{s:ae}{g x}:Up s (s.setGen g x):=⟨az _,by simp[Shared.setGen]⟩
theorem BY{M:qU}{Γ:Ctx}{p:Pos}{t:Sem Fin}{fs:List Frame}{s s':ae}{e:End}(h:Runs M Γ p t fs s e s'):Up s s':=by
 induction h with
 |update _ _ ih=>exact Up.update.trans ih
 |alloc _ ih=>exact Up.alloc.trans ih
 |newGen _ ih=>exact Up.newGen.trans ih
 |call _ _ mC mB=>exact mC.trans mB
 |resumeFresh _ _ _ _ mC mB=>exact Up.setGen.trans (mC.trans (Up.setGen.trans mB))
 |resumeSuspended _ _ _ _ mC mB=>exact Up.setGen.trans (mC.trans (Up.setGen.trans mB))
 |resumeThrowFresh _ _ ih=>exact Up.setGen.trans ih
 |segRet _ _ mC mB=>exact mC.trans mB
 |segGen _ _ mC mB=>exact mC.trans (Up.setGen.trans mB)
 |segSuspGen _ _ _ _ mC mB=>exact mC.trans (Up.setGen.trans mB)
 |fresh _ ih=>exact⟨ih.heap,ih.gens⟩
 |choose _ _ ih=>exact⟨ih.heap,ih.gens⟩
 |os _ ih=>exact⟨ih.heap,ih.gens⟩
 |_=>first|exact Up.refl _|assumption
theorem VR{A B U:Prop}{C:ag→Prop}{r:Resume}(h:match r with|.send .none=>A|.send _=>B|.throw x=>C x)(ha:A→U)(hb:B→U)(hc:∀x,C x→U):U:=by
 cases r with
 |send v=>cases v<;>first|exact ha h|exact hb h
 |throw x=>exact hc x h
theorem Eo{M:qU}{Γ:Ctx}{p:Pos}{g:Nat}{r:Resume}{s s':ae}{res:GenResult}(h:Wakes M Γ p g r s res s'):Up s s':=by
 have go:∀{Γ p t fs},(∃rO au,Runs M Γ p t fs (s.setGen g .running) rO au∧rO.quiet=true∧res=rO.result∧s'=au.setGen g rO.genState)→Up s s':= λ h=>
  bO h λ rO au hr z z e=>e▸Up.setGen.trans ((BY hr).trans Up.setGen)
 have h1:∀{q:Prop},(q∧s'=s)→Up s s':= λ h=>h.2▸Up.refl _;delta Wakes at h;generalize s.gens[g]? =o at h;cases o with
 |none=>exact h.elim
 |some st=>cases st with
  |fresh=>exact VR h go h1 λ x h=>h.2▸Up.setGen
  |suspended=>exact go h
  |running=>exact h1 h
  |finished=>exact h1 h
theorem Mt{α:Type}(M:qU)(Γ:Ctx)(s₀:ae)(t:Sem α):∀(Q:α→Pos→ae→Prop) (E:ag→Pos→ae→Prop) (p:Pos) (s:ae),Up s₀ s→Sem.wp M Γ t Q E p s→
  Sem.wp M Γ t (λ a p' s'=>Up s₀ s'∧Q a p' s') (λ e p' s'=>Up s₀ s'∧E e p' s') p s:=by
 induction t with
 |pure a=>intro Q E p s hn h;exact⟨hn,h⟩
 |raise e=>intro Q E p s hn h;exact⟨hn,h⟩
 |unsupported _=>intro Q E p s z h;exact h
 |finish _=>intro Q E p s z h;exact h
 |rule _ k ih=>intro Q E p s hn h;exact ih () Q E p s hn h
 |«at» p' k ih=>intro Q E p s hn h;exact ih () Q E p' s hn h
 |load a _ k ih=>intro Q E p s hn h;refine c0 h ?_;clear h;intro o ho h;exact⟨o,ho,ih o Q E p s hn h⟩
 |update a _ f k ih=>intro Q E p s hn h;exact⟨h.1,ih () Q E p _ (hn.trans Up.update) h.2⟩
 |loadIfAlive a k ih=>intro Q E p s hn h;exact ih _ Q E p s hn h
 |point _ k ih=>intro Q E p s hn h;exact ih () Q E p s hn h
 |register _ _=>intro Q E p s z h;exact h
 |alloc o k ih=>intro Q E p s hn h;exact ih _ Q E p _ (hn.trans Up.alloc) h
 |fresh k ih=>intro Q E p s hn h;exact ih _ Q E p _ ⟨hn.heap,hn.gens⟩ h
 |ask k ih=>intro Q E p s hn h;exact ih _ Q E p s hn h
 |choose src m k ih=>intro Q E p s hn h;exact⟨h.1,ih _ Q E p _ ⟨hn.heap,hn.gens⟩ h.2⟩
 |os q _ k ih=>intro Q E p s hn h;exact ih _ Q E p _ ⟨hn.heap,hn.gens⟩ h
 |call c hd _ _ k ih=>intro Q E p s hn h;refine ew h ?_;clear h;intro r s' hr h;exact⟨r,s',hr,ih r Q E p s' (hn.trans (BY hr)) h⟩
 |handled own k ih=>intro Q E p s hn h;exact ih _ Q E p s hn h
 |genState g k ih=>intro Q E p s hn h;refine c0 h ?_;clear h;intro st hs h;exact⟨st,hs,ih _ Q E p s hn h⟩
 |newGen c k ih=>intro Q E p s hn h;exact ih _ Q E p _ (hn.trans Up.newGen) h
 |resume g r _ k ih=>intro Q E p s hn h;refine ew h ?_;clear h;intro res s' hw h;exact⟨res,s',hw,ih res Q E p s' (hn.trans (Eo hw)) h⟩
 |yield _ _ _ _=>intro Q E p s z h;exact h
 |stack k ih=>intro Q E p s hn h;exact ih _ Q E p s hn h
 |fork _ _=>intro Q E p s z h;exact h
 |thread k ih=>intro Q E p s hn h;exact ih _ Q E p s hn h
 |await _ _ _ _ _=>intro Q E p s z h;exact h
section
variable {α:Type}{M:qU}{A:aK}{s:ae}
theorem dc{t:Sem α}{Q:α→ae→Prop}{E:ag→ae→Prop}(h:wpAny M A t (λ a s'=>Up s s'→Q a s') (λ e s'=>Up s s'→E e s') s):wpAny M A t Q E s:=
 λ Γ p Ao=>Sem.wp_mono M Γ _ (λ z z z x=>x.2 x.1) (λ z z z x=>x.2 x.1) p s (Mt M Γ s t _ _ p s (.refl s) (h Γ p Ao))
end
structure TS where
 ids:List Nat
 place:List Nat
 mask:Nat
 moves:Nat
 deriving DecidableEq
noncomputable def j9:Nat→List (List Nat)
 |1=>[[0],[1],[2],[3]]
 |2=>[[0,1],[0,2],[0,3],[1,2],[1,3],[2,3]]
 |3=>[[0,1,2],[0,1,3],[0,2,3],[1,2,3]]
 |_=>[]
noncomputable def gy(c:List Nat):Int:=reduceHash (Builtin.Tuple.tupleHashOf ((c.map qV).map hashInt))
noncomputable def nR:Nat→List Int
 |1=>[-8753497827991233192,-6644214454873602895,6909455589863252355,-5029647727744300836]
 |2=>[-1950498447580522560,7204814214171964562,-4734289103435588629,-3550055125485641917,-1440771752368011620,8409376899596376432]
 |3=>[2187946392326065592,-2705127636646630774,8477238830141211852,529344067295497451]
 |_=>[]
theorem xb:(j9 1).map gy=nR 1∧(j9 2).map gy=nR 2∧(j9 3).map gy=nR 3:=by decide +kernel
noncomputable def TS.tab(b:Bool)(st:TS):SetTable:={mask:=st.mask,place:=st.place.toArray,dummies:= #[],finger:=0,led:=b,moves:=st.moves,plain:=true}
noncomputable def zl(hs:List Int)(ids:List Nat)(i:Nat):Int:=(ids[i]?.map λ x=>hs.getD x 0).getD 0
noncomputable def TS.add(hs:List Int)(st:TS)(x:Nat):Option TS:=
 match (st.tab true).probe (zl hs st.ids) (hs.getD x 0) ((st.tab true).probeStart (hs.getD x 0))with
 |some (.empty j none)=>
  let t:=((st.tab true).put j).1
  let ids:=bt st.ids.toArray ((st.tab true).put j).2 x
  if t.tooFull then
   match t.relaid (ids.map λ x=>hs.getD x 0) (lR (st.ids.length+1))with
   |some (t',order)=>some ⟨(order.filterMap (ids[·]?)).toList,t'.place.toList,t'.mask,t'.moves⟩
   |none=>none
  else some ⟨ids.toList,t.place.toList,t.mask,t.moves⟩
 |_=>none
noncomputable def iC:TS:=⟨[],[],7,0⟩
noncomputable def l4:Nat→List TS
 |1=>[
  ⟨[],[],7,0⟩,⟨[0],[0],7,0⟩,⟨[1],[1],7,0⟩,⟨[2],[3],7,0⟩,⟨[3],[4],7,0⟩,⟨[0,1],[0,1],7,0⟩,⟨[0,2],[0,3],7,0⟩,⟨[0,3],[0,4],7,0⟩,⟨[1,2],[1,3],7,0⟩,⟨[1,3],[1,4],7,0⟩,⟨[2,3],[3,4],7,0⟩,
  ⟨[0,1,2],[0,1,3],7,0⟩,⟨[0,1,3],[0,1,4],7,0⟩,⟨[0,2,3],[0,3,4],7,0⟩,⟨[1,2,3],[1,3,4],7,0⟩,⟨[0,1,2,3],[0,1,3,4],7,0⟩]
 |2=>[
  ⟨[],[],7,0⟩,⟨[0],[0],7,0⟩,⟨[1],[2],7,0⟩,⟨[2],[3],7,0⟩,⟨[3],[3],7,0⟩,⟨[4],[4],7,0⟩,⟨[5],[0],7,0⟩,⟨[0,1],[0,2],7,0⟩,⟨[0,2],[0,3],7,0⟩,⟨[0,3],[0,3],7,0⟩,⟨[0,4],[0,4],7,0⟩,
  ⟨[0,5],[0,4],7,0⟩,⟨[1,2],[2,3],7,0⟩,⟨[1,3],[2,3],7,0⟩,⟨[1,4],[2,4],7,0⟩,⟨[5,1],[0,2],7,0⟩,⟨[3,2],[2,3],7,0⟩,⟨[2,4],[3,4],7,0⟩,⟨[5,2],[0,3],7,0⟩,⟨[3,2],[3,7],7,0⟩,
  ⟨[3,4],[3,4],7,0⟩,⟨[5,3],[0,3],7,0⟩,⟨[5,4],[0,4],7,0⟩,⟨[5,0],[0,7],7,0⟩,⟨[0,1,2],[0,2,3],7,0⟩,⟨[0,1,3],[0,2,3],7,0⟩,⟨[0,1,4],[0,2,4],7,0⟩,⟨[0,1,5],[0,2,4],7,0⟩,
  ⟨[0,3,2],[0,2,3],7,0⟩,⟨[0,2,4],[0,3,4],7,0⟩,⟨[0,2,5],[0,3,4],7,0⟩,⟨[0,3,2],[0,3,7],7,0⟩,⟨[0,3,4],[0,3,4],7,0⟩,⟨[0,3,5],[0,3,4],7,0⟩,⟨[0,5,4],[0,3,4],7,0⟩,
  ⟨[0,4,5],[0,1,4],7,0⟩,⟨[3,1,2],[0,2,3],7,0⟩,⟨[1,2,4],[2,3,4],7,0⟩,⟨[5,1,2],[0,2,3],7,0⟩,⟨[1,3,2],[2,3,7],7,0⟩,⟨[1,3,4],[2,3,4],7,0⟩,⟨[5,1,3],[0,2,3],7,0⟩,
  ⟨[5,1,4],[0,2,4],7,0⟩,⟨[5,1,0],[0,2,7],7,0⟩,⟨[3,2,1],[2,3,7],7,0⟩,⟨[3,2,4],[2,3,4],7,0⟩,⟨[5,3,2],[0,2,3],7,0⟩,⟨[5,2,4],[0,3,4],7,0⟩,⟨[5,2,0],[0,3,7],7,0⟩,
  ⟨[3,4,2],[3,4,7],7,0⟩,⟨[5,3,2],[0,3,7],7,0⟩,⟨[5,3,4],[0,3,4],7,0⟩,⟨[5,3,0],[0,3,7],7,0⟩,⟨[5,4,0],[0,4,7],7,0⟩,⟨[0,3,1,2],[0,1,2,3],7,0⟩,⟨[0,1,2,4],[0,2,3,4],7,0⟩,
  ⟨[0,1,2,5],[0,2,3,4],7,0⟩,⟨[0,1,3,2],[0,2,3,7],7,0⟩,⟨[0,1,3,4],[0,2,3,4],7,0⟩,⟨[0,1,3,5],[0,2,3,4],7,0⟩,⟨[0,1,5,4],[0,2,3,4],7,0⟩,⟨[0,4,1,5],[0,1,2,4],7,0⟩,
  ⟨[0,3,2,1],[0,2,3,7],7,0⟩,⟨[0,3,2,4],[0,2,3,4],7,0⟩,⟨[0,3,2,5],[0,2,3,4],7,0⟩,⟨[0,5,2,4],[0,2,3,4],7,0⟩,⟨[0,4,2,5],[0,1,3,4],7,0⟩,⟨[0,3,4,2],[0,3,4,7],7,0⟩,
  ⟨[0,3,5,2],[0,3,4,7],7,0⟩,⟨[0,5,3,4],[0,2,3,4],7,0⟩,⟨[0,4,3,5],[0,1,3,4],7,0⟩,⟨[0,5,4,2],[0,3,4,7],7,0⟩,⟨[0,3,5,4],[0,2,3,4],7,0⟩,⟨[3,1,2,0],[0,2,3,7],7,0⟩,
  ⟨[3,1,2,4],[0,2,3,4],7,0⟩,⟨[3,1,2,5],[0,2,3,4],7,0⟩,⟨[5,1,2,4],[0,2,3,4],7,0⟩,⟨[5,1,2,0],[0,2,3,7],7,0⟩,⟨[5,3,1,2],[0,1,2,3],7,0⟩,⟨[1,3,4,2],[2,3,4,7],7,0⟩,
  ⟨[5,1,3,2],[0,2,3,7],7,0⟩,⟨[5,1,3,4],[0,2,3,4],7,0⟩,⟨[5,1,3,0],[0,2,3,7],7,0⟩,⟨[5,1,4,0],[0,2,4,7],7,0⟩,⟨[3,2,4,1],[2,3,4,7],7,0⟩,⟨[5,3,2,1],[0,2,3,7],7,0⟩,
  ⟨[5,3,2,4],[0,2,3,4],7,0⟩,⟨[5,3,2,0],[0,2,3,7],7,0⟩,⟨[5,2,4,0],[0,3,4,7],7,0⟩,⟨[5,3,4,2],[0,3,4,7],7,0⟩,⟨[5,0,3,2],[0,1,3,7],7,0⟩,⟨[5,3,4,0],[0,3,4,7],7,0⟩,
  ⟨[5,2,3,0],[0,2,3,7],7,0⟩,⟨[0,3,2,1,4],[0,3,11,18,28],31,1⟩,⟨[0,3,2,5,1],[0,3,11,16,18],31,1⟩,⟨[0,2,5,1,4],[0,11,16,18,28],31,1⟩,⟨[0,3,5,1,4],[0,3,16,18,28],31,1⟩,
  ⟨[0,3,2,5,4],[0,3,11,16,28],31,1⟩,⟨[3,2,5,1,4],[3,11,16,18,28],31,1⟩,⟨[0,3,2,5,1,4],[0,3,11,16,18,28],31,1⟩]
 |3=>[
  ⟨[],[],7,0⟩,⟨[0],[0],7,0⟩,⟨[1],[2],7,0⟩,⟨[2],[4],7,0⟩,⟨[3],[3],7,0⟩,⟨[0,1],[0,2],7,0⟩,⟨[0,2],[0,4],7,0⟩,⟨[0,3],[0,3],7,0⟩,⟨[1,2],[2,4],7,0⟩,⟨[1,3],[2,3],7,0⟩,⟨[3,2],[3,4],7,0⟩,
  ⟨[0,1,2],[0,2,4],7,0⟩,⟨[0,1,3],[0,2,3],7,0⟩,⟨[0,3,2],[0,3,4],7,0⟩,⟨[1,3,2],[2,3,4],7,0⟩,⟨[0,1,3,2],[0,2,3,4],7,0⟩]
 |_=>[]
noncomputable def P6:Nat→List (List Nat)
 |1=>[[1,2,3,4],[0,5,6,7],[5,0,8,9],[6,8,0,10],[7,9,10,0],[0,0,11,12],[0,11,0,13],[0,12,13,0],[11,0,0,14],[12,0,14,0],[13,14,0,0],[0,0,0,15],[0,0,15,0],[0,15,0,0],[15,0,0,0],
  [0,0,0,0]]
 |2=>[[1,2,3,4,5,6],[0,7,8,9,10,11],[7,0,12,13,14,15],[8,12,0,16,17,18],[9,13,19,0,20,21],[10,14,17,20,0,22],[23,15,18,21,22,0],[0,0,24,25,26,27],[0,24,0,28,29,30],
  [0,25,31,0,32,33],[0,26,29,32,0,34],[0,27,30,33,35,0],[24,0,0,36,37,38],[25,0,39,0,40,41],[26,0,37,40,0,42],[43,0,38,41,42,0],[28,44,0,0,45,46],[29,37,0,45,0,47],
  [48,38,0,46,47,0],[31,39,0,0,49,50],[32,40,49,0,0,51],[52,41,50,0,51,0],[53,42,47,51,0,0],[0,43,48,52,53,0],[0,0,0,54,55,56],[0,0,57,0,58,59],[0,0,55,58,0,60],
  [0,0,56,59,61,0],[0,62,0,0,63,64],[0,55,0,63,0,65],[0,56,0,64,66,0],[0,57,0,0,67,68],[0,58,67,0,0,69],[0,59,68,0,70,0],[0,60,71,72,0,0],[0,61,66,70,0,0],
  [73,0,0,0,74,75],[55,0,0,74,0,76],[77,0,0,78,76,0],[57,0,0,0,79,80],[58,0,79,0,0,81],[82,0,80,0,81,0],[83,0,76,81,0,0],[0,0,77,82,83,0],[62,0,0,0,84,85],
  [63,84,0,0,0,86],[87,85,0,0,86,0],[88,76,0,86,0,0],[0,77,0,87,88,0],[67,79,0,0,0,89],[90,80,0,0,89,0],[91,81,89,0,0,0],[0,82,92,0,91,0],[0,83,88,91,0,0],
  [0,0,0,0,93,94],[0,0,0,93,0,95],[0,0,0,94,95,0],[0,0,0,0,93,94],[0,0,93,0,0,96],[0,0,94,0,96,0],[0,0,95,96,0,0],[0,0,95,96,0,0],[0,0,0,0,93,94],[0,93,0,0,0,97],
  [0,94,0,0,97,0],[0,95,0,97,0,0],[0,95,0,97,0,0],[0,93,0,0,0,97],[0,94,0,0,97,0],[0,96,97,0,0,0],[0,96,97,0,0,0],[0,95,0,97,0,0],[0,96,97,0,0,0],[0,0,0,0,93,94],
  [93,0,0,0,0,98],[94,0,0,0,98,0],[95,0,0,98,0,0],[0,0,0,94,95,0],[94,0,0,0,98,0],[93,0,0,0,0,98],[94,0,0,0,98,0],[96,0,98,0,0,0],[0,0,94,0,96,0],[0,0,95,96,0,0],
  [93,0,0,0,0,98],[94,0,0,0,98,0],[97,98,0,0,0,0],[0,94,0,0,97,0],[0,95,0,97,0,0],[97,98,0,0,0,0],[0,94,0,0,97,0],[0,96,97,0,0,0],[0,94,0,0,97,0],[0,0,0,0,0,99],
  [0,0,0,0,99,0],[0,0,0,99,0,0],[0,0,99,0,0,0],[0,99,0,0,0,0],[99,0,0,0,0,0],[0,0,0,0,0,0]]
 |3=>[[1,2,3,4],[0,5,6,7],[5,0,8,9],[6,8,0,10],[7,9,10,0],[0,0,11,12],[0,11,0,13],[0,12,13,0],[11,0,0,14],[12,0,14,0],[13,14,0,0],[0,0,0,15],[0,0,15,0],[0,15,0,0],[15,0,0,0],
  [0,0,0,0]]
 |_=>[]
noncomputable def F5(o:Option SetTable.Met):Option (Nat×Nat×ir):=o.bind λ m=>SetTable.Met.rec (motive:= λ _=>Option (Nat×Nat×ir)) (λ _ _=>none) (λ j i p=>some (j,i,p)) m
noncomputable def MD(hs:List Int)(st:TS)(x:Nat):Bool:=(F5 ((st.tab true).probe (zl hs st.ids) (hs.getD x 0) ((st.tab true).probeStart (hs.getD x 0)))).any λ p=>st.ids[p.2.1]? ==some x
noncomputable def I7(hs:List Int)(L:List TS)(m:Nat)(st:TS)(tr:List Nat):Bool:=(ay m).all λ x=>if st.ids.contains x then MD hs st x else(st.add hs x).any λ y=>L[tr.getD x 0]? ==some y&&y.ids.isPerm (x::st.ids)
noncomputable def I8(st:TS):Bool:=(ay (st.ids.length+1)).all λ i=>b8 st.place.toArray (if i=0 then 0 else st.place.getD (i-1) 0+1)==i
noncomputable def I6(m:Nat)(st:TS):Bool:=st.place.length==st.ids.length&&decide (st.ids.length≤st.mask)&&decide (st.ids.length≤6)&&st.mask%2==1&&st.ids.all (λ x=>decide (x<m))&&I8 st
noncomputable def nT(k:Nat):Bool:=((l4 k).zip (P6 k)).all (λ p=>I7 (nR k) (l4 k) (j9 k).length p.1 p.2&&I6 (j9 k).length p.1)&&(l4 k).length==(P6 k).length
theorem J8:nT 1=true:=by decide +kernel
theorem J6:nT 3=true:=by decide +kernel
theorem J7:nT 2=true:=by decide +kernel
section
set_option backward.match.sparseCases false
noncomputable def fS(k x:Nat):List Nat:=(j9 k).getD x []
noncomputable def bP(O:List Addr)(h:Heap):List (Int×ag)→List (List Nat)→Prop
 |[],[]=>True
 |e::es,c::cs=>e.1=gy c∧(∃b vs,e.2=.ref b∧b∉O∧lQ h b vs.toArray∧fb vs (c.map qV))∧bP O h es cs
 |_,_=>False
inductive D where
 |none
 |bool (b:Bool)
 |int (i:Int)
 |str (s:Str)
 |tup (ds:List D)
 |lst (ds:List D)
 |dm (xs:List Nat)
 |k8 (k:Nat) (st:TS)
 |inst (c:Addr) (fs:List (Str×D))
 |dJ (sQ:List (Int×D))
 |D5 (a b:Int)
 |lit (v:ag)
 |any
noncomputable abbrev Ew(vs:List ag)(n:Nat):Obj:={cls:=.type "tuple",data:=.seq vs.toArray n}
noncomputable abbrev bR(vs:List ag)(n:Nat):Obj:={cls:=.type "list",data:=.seq vs.toArray n}
noncomputable abbrev ig(c dx:Addr):Obj:={cls:=.ref c,dict:=some dx,data:=.plain}
noncomputable abbrev ip(es:Array cV)(n:Nat):Obj:={cls:=.type "dict",data:=.dict es n}
noncomputable abbrev cS(es:Array (Int×ag))(n:Nat)(t:SetTable):Obj:={cls:=.type "set",data:=.set es n t}
noncomputable abbrev AS(a b:Int)(t u v:Tok):Obj:={cls:=.type "range",dict:=none,data:=.fields #[.int a t,.int b u,.int 1 v],slots:= #[]}
noncomputable abbrev cN(w:a9):Bool:=w.params.followText "set-order"
noncomputable def df(w:a9)(xs:List Nat):SetTable:={mask:=7,place:=xs.toArray,dummies:= #[],finger:=0,led:= !cN w,moves:=0,plain:=true}
noncomputable def aT(xs:List Nat)(ts:List Tok):List (Int×ag):=(xs.zip ts).map λ p=>((p.1:Int),nH (p.1:Int) p.2)
noncomputable def qE(o:Obj):Bool:=match o.cls,o.data with
 |.none,.fields _=>true
 |_,_=>false
theorem cP{o:Obj}{es n}(h:o.data=.dict es n):qE o=false:=by
 obtain⟨cl,d,dt,sl⟩:=o;simp only at h;subst h;cases cl<;>rfl
theorem zc{o:Obj}{v}(h:o.data=.cell v):qE o=false:=by
 obtain⟨cl,d,dt,sl⟩:=o;simp only at h;subst h;cases cl<;>rfl
theorem c8{o:Obj}{vs n}(h:o.data=.seq vs n):qE o=false:=by
 obtain⟨cl,d,dt,sl⟩:=o;simp only at h;subst h;cases cl<;>rfl
theorem bW{o:Obj}(h:o.cls≠.none):qE o=false:=by
 obtain⟨cl,d,dt,sl⟩:=o;cases cl<;>first|rfl|exact absurd rfl h
mutual
noncomputable def bh(w:a9)(O:List Addr)(h:Heap):ag→D→Prop
 |v,.none=>v=.none
 |v,.bool b=>v=.bool b
 |v,.int i=>∃t,v=.int i t
 |v,.str x=>∃t,v=.str x t
 |v,.tup ds=>∃a vs,v=.ref a∧a∉O∧lQ h a vs.toArray∧a0 w O h vs ds
 |v,.lst ds=>∃a vs,v=.ref a∧a∉O∧eB h a vs.toArray∧a0 w O h vs ds
 |v,.dm xs=>∃a ts n,v=.ref a∧a∉O∧h.get? a=some (cS (aT xs ts).toArray n (df w xs))∧ts.length=xs.length∧xs.Sublist [0,1,2,3]
 |v,.k8 k st=>∃a es n,v=.ref a∧a∉O∧h.get? a=some (cS es n (st.tab !cN w))∧st∈l4 k∧bP O h es.toList (st.ids.map (fS k))
 |v,.inst c fs=>∃a dx es n ps,v=.ref a∧a∉O∧dx∉O∧h.get? a=some (ig c dx)∧h.get? dx=some (dictOf es n)∧(∀x,getL x es=some (ps.lookup x))∧ez w O h ps fs
 |v,.dJ sQ=>∃a f ps,v=.ref a∧a∉O∧h.IntMap a f∧(∀k v,ps.lookup k=some v→f k=some v)∧lN w O h ps sQ
 |v,.D5 x y=>∃a t u t',v=.ref a∧a∉O∧h.get? a=some (AS x y t u t')
 |v,.lit u=>v=u
 |_,.any=>True
noncomputable def a0(w:a9)(O:List Addr)(h:Heap):List ag→List D→Prop
 |[],[]=>True
 |v::vs,d::ds=>bh w O h v d∧a0 w O h vs ds
 |_,_=>False
noncomputable def ez(w:a9)(O:List Addr)(h:Heap):List (Str×ag)→List (Str×D)→Prop
 |[],[]=>True
 |p::ps,q::qs=>p.1=q.1∧bh w O h p.2 q.2∧ez w O h ps qs
 |_,_=>False
noncomputable def lN(w:a9)(O:List Addr)(h:Heap):List (Int×ag)→List (Int×D)→Prop
 |[],[]=>True
 |p::ps,q::qs=>p.1=q.1∧bh w O h p.2 q.2∧lN w O h ps qs
 |_,_=>False
end
section
variable {w:a9}{O:List Addr}{h:Heap}{v:ag}{M:ag→Prop}
@[elab_as_elim] theorem bh.ef {i:Int} (r:bh w O h v (.int i)) (k:∀t,M (.int i t)):M v:=by obtain⟨t,rfl⟩:=r;exact k t
@[elab_as_elim] theorem bh.ri {x:Str} (r:bh w O h v (.str x)) (k:∀t,M (.str x t)):M v:=by obtain⟨t,rfl⟩:=r;exact k t
@[elab_as_elim] theorem bh.ql {ds:List D} (r:bh w O h v (.tup ds)) (k:∀a vs,a∉O→lQ h a vs.toArray→a0 w O h vs ds→M (.ref a)):M v:=by obtain⟨a,vs,rfl,e,f,g⟩:=r;exact k a vs e f g
@[elab_as_elim] theorem bh.n7 {ds:List D} (r:bh w O h v (.lst ds)) (k:∀a vs,a∉O→eB h a vs.toArray→a0 w O h vs ds→M (.ref a)):M v:=by obtain⟨a,vs,rfl,e,f,g⟩:=r;exact k a vs e f g
@[elab_as_elim] theorem bh.sm {xs:List Nat} (r:bh w O h v (.dm xs)) (k:∀a (ts:List Tok) n,a∉O→h.get? a=some (cS (aT xs ts).toArray n (df w xs))→ts.length=xs.length→xs.Sublist [0,1,2,3]→M (.ref a)):M v:=by obtain⟨a,ts,n,rfl,e,f,g,i⟩:=r;exact k a ts n e f g i
@[elab_as_elim] theorem bh.yq {j:Nat} {st:TS} (r:bh w O h v (.k8 j st)) (k:∀a es n,a∉O→h.get? a=some (cS es n (st.tab !cN w))→st∈l4 j→bP O h es.toList (st.ids.map (fS j))→M (.ref a)):M v:=by obtain⟨a,es,n,rfl,e,f,g,i⟩:=r;exact k a es n e f g i
@[elab_as_elim] theorem bh.qH {c:Addr} {fs:List (Str×D)} (r:bh w O h v (.inst c fs)) (k:∀a dx es n ps,a∉O→dx∉O→h.get? a=some (ig c dx)→h.get? dx=some (dictOf es n)→(∀x,getL x es=some (ps.lookup x))→ez w O h ps fs→M (.ref a)):M v:=by
 obtain⟨a,dx,es,n,ps,rfl,e,f,g,i,j,l⟩:=r;exact k a dx es n ps e f g i j l
@[elab_as_elim] theorem bh.Cd {sQ:List (Int×D)} (r:bh w O h v (.dJ sQ)) (k:∀a f ps,a∉O→h.IntMap a f→(∀k v,ps.lookup k=some v→f k=some v)→lN w O h ps sQ→M (.ref a)):M v:=by obtain⟨a,f,ps,rfl,e,g,i,j⟩:=r;exact k a f ps e g i j
@[elab_as_elim] theorem bh.ES {x y:Int} (r:bh w O h v (.D5 x y)) (k:∀a t u t',a∉O→h.get? a=some (AS x y t u t')→M (.ref a)):M v:=by obtain⟨a,t,u,t',rfl,e,f⟩:=r;exact k a t u t' e f
end
structure Kept(O:List Addr)(h h':Heap):Prop where
 size:h.objs.size≤h'.objs.size
 get:∀a o,a∉O→h.get? a=some o→qE o=false→h'.get? a=some o
theorem Kept.refl(O:List Addr)(h:Heap):Kept O h h:=⟨az _,λ z z z e z=>e⟩
theorem Kept.mono{O O':List Addr}{h h':Heap}(x:Kept O h h')(hs:∀a∈O,a∈O'∨h.objs.size≤a):Kept O' h h':=
 ⟨x.size,λ a o ha e hc=>x.get a o (λ hm=>(hs a hm).elim ha λ hl=>ak _ (ab (aI e) hl)) e hc⟩
section
variable {w:a9}{O O':List Addr}{h h':Heap}
theorem IsTup.lt{a:Addr}{vs:Array ag}(t:lQ h a vs):a<h.objs.size:=c0 t λ z ho z=>aI ho
theorem lQ.kept(K:Kept O h h'){a:Addr}{vs:Array ag}(ha:a∉O)(t:lQ h a vs):lQ h' a vs:=nO t λ o ho hc n hd=>⟨o,K.get _ _ ha ho (c8 hd),hc,n,hd⟩
noncomputable abbrev JS(O:List Addr)(h:Heap)(e:Int×ag)(c:List Nat):Prop:=e.1=gy c∧∃b vs,e.2=.ref b∧b∉O∧lQ h b vs.toArray∧fb vs (c.map qV)
@[elab_as_elim] theorem bP.ind {M:List (Int×ag)→List (List Nat)→Prop} {vs:List (Int×ag)} {ds:List (List Nat)} (r:bP O h vs ds) (m0:M [] []) (m1:∀v vs d ds,JS O h v d→bP O h vs ds→M vs ds→M (v::vs) (d::ds)):M vs ds:=by
 induction vs generalizing ds with
 |nil=>cases ds with|nil=>exact m0|cons=>exact r.elim
 |cons v vs ih=>cases ds with|nil=>exact r.elim|cons d ds=>exact m1 v vs d ds ⟨r.1,r.2.1⟩ r.2.2 (ih r.2.2)
theorem bP.kept(K:Kept O h h')(hs:∀a∈O',a∈O∨h.objs.size≤a){es:List (Int×ag)}{cs:List (List Nat)}(r:bP O h es cs):bP O' h' es cs:=
 r.ind trivial λ e es c cs r z ih=>⟨r.1,ew r.2 λ b vs e2 zh=>jH zh λ hb ht hi=>⟨b,vs,e2,λ hm=>(hs b hm).elim hb λ hl=>ak _ (ab (IsTup.lt ht) hl),lQ.kept K hb ht,hi⟩,ih⟩
mutual
theorem bh.kept(K:Kept O h h')(hs:∀a∈O',a∈O∨h.objs.size≤a):∀{d:D} {v:ag},bh w O h v d→bh w O' h' v d
 |.none,v,r=>r
 |.bool b,v,r=>r
 |.int i,v,r=>r
 |.str x,v,r=>r
 |.tup ds,v,r=>by
  refine bO r ?_;clear r;intro a vs e ha y1 q;exact⟨a,vs,e,λ hm=>(hs a hm).elim ha λ hl=>ak _ (ab (IsTup.lt y1) hl),lQ.kept K ha y1,a0.kept K hs q⟩
 |.lst ds,v,r=>by
  refine bO r ?_;clear r;intro a vs e ha y1 q;refine bO y1 ?_;clear y1;intro o n ho hc xK hd;exact⟨a,vs,e,λ hm=>(hs a hm).elim ha λ hl=>ak _ (ab (aI ho) hl),⟨o,n,K.get _ _ ha ho (c8 hd),hc,xK,hd⟩,a0.kept K hs q⟩
 |.dm xs,v,r=>by
  refine cJ r ?_;clear r;intro a ts n e ha ho q;exact⟨a,ts,n,e,λ hm=>(hs a hm).elim ha λ hl=>ak _ (ab (aI ho) hl),K.get _ _ ha ho (bW (by simp)),q⟩
 |.k8 k st,v,r=>by
  refine lB r ?_;clear r;intro a es n e zh;refine cg zh ?_;clear zh;intro ha ho kt q;exact⟨a,es,n,e,λ hm=>(hs a hm).elim ha λ hl=>ak _ (ab (aI ho) hl),K.get _ _ ha ho (bW (by simp)),kt,bP.kept K hs q⟩
 |.inst c fs,v,r=>by
  refine iB r ?_;clear r;intro a dx zh;refine cJ zh ?_;clear zh;intro es n ps e ha hx zh;refine cg zh ?_;clear zh;intro ho Uz hm q;exact⟨a,dx,es,n,ps,e,λ hm=>(hs a hm).elim ha λ hl=>ak _ (ab (aI ho) hl),
   λ hm=>(hs dx hm).elim hx λ hl=>ak _ (ab (aI Uz) hl),K.get _ _ ha ho (bW (by simp)),K.get _ _ hx Uz (cP rfl),hm,ez.kept K hs q⟩
 |.dJ sQ,v,r=>by
  refine lB r ?_;clear r;intro a f ps e zh;refine cg zh ?_;clear zh;intro ha y1 hm q;refine cJ y1 ?_;clear y1;intro o es ep ho hc hd hr;exact⟨a,f,ps,e,λ hm=>(hs a hm).elim ha λ hl=>ak _ (ab (aI ho) hl),⟨o,es,ep,K.get _ _ ha ho (cP hd),hc,hd,hr⟩,hm,lN.kept K hs q⟩
 |.D5 x y,v,r=>by
  refine xe r ?_;clear r;intro a zh;refine c_ zh ?_;clear zh;intro t u t' e ha ho;exact⟨a,t,u,t',e,λ hm=>(hs a hm).elim ha λ hl=>ak _ (ab (aI ho) hl),K.get _ _ ha ho (bW (by simp))⟩
 |.lit u,v,r=>r
 |.any,v,r=>by trivial
theorem a0.kept(K:Kept O h h')(hs:∀a∈O',a∈O∨h.objs.size≤a):∀{ds:List D} {vs:List ag},a0 w O h vs ds→a0 w O' h' vs ds
 |[],[],_=>by trivial
 |d::ds,v::vs,r=>by
  exact⟨bh.kept K hs r.1,a0.kept K hs r.2⟩
 |[],_::_,r=>r.elim
 |_::_,[],r=>r.elim
theorem ez.kept(K:Kept O h h')(hs:∀a∈O',a∈O∨h.objs.size≤a):∀{ds:List (Str×D)} {vs:List (Str×ag)},ez w O h vs ds→ez w O' h' vs ds
 |[],[],_=>by trivial
 |d::ds,v::vs,r=>by
  exact⟨r.1,bh.kept K hs r.2.1,ez.kept K hs r.2.2⟩
 |[],_::_,r=>r.elim
 |_::_,[],r=>r.elim
theorem lN.kept(K:Kept O h h')(hs:∀a∈O',a∈O∨h.objs.size≤a):∀{ds:List (Int×D)} {vs:List (Int×ag)},lN w O h vs ds→lN w O' h' vs ds
 |[],[],_=>by trivial
 |d::ds,v::vs,r=>by
  exact⟨r.1,bh.kept K hs r.2.1,lN.kept K hs r.2.2⟩
 |[],_::_,r=>r.elim
 |_::_,[],r=>r.elim
end
section
variable {w:a9}{O:List Addr}{h:Heap}
@[elab_as_elim] theorem a0.ind {M:List ag→List D→Prop} {vs:List ag} {ds:List D} (r:a0 w O h vs ds) (m0:M [] []) (m1:∀v vs d ds,bh w O h v d→a0 w O h vs ds→M vs ds→M (v::vs) (d::ds)):M vs ds:=by
 induction vs generalizing ds with
 |nil=>cases ds with|nil=>exact m0|cons=>exact r.elim
 |cons v vs ih=>cases ds with|nil=>exact r.elim|cons d ds=>exact m1 v vs d ds r.1 r.2 (ih r.2)
@[elab_as_elim] theorem ez.ind {M:List (Str×ag)→List (Str×D)→Prop} {vs:List (Str×ag)} {ds:List (Str×D)} (r:ez w O h vs ds) (m0:M [] []) (m1:∀x v vs d ds,bh w O h v d→ez w O h vs ds→M vs ds→M ((x,v)::vs) ((x,d)::ds)):M vs ds:=by
 induction vs generalizing ds with
 |nil=>cases ds with|nil=>exact m0|cons=>exact r.elim
 |cons v vs ih=>cases ds with|nil=>exact r.elim|cons d ds=>obtain⟨x,v⟩:=v;obtain⟨y,d⟩:=d;obtain rfl:x=y:=r.1;exact m1 x v vs d ds r.2.1 r.2.2 (ih r.2.2)
@[elab_as_elim] theorem lN.ind {M:List (Int×ag)→List (Int×D)→Prop} {vs:List (Int×ag)} {ds:List (Int×D)} (r:lN w O h vs ds) (m0:M [] []) (m1:∀x v vs d ds,bh w O h v d→lN w O h vs ds→M vs ds→M ((x,v)::vs) ((x,d)::ds)):M vs ds:=by
 induction vs generalizing ds with
 |nil=>cases ds with|nil=>exact m0|cons=>exact r.elim
 |cons v vs ih=>cases ds with|nil=>exact r.elim|cons d ds=>obtain⟨x,v⟩:=v;obtain⟨y,d⟩:=d;obtain rfl:x=y:=r.1;exact m1 x v vs d ds r.2.1 r.2.2 (ih r.2.2)
end
end
end
structure Cx where
 prog:Program
 w:a9
 K:Frag
 mg:Str→Option ag
 mb:Str→Option ag
 bm:Addr
 ob:Obj
 tabs:List (Addr×Addr)
 B:Nat
structure TT(c:Cx):Prop where
 mg:∀x v,nsIn c.K mainGlobals x=some v→c.mg x=v
 mb:∀x:Str,x≠ "__name__" →c.mb x=bootBuiltins x
 bm:c.mg "__builtins__"=some (.ref c.bm)
 bne:c.bm≠builtinsNs
 M5:c.ob.cls=.type "module"
 M3:c.ob.dict=some builtinsNs
 M4:c.ob.data=.plain
 KM:∀a o,c.K.lookup a=some o→a<c.B
 VW:∀a o,c.K.lookup a=some o→qE o=false
 H4:cStatics<c.B∧mainGlobals<c.B∧builtinsNs<c.B∧c.bm<c.B
 KJ:∀p∈c.tabs,p.1<c.B∧p.2<c.B
structure bF(c:Cx)(s:ae):Prop where
 ok:TT c
 fZ:c.K.In s.heap
 nolimit:s.heap.NoLimit
 g:s.heap.Ns mainGlobals c.mg
 b:s.heap.Ns builtinsNs c.mb
 mod:s.heap.get? c.bm=some c.ob
 tab:∀p∈c.tabs,∃ps,s.heap.IsCode p.1 p.2 ps∧s.heap.TableAt p.1 p.2 ps
 bare:AllBare s.gens
 size:c.B≤s.heap.objs.size
structure aB(c:Cx)(O:List Addr)(G:List Nat)(s s':ae):Prop where
 size:s.heap.objs.size≤s'.heap.objs.size
 keep:∀a o,a∉O→s.heap.get? a=some o→qE o=false→s'.heap.get? a=some o
 tab:∀a o,s.heap.get? a=some o→qE o=true→s'.heap.get? a=some o∨((∃p∈c.tabs,p.2=a)∧∃vs more,o=tabObj vs∧s'.heap.get? a=some (tabObj (vs++more)))
 gens:∀g x,g∉G→s.gens[g]? =some x→s'.gens[g]? =some x
 dv:s.gens.size≤s'.gens.size
 os:s'.os=s.os
theorem aB.refl(c:Cx)(O:List Addr)(G:List Nat)(s:ae):aB c O G s s:=
 ⟨az _,λ z z z e z=>e,λ z z e z=>.inl e,λ z z z e=>e,az _,rfl⟩
theorem aB.trans{c:Cx}{O:List Addr}{G:List Nat}{s s' k_:ae}(x:aB c O G s s')(y:aB c O G s' k_):aB c O G s k_ where
 size:=af x.size y.size
 keep:= λ a o ha e ht=>y.keep a o ha (x.keep a o ha e ht) ht
 tab:= λ a o e ht=>by
  rcases x.tab a o e ht with e1|⟨hp,vs,more,rfl,e1⟩
  ·exact y.tab a o e1 ht
  ·rcases y.tab a _ e1 rfl with e2|⟨_,i7,Fe,e3,e2⟩
   ·exact .inr ⟨hp,vs,more,rfl,e2⟩
   ·have:i7=vs++more:=by injection e3 with _ _ h;injection h with h;exact h.symm
    subst this;exact .inr ⟨hp,vs,more++Fe,rfl,by rw[e2,Array.append_assoc]⟩
 gens:= λ g y' hg e=>y.gens g y' hg (x.gens g y' hg e)
 dv:=af x.dv y.dv
 os:=y.os.trans x.os
theorem rL{s:ae}{g:Nat}{x:mh}(e:s.gens[g]? =some x):g<s.gens.size:=(Array.getElem?_eq_some_iff.mp e).1
theorem aB.mono{c:Cx}{O O':List Addr}{G G':List Nat}{s s':ae}(x:aB c O G s s')(hO:∀a∈O,a∈O'∨s.heap.objs.size≤a)(hG:∀g∈G,g∈G'∨s.gens.size≤g):aB c O' G' s s' where
 size:=x.size
 keep:= λ a o ha e ht=>x.keep a o (λ hm=>(hO a hm).elim ha λ hl=>ak _ (ab (aI e) hl)) e ht
 tab:=x.tab
 gens:= λ g y hg e=>x.gens g y (λ hm=>(hG g hm).elim hg λ hl=>ak _ (ab (rL e) hl)) e
 dv:=x.dv
 os:=x.os
theorem aB.toks{c:Cx}{O:List Addr}{G:List Nat}{s s':ae}{t:Nat}(x:aB c O G s s'):aB c O G s {s' with toks:=t}:=⟨x.size,x.keep,x.tab,x.gens,x.dv,x.os⟩
theorem aB.of_keep{c:Cx}{O:List Addr}{G:List Nat}{s:ae}{h':Heap}{tk:Nat}(hs:s.heap.objs.size≤h'.objs.size)(hk:∀a o,a∉O→s.heap.get? a=some o→h'.get? a=some o)(hO:∀a∈O,∀o,s.heap.get? a=some o→qE o=false):aB c O G s {s with heap:=h',toks:=tk} where
 size:=hs
 keep:= λ a o ha e z=>hk a o ha e
 tab:= λ a o e ht=>.inl (hk a o (λ hm=>by rw[hO a hm o e]at ht;cases ht) e)
 gens:= λ z z z e=>e
 dv:=az _
 os:=rfl
theorem aB.push{c:Cx}{G:List Nat}{s:ae}{o:Obj}{tk:Nat}:aB c [] G s {s with heap:=s.heap.push o,toks:=tk}:=
 .of_keep (by rw[aW];exact bq _) (λ z z z e=>aA _ e) λ z=>nn
theorem aB.kept{c:Cx}{O:List Addr}{G:List Nat}{s s':ae}(x:aB c O G s s'):Kept O s.heap s'.heap:=
 ⟨x.size,λ a o ha e hc=>x.keep a o ha e hc⟩
theorem bF.at{c:Cx}{s:ae}{h':Heap}{tk:Nat}{O:List Addr}(S:bF c s)(hs:s.heap.objs.size≤h'.objs.size)(hk:∀a o,a∉O→s.heap.get? a=some o→h'.get? a=some o)(hl:∀a∈O,c.B≤a):
  bF c {s with heap:=h',toks:=tk}:=by
 have up:∀a o,a<c.B→s.heap.get? a=some o→h'.get? a=some o:= λ a o ha e=>hk a o (λ hm=>ak _ (ab ha (hl a hm))) e;have ns:∀a m,a<c.B→s.heap.Ns a m→h'.Ns a m:= λ a m ha hn=>hn.at' λ o e=>up a o ha e;refine⟨S.ok,λ a o e=>up a o (S.ok.KM a o e) (S.fZ a o e),?_,ns _ _ S.ok.H4.2.1 S.g,ns _ _ S.ok.H4.2.2.1 S.b,up _ _ S.ok.H4.2.2.2 S.mod,λ p hp=>?_,S.bare,af S.size hs⟩
 ·refine c0 S.nolimit λ mc hn h0=>?_;exact⟨mc,ns _ _ S.ok.H4.1 hn,h0⟩
 ·refine cI (S.tab p hp) λ ps y1 y2 f3=>?_;refine xe y1 ?_;clear y1;intro o zh;refine iu zh ?_;clear zh;intro vs file tf zh;refine iu zh ?_;clear zh;intro flags tg NG zh;refine c_ zh ?_;clear zh;intro text tt op e1 e2 zh;refine cg zh ?_;clear zh;intro e3 e4 e5 zh;refine cg zh ?_;clear zh;intro e6 e7 e8 r;refine ew y2 ?_;clear y2;intro o' i7 f1 f2;have l:=S.ok.KJ p hp;exact⟨ps,⟨o,vs,file,tf,flags,tg,NG,text,tt,op,up _ _ l.1 e1,e2,e3,e4,e5,e6,e7,up _ _ l.2 e8,r⟩,⟨⟨o',i7,up _ _ l.1 f1,f2⟩,up _ _ l.2 f3⟩⟩
theorem bF.toks{c:Cx}{s:ae}{tk:Nat}(S:bF c s):bF c {s with toks:=tk}:=⟨S.ok,S.fZ,S.nolimit,S.g,S.b,S.mod,S.tab,S.bare,S.size⟩
theorem bF.push{c:Cx}{s:ae}{o:Obj}{tk:Nat}(S:bF c s):bF c {s with heap:=s.heap.push o,toks:=tk}:=
 S.at (O:=[]) (by rw[aW];exact bq _) (λ z z z e=>aA _ e) λ z=>nn
structure Rm(A:aK)(n:Nat):Prop where
 handled:A.handled=none
 depth:A.depth+n<recursionLimit
 units:A.units+20*n<cLine
theorem Rm.le{A:aK}{n m:Nat}(x:Rm A n)(h:m≤n):Rm A m:=⟨x.handled,b9 (d_ h _) x.depth,b9 (d_ (r0 20 h) _) x.units⟩
theorem Rm.in1{A:aK}{n:Nat}(x:Rm A (n+1)):Rm A.in1 n:=⟨x.handled,by have:=x.depth;show A.depth+n<_;exact bX this,uj (by decide) x.units⟩
theorem Rm.deeper{A:aK}{n:Nat}{env:Env}(x:Rm A (n+1)):Rm (A.deeper env) n:=⟨x.handled,by have:=x.depth;show A.depth+1+n<_;exact GU this,uj (by decide) x.units⟩
theorem Rm.d0{A:aK}{n:Nat}(x:Rm A n):A.depth<recursionLimit:=by have:=x.depth;exact IV this
theorem Rm.u0{A:aK}{n:Nat}(x:Rm A n):A.units<cLine:=by have:=x.units;exact IV this
structure VE where
 env:Env
 vn:List Str
 k:Nat
structure QJ(E:VE):Prop where
 kind:E.env.scope.kind=.function
 glob:E.env.globals=mainGlobals
 blt:E.env.builtins=builtinsNs
 nodup:E.vn.Nodup
 var:∀x∈E.vn,E.env.kindOf x=some .local∨((E.env.kindOf x=some .cell∨E.env.kindOf x=some .free)∧∃a,E.env.cells.lookup x=some a)
 bind:∀i x,i<E.k→E.vn[i]? =some x→E.env.kindOf x≠some .free
 apart:E.env.cells.Pairwise λ x y=>x.2≠y.2
 Rh:∀p∈E.env.cells,p.2≠E.env.locals
 JI:∀x∈E.vn,(x==("__debug__":Str))=false∧(x==("__classdict__":Str))=false
inductive OD where
 |lst (ds:List D)
 |dm (xs:List Nat)
 |k8 (k:Nat) (st:TS)
 |dJ (n:Nat) (sQ:List (Int×D))
 |inst (at_:Option Addr) (c:Addr) (fs:List (Str×D))
 |ka (at_:Option Addr) (c:Addr) (fs:List (Str×D)) (x:Str) (ds:List D)
 |raw (P:List Addr→Heap→ag→List Addr→Prop)
inductive Sl where
 |no
 |val (d:D)
 |own (m:Bool) (q:OD)
noncomputable def cT(c:Cx)(O:List Addr)(h:Heap)(v:ag):OD→List Addr→Prop
 |.lst ds,fp=>∃a vs,v=.ref a∧fp=[a]∧eB h a vs.toArray∧a0 c.w O h vs ds
 |.dm xs,fp=>∃a ts n,v=.ref a∧fp=[a]∧h.get? a=some (cS (aT xs ts).toArray n (df c.w xs))∧ts.length=xs.length∧xs.Sublist [0,1,2,3]
 |.k8 k st,fp=>∃a es n,v=.ref a∧fp=[a]∧h.get? a=some (cS es n (st.tab !cN c.w))∧st∈l4 k∧bP O h es.toList (st.ids.map (fS k))
 |.dJ n sQ,fp=>∃a f ps,v=.ref a∧fp=[a]∧h.IntMap a f∧h.DictLe a n∧(∀k v,ps.lookup k=some v→f k=some v)∧lN c.w O h ps sQ
 |.inst u k fs,fp=>∃a dx es n ps,v=.ref a∧fp=[a,dx]∧(∀b,u=some b→a=b)∧a≠dx∧h.get? a=some (ig k dx)∧h.get? dx=some (dictOf es n)∧es.length≤fs.length∧(∀x,getL x es=some (ps.lookup x))∧ez c.w O h ps fs
 |.ka u k fs y ds,fp=>∃a dx l es n ps vs,v=.ref a∧fp=[a,dx,l]∧(∀b,u=some b→a=b)∧a≠dx∧a≠l∧dx≠l∧h.get? a=some (ig k dx)∧h.get? dx=some (dictOf es n)∧es.length≤fs.length+1∧
   (∀x,getL x es=some (if x=y then some (.ref l)else ps.lookup x))∧ez c.w O h ps fs∧eB h l vs.toArray∧a0 c.w O h vs ds
 |.raw P,fp=>P O h v fp∧∀O' h',Kept O h h'→(∀a∈O',a∈O∨h.objs.size≤a)→(∀a∈fp,∀o,h.get? a=some o→h'.get? a=some o)→P O' h' v fp
noncomputable def Bound(h:Heap)(env:Env)(x:Str)(v:ag):Prop:=
 (env.kindOf x=some .local→∃m,h.Ns env.locals m∧m x=some v)∧(env.kindOf x≠some .local→∃a,env.cells.lookup x=some a∧h.IsCell a (some v))
structure dH where
 s:ae
 O:List Addr
 N:List Addr
 W:List Addr
 G:List Nat
noncomputable def BD(β:dH)(a:Addr):Prop:=a∈β.W∨β.s.heap.objs.size≤a
noncomputable def GY(c:Cx)(E:VE)(β:dH)(O:List Addr)(s:ae):Sl→Str→List Addr→Prop
 |.no,_,fp=>fp=[]
 |.val d,x,fp=>fp=[]∧∃v,Bound s.heap E.env x v∧bh c.w O s.heap v d
 |.own m q,x,fp=>∃v,Bound s.heap E.env x v∧cT c O s.heap v q fp∧∀a∈fp,a∈O∧a≠E.env.locals∧(∀p∈E.env.cells,p.2≠a)∧(m=true→BD β a)∧a∉β.O∧a<s.heap.objs.size
structure Inv(c:Cx)(E:VE)(β:dH)(O:List Addr)(ad:Nat→List Addr)(ρ:List Sl)(s:ae):Prop where
 ok:QJ E
 br:bF c s
 grow:aB c β.W β.G β.s s
 lt:∀a∈O,a<s.heap.objs.size
 low:∀a∈O,c.B≤a
 sub:∀a∈β.O,a∈O
 n8:∀a∈β.O,a<β.s.heap.objs.size
 new:∀a∈O,a∈β.N∨β.s.heap.objs.size≤a
 ns:∃m,s.heap.Ns E.env.locals m
 cells:∀x∈E.vn,E.env.kindOf x≠some .local→∃a v,E.env.cells.lookup x=some a∧s.heap.IsCell a v
 uG:E.env.locals∈O
 tu:∀p∈E.env.cells,p.2∈O
 CG:BD β E.env.locals
 CH:∀i x a,i<E.k→E.vn[i]? =some x→E.env.kindOf x≠some .local→E.env.cells.lookup x=some a→BD β a
 vars:∀i x,E.vn[i]? =some x→GY c E β O s (ρ.getD i .no) x (ad i)
 mG:∀i j,i≠j→∀a∈ad i,a∉ad j
 out:∀i,E.vn.length≤i→ad i=[]
section
variable {c:Cx}{O O' W:List Addr}{G:List Nat}{s s':ae}
theorem aB.ns(x:aB c O G s s'){a:Addr}{m}(ha:a∉O)(hn:s.heap.Ns a m):s'.heap.Ns a m:=by
 refine c_ hn ?_;clear hn;intro o es ep ho hd r;exact⟨o,es,ep,x.keep a o ha ho (cP hd),hd,r⟩
theorem aB.cell(x:aB c O G s s'){a:Addr}{v}(ha:a∉O)(hn:s.heap.IsCell a v):s'.heap.IsCell a v:=by
 refine c0 hn ?_;clear hn;intro o ho hd;exact⟨o,x.keep a o ha ho (zc hd),hd⟩
noncomputable abbrev nM(O O':List Addr)(s:ae):Prop:=∀a∈O',a∈O∨s.heap.objs.size≤a
noncomputable abbrev tC(W O:List Addr)(s:ae):Prop:=∀a∈W,a∈O∨s.heap.objs.size≤a
theorem nM.refl(O:List Addr)(s:ae):nM O O s:= λ z h=>.inl h
theorem Kept.ok(x:aB c W G s s')(hW:tC W O s):Kept O s.heap s'.heap:=x.kept.mono hW
theorem aB.rep(x:aB c W G s s'){v:ag}{d:D}(hW:tC W O s)(hO:nM O O' s)(r:bh c.w O s.heap v d):bh c.w O' s'.heap v d:=bh.kept (Kept.ok x hW) hO r
theorem aB.fk(x:aB c W G s s'){v:List ag}{d:List D}(hW:tC W O s)(hO:nM O O' s)(r:a0 c.w O s.heap v d):a0 c.w O' s'.heap v d:=a0.kept (Kept.ok x hW) hO r
theorem aB.yM(x:aB c W G s s'){v:List (Str×ag)}{d:List (Str×D)}(hW:tC W O s)(hO:nM O O' s)(r:ez c.w O s.heap v d):ez c.w O' s'.heap v d:=ez.kept (Kept.ok x hW) hO r
theorem aB.Km(x:aB c W G s s'){v:List (Int×ag)}{d:List (Int×D)}(hW:tC W O s)(hO:nM O O' s)(r:lN c.w O s.heap v d):lN c.w O' s'.heap v d:=lN.kept (Kept.ok x hW) hO r
theorem aB.isList(x:aB c W G s s'){a:Addr}{vs}(hW:a∉W):s.heap.IsList a vs→s'.heap.IsList a vs:= λ w0=>by refine nO w0 ?_;clear w0;intro o ho hc n hd;exact⟨o,x.keep _ _ hW ho (c8 hd),hc,n,hd⟩
theorem aB.jh(x:aB c W G s s'){a:Addr}{vs}(hW:a∉W):eB s.heap a vs→eB s'.heap a vs:= λ w0=>bO w0 λ o n ho hc xK hd=>⟨o,n,x.keep _ _ hW ho (c8 hd),hc,xK,hd⟩
theorem aB.isTup(x:aB c W G s s'){a:Addr}{vs}(hW:a∉W):lQ s.heap a vs→lQ s'.heap a vs:= λ w0=>by refine nO w0 ?_;clear w0;intro o ho hc n hd;exact⟨o,x.keep _ _ hW ho (c8 hd),hc,n,hd⟩
theorem aB.intMap(x:aB c W G s s'){a:Addr}{f}(hW:a∉W):s.heap.IntMap a f→s'.heap.IntMap a f:= λ w0=>cJ w0 λ o es ep ho hc hd r=>⟨o,es,ep,x.keep _ _ hW ho (cP hd),hc,hd,r⟩
theorem aB.FC(x:aB c W G s s'){a:Addr}{f n}(hW:a∉W):s.heap.IntMap a f→s.heap.DictLe a n→s'.heap.DictLe a n:= λ w0 hl=>by refine cJ w0 ?_;clear w0;intro o es ep ho hc hd r;exact hl.of_same ho (x.keep _ _ hW ho (cP hd))
theorem aB.own(x:aB c W G s s'){v:ag}{q:OD}{fp:List Addr}(hW:tC W O s)(hO:nM O O' s)(hf:∀a∈fp,a∉W)(ht:∀a∈fp,∀o,s.heap.get? a=some o→qE o=false∨s'.heap.get? a=some o)(r:cT c O s.heap v q fp):cT c O' s'.heap v q fp:=by
 cases q with
 |lst ds=>exact bO r λ a vs z1 z2 e r=>⟨a,vs,z1,z2,x.jh (hf a (z2▸ .head _)) e,x.fk hW hO r⟩
 |dm xs=>exact cJ r λ a ts n z1 z2 e r=>⟨a,ts,n,z1,z2,x.keep _ _ (hf a (z2▸ .head _)) e (bW nofun),r⟩
 |k8 k st=>exact cJ r λ a es n z1 z2 e r=>⟨a,es,n,z1,z2,x.keep _ _ (hf a (z2▸ .head _)) e (bW nofun),r.1,bP.kept (Kept.ok x hW) hO r.2⟩
 |dJ n sQ=>exact cJ r λ a f ps z1 z2 e r=>⟨a,f,ps,z1,z2,x.intMap (hf a (z2▸ .head _)) e,x.FC (hf a (z2▸ .head _)) e r.1,r.2.1,x.Km hW hO r.2.2⟩
 |inst u k fs=>exact iu r λ a dx es zh=>bO zh λ n ps z1 z2 hu zh=>cg zh λ ku e e' zh=>⟨a,dx,es,n,ps,z1,z2,hu,ku,x.keep _ _ (hf a (z2▸ .head _)) e (bW nofun),x.keep _ _ (hf dx (z2▸ .tail _ (.head _))) e' (cP rfl),zh.1,zh.2.1,x.yM hW hO zh.2.2⟩
 |ka u k fs y ds=>exact iu r λ a dx l zh=>iu zh λ es n ps zh=>eE zh λ vs z1 z2 hu zh=>cg zh λ h1 h2 h3 zh=>cg zh λ e e' hz zh=>cg zh λ hm r Tv r'=>
  ⟨a,dx,l,es,n,ps,vs,z1,z2,hu,h1,h2,h3,x.keep _ _ (hf a (z2▸ .head _)) e (bW nofun),x.keep _ _ (hf dx (z2▸ .tail _ (.head _))) e' (cP rfl),hz,hm,x.yM hW hO r,x.jh (hf l (z2▸ .tail _ (.tail _ (.head _)))) Tv,x.fk hW hO r'⟩
 |raw P=>
  refine xa r ?_;clear r;intro p st;have h1:∀a∈fp,∀o,s.heap.get? a=some o→s'.heap.get? a=some o:= λ a ha o e=>(ht a ha o e).elim (λ ht=>x.keep _ _ (hf a ha) e ht) id;have Qm:=Kept.ok x hW;exact⟨st O' _ Qm hO h1,λ BB cM k₂ QR Ta=>st BB cM ⟨af Qm.1 k₂.1,λ a o ha e ht=>k₂.2 a o (λ hm=>(hO a hm).elim ha λ hl=>ak _ (ab (aI e) hl)) (Qm.2 a o ha e ht) ht⟩
   (λ a hm=>(QR a hm).elim (hO a) λ hl=>.inr (af Qm.1 hl)) λ a ha o e=>Ta a ha o (h1 a ha o e)⟩
theorem aB.bound(x:aB c W G s s'){E:VE}{y:Str}{v:ag}(hL:E.env.locals∉W)(hC:∀p∈E.env.cells,p.2∉W)(b:Bound s.heap E.env y v):Bound s'.heap E.env y v:=
 ⟨λ h=>let⟨m,hn,e⟩:=b.1 h; ⟨m,x.ns hL hn,e⟩,λ h=>let⟨a,e,hc⟩:=b.2 h; ⟨a,e,x.cell (hC _ (bu e)) hc⟩⟩
end
theorem aB.get(x:aB c W G s s'){a:Addr}{o:Obj}(hW:a∉W)(hT:∀p∈c.tabs,p.2≠a)(e:s.heap.get? a=some o):s'.heap.get? a=some o:=by
 cases ht:qE o with
 |false=>exact x.keep a o hW e ht
 |true=>
  rcases x.tab a o e ht with h|⟨⟨p,hp,h⟩,_⟩
  ·exact h
  ·exact absurd h (hT p hp)
theorem aB.comp{c:Cx}{W W':List Addr}{G G':List Nat}{s₀ s s':ae}(x:aB c W G s₀ s)(y:aB c W' G' s s')(hW:∀a∈W',a∈W∨s₀.heap.objs.size≤a)(hG:∀g∈G',g∈G∨s₀.gens.size≤g):aB c W G s₀ s' where
 size:=af x.size y.size
 keep:= λ a o ha e ht=>y.keep a o (λ hm=>(hW a hm).elim ha λ h=>ak _ (ab (aI e) h)) (x.keep a o ha e ht) ht
 tab:= λ a o e ht=>by
  rcases x.tab a o e ht with e1|⟨hp,vs,more,rfl,e1⟩
  ·exact y.tab a o e1 ht
  ·rcases y.tab a _ e1 rfl with e2|⟨_,i7,Fe,e3,e2⟩
   ·exact .inr ⟨hp,vs,more,rfl,e2⟩
   ·have:i7=vs++more:=by injection e3 with _ _ h;injection h with h;exact h.symm
    subst this;exact .inr ⟨hp,vs,more++Fe,rfl,by rw[e2,Array.append_assoc]⟩
 gens:= λ g z ha e=>y.gens g z (λ hm=>(hG g hm).elim ha λ h=>ak _ (ab (rL e) h)) (x.gens g z ha e)
 dv:=af x.dv y.dv
 os:=y.os.trans x.os
section
variable {c:Cx}{E:VE}{β:dH}{O O' W:List Addr}{G:List Nat}{ad:Nat→List Addr}{ρ:List Sl}{s s':ae}
theorem Inv.E9(I:Inv c E β O ad ρ s){a:Addr}(h:a∈O):∀p∈c.tabs,p.2≠a:= λ p hp e=>by
 have:=(I.br.ok.KJ p hp).2;exact ak _ (ab this (e▸I.low a h))
theorem Inv.apart(I:Inv c E β O ad ρ s)(x:aB c W G s s')(S:bF c s')(hW:tC W O s)(hw:∀a∈W,BD β a)(hG:∀g∈G,g∈β.G∨β.s.gens.size≤g)(hL:E.env.locals∉W)(hC:∀p∈E.env.cells,p.2∉W)(hV:∀i,i<E.vn.length→∀a∈ad i,a∉W)(hO:∀a∈O',a∈O∨(s.heap.objs.size≤a∧a<s'.heap.objs.size))(hs:∀a∈O,a∈O'):Inv c E β O' ad ρ s' where
 ok:=I.ok
 br:=S
 grow:=I.grow.comp x hw hG
 lt:= λ a h=>(hO a h).elim (λ h=>ab (I.lt a h) x.size) And.right
 low:= λ a h=>(hO a h).elim (λ h=>I.low a h) λ h=>af I.br.size h.1
 sub:= λ a h=>hs a (I.sub a h)
 n8:=I.n8
 new:= λ a h=>(hO a h).elim (I.new a) λ h=>.inr (af I.grow.size h.1)
 ns:=let⟨m,hn⟩:=I.ns; ⟨m,x.ns hL hn⟩
 cells:= λ y hy hk=>let⟨a,v,e,hc⟩:=I.cells y hy hk; ⟨a,v,e,x.cell (hC _ (bu e)) hc⟩
 uG:=hs _ I.uG
 tu:= λ p h=>hs _ (I.tu p h)
 CG:=I.CG
 CH:=I.CH
 mG:=I.mG
 out:=I.out
 vars:= λ i y hi=>by
  have Dy:nM O O' s:= λ a h=>(hO a h).imp id And.left;have gE:=(aw.mp hi).1;have:=I.vars i y hi;cases hr:ρ.getD i .no with
  |no=>rw[hr]at this;exact this
  |val d=>
   rw[hr]at this;refine mq this ?_;clear this;intro e v b r;exact⟨e,v,x.bound hL hC b,x.rep hW Dy r⟩
  |own m q=>
   rw[hr]at this;refine cI this ?_;clear this;intro v b r k;exact⟨v,x.bound hL hC b,x.own hW Dy (hV i gE) (λ a ha o e=>.inr (x.get (hV i gE a ha) (I.E9 (k a ha).1) e)) r,
    λ a ha=>⟨hs _ (k a ha).1,(k a ha).2.1,(k a ha).2.2.1,(k a ha).2.2.2.1,(k a ha).2.2.2.2.1,ab (k a ha).2.2.2.2.2 x.size⟩⟩
theorem Inv.fU(I:Inv c E β O ad ρ s)(x:aB c [] [] s s')(S:bF c s'):Inv c E β O ad ρ s':=
 I.apart x S (λ z=>nn) (λ z=>nn) (λ z=>nn) (by simp) (by simp) (λ z z z z=>nn) (λ z h=>.inl h) λ z h=>h
theorem Inv.ua(I:Inv c E β O ad ρ s)(x:aB c [] [] s s')(S:bF c s')(hW:∀a∈W,s.heap.objs.size≤a∧a<s'.heap.objs.size):Inv c E β (W++O) ad ρ s':=
 I.apart x S (λ z=>nn) (λ z=>nn) (λ z=>nn) (by simp) (by simp) (λ z z z z=>nn) (λ a h=>(aC.mp h).elim (λ h=>.inr (hW a h)) .inl) λ z h=>ao _ h
structure Ok(c:Cx)(O:List Addr)(s:ae):Prop where
 br:bF c s
 lt:∀a∈O,a<s.heap.objs.size
 low:∀a∈O,c.B≤a
theorem Inv.o(I:Inv c E β O ad ρ s):Ok c O s:=⟨I.br,I.lt,I.low⟩
theorem Ok.fU(K:Ok c O s)(x:aB c W G s s')(S:bF c s'):Ok c O s':=⟨S,λ a h=>ab (K.lt a h) x.size,K.low⟩
theorem Ok.next(K:Ok c O s):s.heap.objs.size∉O:= λ h=>ak _ (K.lt _ h)
structure JR(c:Cx)(β jV:dH):Prop where
 grow:aB c β.W β.G β.s jV.s
 O:∀a∈β.O,a∈jV.O
 n8:∀a∈β.O,a<β.s.heap.objs.size
 N:∀a∈jV.N,a∈β.N∨β.s.heap.objs.size≤a
 W:∀a∈jV.W,BD β a
 G:∀g∈jV.G,g∈β.G∨β.s.gens.size≤g
theorem JR.may{jV:dH}(u:JR c β jV){a:Addr}(h:BD jV a):BD β a:=h.elim (u.W a) λ h=>.inr (af u.grow.size h)
theorem JR.up{jV:dH}(u:JR c β jV)(I:Inv c E jV O ad ρ s):Inv c E β O ad ρ s where
 ok:=I.ok
 br:=I.br
 grow:=u.grow.comp I.grow u.W u.G
 lt:=I.lt
 low:=I.low
 sub:= λ a h=>I.sub a (u.O a h)
 n8:=u.n8
 new:= λ a h=>(I.new a h).elim (u.N a) λ h=>.inr (af u.grow.size h)
 ns:=I.ns
 cells:=I.cells
 uG:=I.uG
 tu:=I.tu
 CG:=u.may I.CG
 CH:= λ i x a h1 h2 h3 h4=>u.may (I.CH i x a h1 h2 h3 h4)
 mG:=I.mG
 out:=I.out
 vars:= λ i y hi=>by
  have:=I.vars i y hi;cases hr:ρ.getD i .no with
  |no=>rw[hr]at this;exact this
  |val d=>rw[hr]at this;exact this
  |own m q=>
   rw[hr]at this;refine cI this ?_;clear this;intro v b r k;exact⟨v,b,r,λ a ha=>⟨(k a ha).1,(k a ha).2.1,(k a ha).2.2.1,λ hm=>u.may ((k a ha).2.2.2.1 hm),λ ho=>(k a ha).2.2.2.2.1 (u.O a ho),(k a ha).2.2.2.2.2⟩⟩
noncomputable def TU(E:VE)(ad:Nat→List Addr)(ρ:List Sl)(a:Addr):Prop:=
 (∃i x,i<E.k∧E.vn[i]? =some x∧E.env.kindOf x≠some .local∧E.env.cells.lookup x=some a)∨
  ∃i x q,E.vn[i]? =some x∧ρ.getD i .no=.own true q∧a∈ad i
noncomputable def QI(E:VE)(ad:Nat→List Addr)(ρ:List Sl):List Addr:=
 E.env.locals::(E.env.cells.map Prod.snd++(ay E.vn.length).flatMap ad).filter λ a=>@decide (TU E ad ρ a) (w4 _)
theorem GN{E:VE}{ad:Nat→List Addr}{ρ:List Sl}{a:Addr}(h:TU E ad ρ a):a∈QI E ad ρ:=by
 refine .tail _ (aN.mpr ⟨aC.mpr ?_,@decide_eq_true _ (w4 _) h⟩);refine h.imp (λ h=>?_) λ h=>?_
 ·refine bO h λ i x z z z h4=>?_;exact aL.mpr ⟨_,bu h4,rfl⟩
 ·refine xe h λ i h=>?_;refine dj h λ x q h1 z h3=>?_;exact kZ.mpr ⟨i,aM.mpr (aw.mp h1).1,h3⟩
theorem LL{E:VE}{ad:Nat→List Addr}{ρ:List Sl}{a:Addr}(h:a∈QI E ad ρ):a=E.env.locals∨TU E ad ρ a:=
 (aD.mp h).imp_right λ h=>by
  have:=(aN.mp h).2;exact @of_decide_eq_true _ (_) this
theorem Inv.anchor(I:Inv c E β O ad ρ s){F:List Addr}(hF:∀a∈F,a∈O)(hL:E.env.locals∉F)(hC:∀p∈E.env.cells,p.2∉F)(hV:∀i,i<E.vn.length→∀a∈ad i,a∉F):
  ∃jV,jV.s=s∧JR c β jV∧Inv c E jV O ad ρ s∧(∀a∈jV.W,a∉F∧a∈O)∧jV.G=[]∧(∀a∈F,a∈jV.O)∧(∀a∈jV.N,a∈O):=by
 have hQ:∀a∈QI E ad ρ,BD β a∧a∉F∧a∈O:=by
  intro a h
  rcases LL h with rfl|h
  ·exact⟨I.CG,hL,I.uG⟩
  rcases h with h|h
  ·refine bO h λ i x h1 h2 h3 h4=>?_;exact⟨I.CH i x a h1 h2 h3 h4,hC _ (bu h4),I.tu _ (bu h4)⟩
  ·refine xe h λ i h=>?_;refine dj h λ x q h1 h2 h3=>?_;have:=I.vars i x h1;rw[h2]at this;refine cI this λ v b r k=>?_;exact⟨(k a h3).2.2.2.1 rfl,hV i (aw.mp h1).1 a h3,(k a h3).1⟩
 refine⟨⟨s,F++β.O,O,QI E ad ρ,[]⟩,rfl,⟨I.grow,λ a h=>ao _ h,I.n8,I.new,λ a h=>(hQ a h).1,λ z=>nn⟩,?_,λ a h=>(hQ a h).2,rfl,λ a h=>aF _ h,λ z h=>h⟩;refine⟨I.ok,I.br,.refl ..,I.lt,I.low,?_,?_,λ z h=>.inl h,I.ns,I.cells,I.uG,I.tu,.inl (.head _),?_,λ i y hi=>?_,I.mG,I.out⟩
 ·exact λ a h=>(aC.mp h).elim (hF a) (I.sub a)
 ·exact λ a h=>(aC.mp h).elim (λ h=>I.lt a (hF a h)) λ h=>ab (I.n8 a h) I.grow.size
 ·exact λ i x a h1 h2 h3 h4=>.inl (GN (.inl ⟨i,x,h1,h2,h3,h4⟩))
 ·have:=I.vars i y hi;cases hr:ρ.getD i .no with
  |no=>rw[hr]at this;exact this
  |val d=>rw[hr]at this;exact this
  |own m q=>
   rw[hr]at this;refine cI this λ v b r k=>?_;exact⟨v,b,r,λ a ha=>⟨(k a ha).1,(k a ha).2.1,(k a ha).2.2.1,λ hm=>.inl (GN (.inr ⟨i,y,q,hi,hm▸hr,ha⟩)),λ ho=>(aC.mp ho).elim (hV i (aw.mp hi).1 a ha) (k a ha).2.2.2.2.1,(k a ha).2.2.2.2.2⟩⟩
end
theorem aB.rep0{c:Cx}{G:List Nat}{O:List Addr}{s s':ae}(x:aB c [] G s s'){v:ag}{d:D}(r:bh c.w O s.heap v d):bh c.w O s'.heap v d:=x.rep (λ z=>nn) (nM.refl O s) r
theorem aB.j_{c:Cx}{G:List Nat}{O:List Addr}{s s':ae}(x:aB c [] G s s'){v:List ag}{d:List D}(r:a0 c.w O s.heap v d):a0 c.w O s'.heap v d:=x.fk (λ z=>nn) (nM.refl O s) r
theorem aB.Jd{c:Cx}{G:List Nat}{O:List Addr}{s s':ae}(x:aB c [] G s s'){v:List (Str×ag)}{d:List (Str×D)}(r:ez c.w O s.heap v d):ez c.w O s'.heap v d:=x.yM (λ z=>nn) (nM.refl O s) r
noncomputable def Res(c:Cx)(O:List Addr)(s:ae)(d:D)(v:ag)(s':ae):Prop:=aB c [] [] s s'∧bF c s'∧bh c.w O s'.heap v d
noncomputable abbrev aZ:ag→ae→Prop:= λ z z=>False
noncomputable def Ev(c:Cx)(n:Nat)(E:VE)(ρ:List Sl)(e:Expr)(d:D):Prop:=
 ∀(A:aK) (β:dH) (O:List Addr) (ad:Nat→List Addr) (s:ae),Rm A n→Inv c E β O ad ρ s→wpAny (model c.prog c.w) A (eval e E.env) (Res c O s d) aZ s
noncomputable def cn(c:Cx)(n:Nat)(E:VE)(ρ:List Sl)(es:List Expr)(ds:List D):Prop:=
 es.length=ds.length∧∀(A:aK) (β:dH) (O:List Addr) (ad:Nat→List Addr) (s:ae) (pos:Pos),Rm A n→Inv c E β O ad ρ s→
  wpAny (model c.prog c.w) A (spliced (backTo pos (starEach es E.env))) (λ vs s'=>aB c [] [] s s'∧bF c s'∧a0 c.w O s'.heap vs ds) aZ s
noncomputable def Tr(c:Cx)(n:Nat)(E:VE)(ρ:List Sl)(e:Expr)(b:Bool):Prop:=
 ∀(A:aK) (β:dH) (O:List Addr) (ad:Nat→List Addr) (s:ae),Rm A n→Inv c E β O ad ρ s→wpAny (model c.prog c.w) A (isTrue e E.env (eval e E.env)) (λ b' s'=>b'=b∧aB c [] [] s s'∧bF c s') aZ s
noncomputable def gH(c:Cx)(n:Nat)(op:mf)(d₁ d₂ d:D):Prop:=
 ∀(A:aK) (O:List Addr) (s:ae) (eQ eO:ag),Rm A n→Ok c O s→bh c.w O s.heap eQ d₁→bh c.w O s.heap eO d₂→wpAny (model c.prog c.w) A (binaryOp op eQ eO) (Res c O s d) aZ s
noncomputable def cC(c:Cx)(n:Nat)(op:CmpOp)(d₁ d₂:D)(b:Bool):Prop:=
 ∀(A:aK) (O:List Addr) (s:ae) (eQ eO:ag),Rm A n→Ok c O s→bh c.w O s.heap eQ d₁→bh c.w O s.heap eO d₂→wpAny (model c.prog c.w) A (compareOp op eQ eO) (Res c O s (.bool b)) aZ s
noncomputable def Sub(c:Cx)(n:Nat)(d₁ d₂ d:D):Prop:=
 ∀(A:aK) (O:List Addr) (s:ae) (value slice:Expr) (eQ eO:ag),Rm A n→Ok c O s→(∀l u t p,slice≠.Slice l u t p)→bh c.w O s.heap eQ d₁→bh c.w O s.heap eO d₂→
  wpAny (model c.prog c.w) A (subscriptTail value slice eQ eO) (Res c O s d) aZ s
noncomputable def kA(c:Cx)(n:Nat)(d:D)(b:Bool):Prop:=
 ∀(A:aK) (O:List Addr) (s:ae) (v:ag),Rm A n→Ok c O s→bh c.w O s.heap v d→wpAny (model c.prog c.w) A (truthy v) (λ b' s'=>b'=b∧aB c [] [] s s'∧bF c s') aZ s
noncomputable def Fn(c:Cx)(n:Nat)(f:ag)(ds:List D)(kws:List (Str×D))(d:D):Prop:=
 ∀(A:aK) (O:List Addr) (s:ae) (vs:List ag) (ks:List (Str×ag)),Rm A n→Ok c O s→a0 c.w O s.heap vs ds→ez c.w O s.heap ks kws→wpAny (model c.prog c.w) A (call f vs ks) (Res c O s d) aZ s
section
variable {c:Cx}{n:Nat}{E:VE}{ρ:List Sl}
theorem Res.here{O:List Addr}{s:ae}{d:D}{v:ag}(S:bF c s)(r:bh c.w O s.heap v d):Res c O s d v s:=⟨.refl ..,S,r⟩
theorem Res.tok{O:List Addr}{s:ae}{d:D}{v:ag}{t:Nat}(S:bF c s)(r:bh c.w O s.heap v d):Res c O s d v {s with toks:=t}:=⟨(aB.refl ..).toks,S.toks,r⟩
theorem Res.after{O:List Addr}{s s' k_:ae}{d:D}{v:ag}(x:aB c [] [] s s')(r:Res c O s' d v k_):Res c O s d v k_:=⟨x.trans r.1,r.2⟩
theorem Ev.go{e:Expr}{d:D}(h:Ev c n E ρ e d){A:aK}{β:dH}{O:List Addr}{ad:Nat→List Addr}{s:ae}(R:Rm A n)(I:Inv c E β O ad ρ s){Q:ag→ae→Prop}{X:ag→ae→Prop}(k:∀v s',aB c [] [] s s'→Inv c E β O ad ρ s'→bh c.w O s'.heap v d→Q v s'):wpAny (model c.prog c.w) A (eval e E.env) Q X s:=
 wm (h A β O ad s R I) λ v s' r=>k v s' r.1 (I.fU r.1 r.2.1) r.2.2
theorem Tr.go{e:Expr}{b:Bool}(h:Tr c n E ρ e b){A:aK}{β:dH}{O:List Addr}{ad:Nat→List Addr}{s:ae}(R:Rm A n)(I:Inv c E β O ad ρ s){Q:Bool→ae→Prop}{X:ag→ae→Prop}(k:∀s',aB c [] [] s s'→Inv c E β O ad ρ s'→Q b s'):wpAny (model c.prog c.w) A (isTrue e E.env (eval e E.env)) Q X s:=
 wm (h A β O ad s R I) λ b' s' r=>by refine jH r ?_;clear r;intro z1 x S;subst z1;exact k s' x (I.fU x S)
theorem Ev.nm(i:Nat){x:Str}{pos:Pos}{d:D}(hx:E.vn[i]? =some x)(dP:ρ[i]? =some (Sl.val d)):Ev c n E ρ (.Name x pos) d:= λ A β O ad s R I=>by
 have h1:=I.vars i x hx;rw[show ρ.getD i .no=.val d by rw[ai,dP];rfl]at h1;refine mq h1 ?_;clear h1;intro z v b r;have hm:=bw hx;refine vS ?_ (I.ok.JI x hm).1
 rcases I.ok.var x hm with hl|⟨hl,_⟩
 ·refine c0 (b.1 hl) λ m hn e=>?_;exact f7 I.ok.kind hl hn e (Res.here I.br r)
 ·have ku:E.env.kindOf x≠some .local:=by rcases hl with h|h<;>rw[h]<;>trivial
  refine c0 (b.2 ku) λ a e hc=>?_
  rcases hl with hl|hl
  ·exact mQ I.ok.kind hl e hc (Res.here I.br r)
  ·exact mP I.ok.kind hl e hc (Res.here I.br r) (I.ok.JI x hm).2
theorem Ev.int{i:Int}{k:Nat}{pos:Pos}:Ev c n E ρ (.Constant (.int i) k pos) (.int i):= λ A β O ad s R I=>
 wpAny_Constant_int (Res.tok I.br (by exact⟨_,rfl⟩))
theorem Ev.nA{x:Str}{k:Nat}{pos:Pos}:Ev c n E ρ (.Constant (.str x) k pos) (.str x):= λ A β O ad s R I=>
 iA (Res.tok I.br (by exact⟨_,rfl⟩))
theorem Ev.GC{b:Bool}{k:Nat}{pos:Pos}:Ev c n E ρ (.Constant (.bool b) k pos) (.bool b):= λ A β O ad s R I=>
 wpAny_Constant_bool (Res.here I.br (by rfl))
theorem Ev.lF{k:Nat}{pos:Pos}:Ev c n E ρ (.Constant .none k pos) .none:= λ A β O ad s R I=>
 wpAny_Constant_none (Res.here I.br (by rfl))
theorem Ev.bin{l r:Expr}{op:mf}{pos:Pos}{d₁ d₂ d:D}(ct:Ev c n E ρ l d₁)(cM:Ev c n E ρ r d₂)(h:gH c n op d₁ d₂ d):Ev c n E ρ (.BinOp l op r pos) d:= λ A β O ad s R I=>
 wpAny_BinOp (ct.go R I λ v au cZ bj bC=>cM.go R bj λ u aH cF cu bx=>
  wm (h A O aH v u R cu.o (cF.rep0 bC) bx) λ z z q=>q.after (cZ.trans cF))
theorem Ev.cmp{l r:Expr}{op:CmpOp}{pos:Pos}{d₁ d₂:D}{b:Bool}(ct:Ev c n E ρ l d₁)(cM:Ev c n E ρ r d₂)(h:cC c n op d₁ d₂ b)(hm:autoParam (behindInMarks op r=false) rf):Ev c n E ρ (.Compare l [op] [r] pos) (.bool b):=
 λ A β O ad s R I=>wpAny_Compare1 (ct.go R I λ v au cZ bj bC=>cM.go R bj λ u aH cF cu bx=>
  wm (h A O aH v u R cu.o (cF.rep0 bC) bx) λ z z q=>q.after (cZ.trans cF)) hm
theorem Tr.cmp{l r:Expr}{op:CmpOp}{pos:Pos}{d₁ d₂:D}{b:Bool}(ct:Ev c n E ρ l d₁)(cM:Ev c n E ρ r d₂)(h:cC c n op d₁ d₂ b)(hm:autoParam (behindInMarks op r=false) rf):Tr c n E ρ (.Compare l [op] [r] pos) b:=
 λ A β O ad s R I=>wpAny_isTrue_Compare1 (ct.go R I λ v au cZ bj bC=>cM.go R bj λ u aH cF cu bx=>
  wm (h A O aH v u R cu.o (cF.rep0 bC) bx) λ w cq q=>by
   have q3:=q.2.2;subst q3;exact iV ⟨rfl,(cZ.trans cF).trans q.1,q.2.1⟩) hm
theorem Tr.val{e:Expr}{d:D}{b:Bool}(ct:Ev c n E ρ e d)(h:kA c n d b)(hv:∀env whole,PySem.isTrue e env whole=(do let v ← whole;standAt e.pos;holding [v] (truthy v)):=by intros;rfl):Tr c n E ρ e b:= λ A β O ad s R I=>
 wpAny_isTrue_value (ct.go R I λ v au cZ bj bC=>wm (h A O au v R bj.o bC) λ z z q=>⟨q.1,cZ.trans q.2.1,q.2.2⟩) (hv _ _)
theorem Tr.not{e:Expr}{pos:Pos}{b:Bool}(h:Tr c n E ρ e b):Tr c n E ρ (.UnaryOp .Not e pos) (!b):= λ A β O ad s R I=>
 wpAny_isTrue_Not (h.go R I λ au x bj=>⟨rfl,x,bj.br⟩)
theorem Tr.qN{e f:Expr}{pos:Pos}{b b':Bool}(h:Tr c n E ρ e b)(h':b=true→Tr c n E ρ f b'):Tr c n E ρ (.BoolOp .And [e,f] pos) (b&&b'):= λ A β O ad s R I=>by
 refine u9 (wpAny_allTrue_And_cons (h.go R I λ au x bj=>?_));cases b with
 |false=>simp only[aR,if_false];exact⟨by trivial,x,bj.br⟩
 |true=>
  simp only[if_true,Bool.true_and];refine wpAny_allTrue_And_cons ((h' rfl).go R bj λ aH cF cu=>?_);cases b' with
  |false=>simp only[aR,if_false];exact⟨by trivial,x.trans cF,cu.br⟩
  |true=>simp only[if_true];exact wpAny_allTrue_And_nil ⟨by trivial,x.trans cF,cu.br⟩
theorem Tr.LY{e f:Expr}{pos:Pos}{b b':Bool}(h:Tr c n E ρ e b)(h':b=false→Tr c n E ρ f b'):Tr c n E ρ (.BoolOp .Or [e,f] pos) (b||b'):= λ A β O ad s R I=>by
 refine u9 (iS (h.go R I λ au x bj=>?_));cases b with
 |true=>simp only[if_true];exact⟨by trivial,x,bj.br⟩
 |false=>
  simp only[aR,if_false,AA];refine iS ((h' rfl).go R bj λ aH cF cu=>?_);cases b' with
  |true=>simp only[if_true];exact⟨by trivial,x.trans cF,cu.br⟩
  |false=>simp only[aR,if_false];exact wpAny_allTrue_Or_nil ⟨by trivial,x.trans cF,cu.br⟩
theorem Ev.ite{t a b:Expr}{pos:Pos}{p:Bool}{d₁ d₂:D}(h:Tr c n E ρ t p)(ct:p=true→Ev c n E ρ a d₁)(cM:p=false→Ev c n E ρ b d₂):Ev c n E ρ (.IfExp t a b pos) (if p then d₁ else d₂):= λ A β O ad s R I=>by
 refine wpAny_IfExp (h.go R I λ au x bj=>?_);cases p with
 |true=>simp only[if_true];exact(ct rfl).go R bj λ v aH cF cu r=>⟨x.trans cF,cu.br,r⟩
 |false=>simp only[aR,if_false];exact(cM rfl).go R bj λ v aH cF cu r=>⟨x.trans cF,cu.br,r⟩
theorem Ev.LY{e f:Expr}{pos:Pos}{p:Bool}{d₁ d₂:D}(h:Ev c n E ρ e d₁)(ht:kA c n d₁ p)(cM:p=false→Ev c n E ρ f d₂):Ev c n E ρ (.BoolOp .Or [e,f] pos) (if p then d₁ else d₂):= λ A β O ad s R I=>by
 refine wpAny_Or2 (h.go R I λ v au x bj r=>wm (ht A O au v R bj.o r) λ b' aH q=>?_);obtain⟨rfl,cF,S⟩:=q;have cu:=bj.fU cF S;cases b' with
 |true=>simp only[if_true];exact⟨x.trans cF,S,cF.rep0 r⟩
 |false=>simp only[aR,if_false];exact(cM rfl).go R cu λ v cq qe jT r=>⟨(x.trans cF).trans qe,jT.br,r⟩
theorem cn.nil:cn c n E ρ [] []:=⟨rfl,λ A β O ad s pos R I=>BF ⟨.refl ..,I.br,by trivial⟩⟩
theorem cn.cons{e:Expr}{es:List Expr}{d:D}{ds:List D}(h:Ev c n E ρ e d)(t:cn c n E ρ es ds)(hs:∀env,starEach (e::es) env=(false,eval e env)::starEach es env:=by intros;rfl):cn c n E ρ (e::es) (d::ds):=
 ⟨by rw[aJ,aJ,t.1],λ A β O ad s pos R I=>z5 (h.go R I λ v au x bj r=>wm (t.2 A β O ad au pos R bj) λ vs aH q=>⟨x.trans q.1,q.2.1,by
  exact⟨q.1.rep0 r,q.2.2⟩⟩) (hs _)⟩
theorem a0.length{w:a9}{O:List Addr}{h:Heap}{vs:List ag}{ds:List D}(r:a0 w O h vs ds):vs.length=ds.length:=
 r.ind rfl λ z z z z z z ih=>congrArg u4 ih
theorem Res.Kz{O:List Addr}{s au:ae}{vs:List ag}{ds:List D}(K:Ok c O s)(x:aB c [] [] s au)(S:bF c au)(r:a0 c.w O au.heap vs ds):
  Res c O s (.tup ds) (.ref au.heap.objs.size) {au with heap:=au.heap.push (Ew vs 0)}:=
 ⟨x.trans aB.push,S.push,by
  exact⟨_,vs,rfl,(K.fU x S).next,⟨_,av _ rfl,rfl,0,rfl⟩,(aB.push (c:=c) (G:=[]) (tk:=au.toks)).j_ r⟩⟩
theorem Res.KA{O:List Addr}{s au:ae}{vs:List ag}{ds:List D}(K:Ok c O s)(x:aB c [] [] s au)(S:bF c au)(r:a0 c.w O au.heap vs ds):
  Res c O s (.lst ds) (.ref au.heap.objs.size) {au with heap:=au.heap.push (bR vs 0)}:=
 ⟨x.trans aB.push,S.push,by
  exact⟨_,vs,rfl,(K.fU x S).next,⟨_,0,av _ rfl,rfl,rfl,rfl⟩,(aB.push (c:=c) (G:=[]) (tk:=au.toks)).j_ r⟩⟩
theorem cR{k:Nat}(h:k≤1000):k≤sizeLine:=by rw[cH];exact af h (aG _ _)
theorem Ev.tup{es:List Expr}{k:Nat}{pos:Pos}{ds:List D}(h:cn c n E ρ es ds)(hl:autoParam (jv ds.length 1000=true) rf):Ev c n E ρ (.Tuple es k pos) (.tup ds):= λ A β O ad s R I=>
 wpAny_Tuple (wm (h.2 A β O ad s pos R I) λ vs au q=>⟨cR (by rw[q.2.2.length];exact et hl),Res.Kz I.o q.1 q.2.1 q.2.2⟩)
theorem Ev.lst{es:List Expr}{pos:Pos}{ds:List D}(h:cn c n E ρ es ds)(hl:autoParam (jv ds.length 1000=true) rf):Ev c n E ρ (.List es pos) (.lst ds):= λ A β O ad s R I=>
 wpAny_List (wm (h.2 A β O ad s pos R I) λ vs au q=>⟨cR (by rw[q.2.2.length];exact et hl),Res.KA I.o q.1 q.2.1 q.2.2⟩)
end
theorem Ns.same{h:Heap}{a:Addr}{m m':Str→Option ag}(x:h.Ns a m)(y:h.Ns a m')(n:Str):m n=m' n:=by
 refine cJ x ?_;clear x;intro o es ep ho hd z e;refine cJ y ?_;clear y;intro o' rP X2 nj iQ z e';rw[ho]at nj;cases nj;rw[hd]at iQ;cases iQ;rw[← e,← e']
theorem wu{l:List Str}(h:l.Nodup){i j:Nat}(hi:i<l.length)(hj:j<l.length)(e:l[i]=l[j]):i=j:=by
 have h:=Ai.mp h
 rcases vd i j with gE|he|Sn
 ·exact absurd e (h i j hi hj gE)
 ·exact he
 ·exact absurd e.symm (h j i hj hi Sn)
noncomputable def pj(c:Cx)(E:VE)(β:dH)(O:List Addr)(s:ae):Sl→ag→List Addr→Prop
 |.no,_,fp=>fp=[]
 |.val d,v,fp=>fp=[]∧bh c.w O s.heap v d
 |.own m q,v,fp=>cT c O s.heap v q fp∧∀a∈fp,a∈O∧a≠E.env.locals∧(∀p∈E.env.cells,p.2≠a)∧(m=true→BD β a)∧a∉β.O∧a<s.heap.objs.size
section
variable {c:Cx}{n:Nat}{E:VE}{β:dH}{O O' W:List Addr}{G:List Nat}{ad:Nat→List Addr}{ρ:List Sl}{s s':ae}{A:aK}
theorem pj.grow{sl:Sl}{v:ag}{fp:List Addr}(K:Ok c O s)(h:pj c E β O s sl v fp)(x:aB c W G s s')(hW:tC W O s)(hf:∀a∈fp,a∉W):pj c E β O s' sl v fp:=by
 cases sl with
 |no=>exact h
 |val d=>exact⟨h.1,x.rep hW (.refl O s) h.2⟩
 |own m q=>
  refine xa h ?_;clear h;intro r k;refine⟨x.own hW (.refl O s) hf (λ a ha o e=>.inr (x.get (hf a ha) (λ p hp e'=>?_) e)) r,λ a ha=>⟨(k a ha).1,(k a ha).2.1,(k a ha).2.2.1,(k a ha).2.2.2.1,(k a ha).2.2.2.2.1,ab (k a ha).2.2.2.2.2 x.size⟩⟩;have:=(K.br.ok.KJ p hp).2;exact ak _ (ab this (e'▸K.low a (k a ha).1))
theorem pj.ok{sl:Sl}{v:ag}{y:Str}{fp:List Addr}(h:pj c E β O s sl v fp)(b:Bound s.heap E.env y v):GY c E β O s sl y fp:=by
 cases sl with
 |no=>exact h
 |val d=>exact⟨h.1,v,b,h.2⟩
 |own m q=>exact⟨v,b,h.1,h.2⟩
theorem Inv.rebind(I:Inv c E β O ad ρ s){i:Nat}{x:Str}{v:ag}{sl:Sl}{fp:List Addr}{w:Addr}(hx:E.vn[i]? =some x)(hl:i<ρ.length)(x':aB c [w] [] s s')(S:bF c s')(hb:Bound s'.heap E.env x v)(ho:∀y v',y≠x→Bound s.heap E.env y v'→Bound s'.heap E.env y v')(Oc:∃m,s'.heap.Ns E.env.locals m)(Lb:∀x∈E.vn,E.env.kindOf x≠some .local→∃a v,E.env.cells.lookup x=some a∧s'.heap.IsCell a v)(hw:w∈O)(hm:BD β w)(FP:w=E.env.locals∨∃p∈E.env.cells,p.2=w)(ni:pj c E β O s sl v fp)(hd:∀j,j≠i→∀a∈fp,a∉ad j):Inv c E β O (λ j=>if j=i then fp else ad j) (ρ.set i sl) s' where
 ok:=I.ok
 br:=S
 grow:=I.grow.comp x' (λ a h=>by rw[aj]at h;subst h;exact hm) (λ z=>nn)
 lt:= λ a h=>ab (I.lt a h) x'.size
 low:=I.low
 sub:=I.sub
 n8:=I.n8
 new:=I.new
 ns:=Oc
 cells:=Lb
 uG:=I.uG
 tu:=I.tu
 CG:=I.CG
 CH:=I.CH
 out:= λ j hj=>by
  have:=(aw.mp hx).1;show(if j=i then fp else ad j)=[];rw[if_neg (by omega)];exact I.out j hj
 mG:= λ j k Qo a ha=>by
  have ha:a∈(if j=i then fp else ad j):=ha;show a∉ (if k=i then fp else ad k)
  split at ha<;>split<;>rename_i h1 h2
  ·exact absurd (h1.trans h2.symm) Qo
  ·exact hd k (by omega) a ha
  ·exact λ hf=>hd j (by omega) a hf ha
  ·exact I.mG j k Qo a ha
 vars:= λ j y hj=>by
  have mj:tC [w] O s:= λ a h=>by rw[aj]at h;subst h;exact .inl hw
  have ku:∀a,a≠E.env.locals→(∀p∈E.env.cells,p.2≠a)→a≠w:= λ a h1 h2 e=>FP.elim (λ h=>h1 (e.trans h)) λ w0=>c0 w0 λ p hp h=>h2 p hp (h.trans e.symm)
  by_cases Ec:j=i
  ·subst Ec;rw[hx]at hj;cases hj;rw[show(ρ.set j sl).getD j .no=sl by rw[ai,bp hl];rfl];simp only[if_true];refine(pj.grow I.o ni x' mj λ a ha=>?_).ok hb;rw[aj];cases sl with
   |no=>cases ni;cases ha
   |val d=>cases ni.1;exact nn ha
   |own m q=>exact ku a (ni.2 a ha).2.1 (ni.2 a ha).2.2.1
  ·rw[show(ρ.set i sl).getD j .no=ρ.getD j .no by rw[ai,aQ (Ne.symm Ec),← ai],if_neg Ec];have NO:y≠x:= λ e=>Ec (by
    subst e;have h1:=aw.mp hj;have h2:=aw.mp hx;exact wu I.ok.nodup h1.1 h2.1 (h1.2.trans h2.2.symm))
   have:=I.vars j y hj;cases hr:ρ.getD j .no with
   |no=>rw[hr]at this;exact this
   |val d=>
    rw[hr]at this;refine mq this ?_;clear this;intro e v' b r;exact⟨e,v',ho y v' NO b,x'.rep mj (.refl O s) r⟩
   |own m q=>
    rw[hr]at this;refine cI this ?_;clear this;intro v' b r k;have hf:∀a∈ad j,a∉ [w]:= λ a ha h=>ku a (k a ha).2.1 (k a ha).2.2.1 (aj.mp h);exact⟨v',ho y v' NO b,x'.own mj (.refl O s) hf (λ a ha o e=>.inr (x'.get (hf a ha) (I.E9 (k a ha).1) e)) r,
     λ a ha=>⟨(k a ha).1,(k a ha).2.1,(k a ha).2.2.1,(k a ha).2.2.2.1,(k a ha).2.2.2.2.1,ab (k a ha).2.2.2.2.2 x'.size⟩⟩
theorem mr(I:Inv c E β O ad ρ s){i:Nat}{x:Str}{v:ag}{sl:Sl}{fp:List Addr}(hi:i<E.k)(hx:E.vn[i]? =some x)(hl:i<ρ.length)(ni:pj c E β O s sl v fp)(hd:∀j,j≠i→∀a∈fp,a∉ad j){Q:Unit→ae→Prop}{X:ag→ae→Prop}(k:∀s' w,Inv c E β O (λ j=>if j=i then fp else ad j) (ρ.set i sl) s'→aB c [w] [] s s'→w∈O→(w=E.env.locals∨∃p∈E.env.cells,p.2=w)→Q () s'):wpAny (model c.prog c.w) A (storeName E.env x v) Q X s:=by
 have hm:=bw hx;have hv:=I.ok.var x hm;have qI:=I.ok.kind
 by_cases Dr:E.env.kindOf x=some .local
 ·refine xe I.ns λ m hn=>?_;refine wpAny_storeName_local Dr hn (λ h' K0 hs=>?_) (by rw[qI];rfl);have i9:∀a o,a∉ [E.env.locals]→s.heap.get? a=some o→h'.get? a=some o:= λ a o ha e=>hs.extBut a o (λ h=>ha (by simp[h])) e;have lb:s.heap.objs.size≤h'.objs.size:=by rw[hs.1];exact az _
  have hg:aB c [E.env.locals] [] s {s with heap:=h',toks:=s.toks+1}:=.of_keep lb i9 λ a ha o e=>by
   rw[aj]at ha;subst ha;refine c_ hn ?_;clear hn;intro o' es ep nj iQ z;rw[e]at nj;cases nj;exact cP iQ
  refine k _ _ ?_ hg I.uG (.inl rfl);refine I.rebind (w:=E.env.locals) hx hl hg (I.br.at lb i9 λ a ha=>?_) ⟨λ z=>⟨_,K0,by simp⟩,λ h=>absurd Dr h⟩ (λ y v' hy b=>⟨λ hk=>?_,λ hk=>?_⟩) ⟨_,K0⟩ (λ y hy hk=>?_) I.uG I.CG (.inl rfl) ni hd
  ·rw[aj]at ha;subst ha;exact I.low _ I.uG
  ·refine c0 (b.1 hk) λ m₁ uB e=>?_;exact⟨_,K0,by simp only[hy,if_false];rw[Ns.same hn uB,e]⟩
  ·refine c0 (b.2 hk) λ a e hc=>?_;exact⟨a,e,hc.sameBut hs λ he=>I.ok.Rh _ (bu e) he⟩
  ·refine ew (I.cells y hy hk) λ a v' e hc=>?_;exact⟨a,v',e,hc.sameBut hs λ he=>I.ok.Rh _ (bu e) he⟩
 ·refine ew (I.cells x hm Dr) λ a QQ e hc=>?_;have OC:E.env.kindOf x=some .cell:=by
   rcases hv with h|⟨h|h,_⟩
   ·exact absurd h Dr
   ·exact h
   ·exact absurd h (I.ok.bind i x hi hx)
  refine wpAny_storeName_cell qI OC e hc λ h' G9 hs=>?_;have i9:∀b o,b∉ [a]→s.heap.get? b=some o→h'.get? b=some o:= λ b o hb e=>hs.extBut b o (λ h=>hb (by simp[h])) e;have lb:s.heap.objs.size≤h'.objs.size:=by rw[hs.1];exact az _
  have Cm:a∈O:=I.tu _ (bu e);have Mk:a≠E.env.locals:=I.ok.Rh _ (bu e);refine xe I.ns λ m hn=>?_;have K0:h'.Ns E.env.locals m:=hn.sameBut hs (Ne.symm Mk);have hg:aB c [a] [] s {s with heap:=h'}:=.of_keep (tk:=s.toks) lb i9 λ b hb o eb=>by
   rw[aj]at hb;subst hb;refine c0 hc ?_;clear hc;intro o' nj iQ;rw[eb]at nj;cases nj;exact zc iQ
  refine k _ _ ?_ hg Cm (.inr ⟨_,bu e,rfl⟩);refine I.rebind (w:=a) hx hl hg (I.br.at (tk:=s.toks) lb i9 λ b hb=>?_) ⟨λ h=>absurd h Dr,λ z=>⟨a,e,G9⟩⟩ (λ y v' hy b=>⟨λ hk=>?_,λ hk=>?_⟩) ⟨_,K0⟩ (λ y hy hk=>?_) Cm
   (I.CH i x a hi hx Dr e) (.inr ⟨_,bu e,rfl⟩) ni hd
  ·rw[aj]at hb;subst hb;exact I.low _ Cm
  ·refine c0 (b.1 hk) λ m₁ uB e=>?_;exact⟨m₁,uB.sameBut hs (Ne.symm Mk),e⟩
  ·refine c0 (b.2 hk) λ a' e' Ld=>?_;exact⟨a',e',Ld.sameBut hs λ he=>hy (name_of_addr I.ok.apart (bu e') (he▸bu e))⟩
  ·by_cases NO:y=x
   ·subst NO;exact⟨a,_,e,G9⟩
   ·refine ew (I.cells y hy hk) λ a' v' e' Ld=>?_;exact⟨a',v',e',Ld.sameBut hs λ he=>NO (name_of_addr I.ok.apart (bu e') (he▸bu e))⟩
theorem wp_bind(I:Inv c E β O ad ρ s){i:Nat}{x:Str}{pos:Pos}{v:ag}{sl:Sl}{fp:List Addr}(hi:i<E.k)(hx:E.vn[i]? =some x)(hl:i<ρ.length)(ni:pj c E β O s sl v fp)(hd:∀j,j≠i→∀a∈fp,a∉ad j){Q:Unit→ae→Prop}{X:ag→ae→Prop}(k:∀s' w,Inv c E β O (λ j=>if j=i then fp else ad j) (ρ.set i sl) s'→aB c [w] [] s s'→w∈O→(w=E.env.locals∨∃p∈E.env.cells,p.2=w)→Q () s'):wpAny (model c.prog c.w) A (assign (.Name x pos) E.env v) Q X s:=
 wpAny_assign_Name (mr I hi hx hl ni hd k)
theorem Inv.small(I:Inv c E β O ad ρ s)(j:Nat):∀a∈ad j,a∈O∧a<s.heap.objs.size∧a≠E.env.locals∧(∀p∈E.env.cells,p.2≠a)∧a∉β.O:=by
 intro a ha
 by_cases hl:j<E.vn.length
 ·have:=I.vars j _ (aq hl);cases hr:ρ.getD j .no with
  |no=>rw[hr]at this;rw[show ad j=[]from this]at ha;exact nn ha
  |val d=>rw[hr]at this;rw[this.1]at ha;exact nn ha
  |own m q=>
   rw[hr]at this;refine cI this ?_;clear this;intro v b r k;exact⟨(k a ha).1,(k a ha).2.2.2.2.2,(k a ha).2.1,(k a ha).2.2.1,(k a ha).2.2.2.2.1⟩
 ·rw[I.out j (by exact cw hl)]at ha;exact nn ha
end
inductive Out where
 |next (ρ:List Sl)
 |brk (ρ:List Sl)
 |cont (ρ:List Sl)
 |ret (d:D)
 |qv (q:OD)
noncomputable def z0(c:Cx)(E:VE)(β:dH)(ρ:List Sl)(s:ae):Prop:=∃O ad,Inv c E β O ad ρ s
noncomputable def mH(c:Cx)(E:VE)(β:dH):Out→Flow→ae→Prop
 |.next ρ,f,s=>f=.next∧z0 c E β ρ s
 |.brk ρ,f,s=>f=.brk∧z0 c E β ρ s
 |.cont ρ,f,s=>f=.cont∧z0 c E β ρ s
 |.ret d,f,s=>∃v,f=.ret v∧aB c β.W β.G β.s s∧bF c s∧bh c.w β.O s.heap v d
 |.qv q,f,s=>∃v fp,f=.ret v∧aB c β.W β.G β.s s∧bF c s∧cT c (fp++β.O) s.heap v q fp∧∀a∈fp,BD β a∧a<s.heap.objs.size
noncomputable def Ex(c:Cx)(n:Nat)(E:VE)(ρ:List Sl)(ss:List Stmt)(out:Out):Prop:=
 ∀(A:aK) (β:dH) (s:ae),Rm A n→z0 c E β ρ s→wpAny (model c.prog c.w) A (execs ss E.env) (mH c E β out) aZ s
noncomputable def bc(c:Cx)(n:Nat)(E:VE)(ρ:List Sl)(st:Stmt)(out:Out):Prop:=
 ∀(A:aK) (β:dH) (s:ae),Rm A n→z0 c E β ρ s→wpAny (model c.prog c.w) A (exec st E.env) (mH c E β out) aZ s
noncomputable def ju(c:Cx)(n:Nat)(E:VE)(ρ:List Sl)(t:Expr)(d:D)(ρ':List Sl):Prop:=
 ∀(A:aK) (β:dH) (O:List Addr) (ad:Nat→List Addr) (s:ae) (v:ag),Rm A n→Inv c E β O ad ρ s→bh c.w O s.heap v d→wpAny (model c.prog c.w) A (assign t E.env v) (λ z s'=>∃ad' W,Inv c E β O ad' ρ' s'∧aB c W [] s s'∧∀a∈W,a∈O) aZ s
noncomputable def kU(c:Cx)(n:Nat)(E:VE)(ρ:List Sl)(ts:List Expr)(ds:List D)(ρ':List Sl):Prop:=
 ∀(A:aK) (β:dH) (O:List Addr) (ad:Nat→List Addr) (s:ae) (vs:List ag),Rm A n→Inv c E β O ad ρ s→a0 c.w O s.heap vs ds→
  wpAny (model c.prog c.w) A (assignInOrder ((assignEach ts E.env).map (·.2)) vs) (λ z s'=>∃ad' W,Inv c E β O ad' ρ' s'∧aB c W [] s s'∧∀a∈W,a∈O) aZ s
section
variable {c:Cx}{n:Nat}{E:VE}{ρ ρ' ρ'':List Sl}
theorem Ex.nil:Ex c n E ρ [] (.next ρ):= λ A β s R I=>qW ⟨rfl,I⟩
theorem Ex.seq{st:Stmt}{ss:List Stmt}{out:Out}(h:bc c n E ρ st (.next ρ'))(t:Ex c n E ρ' ss out):Ex c n E ρ (st::ss) out:= λ A β s R I=>
 lX (wm (h A β s R I) λ f s' q=>by
  obtain⟨rfl,I'⟩:=q;exact t A β s' R I')
noncomputable def Out.stop:Out→Bool
 |.next _=>false
 |_=>true
theorem Ex.stop{st:Stmt}{ss:List Stmt}{out:Out}(h:bc c n E ρ st out)(ho:autoParam (out.stop=true) rf):Ex c n E ρ (st::ss) out:= λ A β s R I=>
 lX (wm (h A β s R I) λ f s' q=>by
  cases out with
  |next _=>cases ho
  |brk ρ'=>obtain⟨rfl,I'⟩:=q;exact⟨rfl,I'⟩
  |cont ρ'=>obtain⟨rfl,I'⟩:=q;exact⟨rfl,I'⟩
  |ret d=>obtain⟨v,rfl,r⟩:=q;exact⟨v,rfl,r⟩
  |qv q'=>obtain⟨v,fp,rfl,r⟩:=q;exact⟨v,fp,rfl,r⟩)
theorem Ex.one{st:Stmt}{out:Out}(h:bc c n E ρ st out):Ex c n E ρ [st] out:=by
 cases out with
 |next ρ'=>exact .seq h .nil
 |_=>exact .stop h
theorem ju.name(i:Nat){x:Str}{pos:Pos}{d:D}(hx:E.vn[i]? =some x)(hi:i<E.k)(hl:i<ρ.length):ju c n E ρ (.Name x pos) d (ρ.set i (.val d)):= λ A β O ad s v R I r=>
 wp_bind I hi hx hl (sl:=.val d) (fp:=[]) ⟨rfl,r⟩ (λ z z z h=>nn h) λ s' w I' g hw z=>⟨_,_,I',g,λ a h=>by rw[aj]at h;exact h▸hw⟩
theorem kU.nil:kU c n E ρ [] [] ρ:= λ A β O ad s vs R I r=>by
 cases vs with
 |nil=>exact ah ⟨_,[],I,.refl ..,λ z=>nn⟩
 |cons _ _=>exact r.elim
theorem kU.cons{t:Expr}{ts:List Expr}{d:D}{ds:List D}(h:ju c n E ρ t d ρ')(k:kU c n E ρ' ts ds ρ'')(ht:∀env,assignEach (t::ts) env=(false,assign t env)::assignEach ts env:=by intros;rfl):kU c n E ρ (t::ts) (d::ds) ρ'':=
 λ A β O ad s vs R I r=>by
  cases vs with
  |nil=>exact r.elim
  |cons v vs=>
   rw[ht];show wpAny _ _ (do holding vs (assign t E.env v);assignInOrder _ vs) _ _ _;refine aa (aV ?_);refine wm (h A β O ad s v R I r.1) λ z s' q=>?_;refine dj q ?_;clear q;intro ad' W I' g hW;refine wm (k A β O ad' s' vs R I' (g.fk (λ a h=>.inl (hW a h)) (.refl O s) r.2)) λ z k_ q=>?_;refine dj q ?_;clear q;intro pR W' PY g' SO;exact⟨pR,W++W',PY,(g.mono (λ a h=>.inl (aF _ h)) (λ z=>nn)).trans (g'.mono (λ a h=>.inl (ao _ h)) λ z=>nn),
    λ a h=>(aC.mp h).elim (hW a) (SO a)⟩
theorem sN{A:aK}{s:ae}{X:ag→ae→Prop}{env:Env}{elts:List Expr}{x1}{pos:Pos}{t:Addr}{items:Array ag}{Q:Unit→ae→Prop}(hh:A.handled=none)(ht:s.heap.IsTuple t items)(hn:(assignEach elts env).length=items.size)(N4:(assignEach elts env).findIdx? (·.1)=none)(h:∀h',s.heap.objs.size≤h'.objs.size→(∀a o,s.heap.get? a=some o→h'.get? a=some o)→wpAny (model c.prog c.w) A (assignInOrder ((assignEach elts env).map (·.2)) items.toList) Q X {s with heap:=h'}):
  wpAny (model c.prog c.w) A (assign (.Tuple elts x1 pos) env (.ref t)) Q X s:=by
 rw[arm_assign_Tuple];refine aa (bS ?_);unfold unpack;rw[hn,N4];refine aa (aV (dc (jc (wpAny_unpackItems_tuple (E:=aZ) (Q:= λ r s'=>r=items.toList∧∃h',s'={s with heap:=h'}∧p_ s.heap.objs.size s.heap h') hh ht λ h' he=>⟨rfl,h',rfl,he⟩)
  (λ r s' q up=>?_) λ z z f=>f.elim)))
 obtain⟨rfl,h',rfl,he⟩:=q;exact h h' up.heap λ a o e=>he a o (dM (aI e)) e
theorem ju.tup{elts:List Expr}{k:Nat}{pos:Pos}{ds:List D}(h:kU c n E ρ elts ds ρ')(hl:autoParam ((assignEach elts E.env).length=ds.length) rf)(hs:autoParam ((assignEach elts E.env).findIdx? (·.1)=none) rf):
  ju c n E ρ (.Tuple elts k pos) (.tup ds) ρ':= λ A β O ad s v R I r=>by
 refine bh.ql r ?_;clear r;intro a vs ha ht r;refine sN R.handled ht (by rw[hl,← r.length];rfl) hs λ h' hz hk=>?_;have g:aB c [] [] s {s with heap:=h'}:=.of_keep (tk:=s.toks) hz (λ a o z e=>hk a o e) λ z=>nn;have S:bF c {s with heap:=h'}:=I.br.at (O:=[]) (tk:=s.toks) hz (λ a o z e=>hk a o e) λ z=>nn;refine wm (h A β O ad _ vs R (I.fU g S) (g.j_ r)) λ z s' q=>?_;refine dj q ?_;clear q;intro ad' W I' g' hW;exact⟨ad',W,I',(g.mono (λ z=>nn) λ z=>nn).trans g',hW⟩
theorem bc.asg(i:Nat){x:Str}{p:Pos}{e:Expr}{pos:Pos}{d:D}(h:Ev c n E ρ e d)(hx:E.vn[i]? =some x)(hi:i<E.k)(hl:i<ρ.length)(hs:autoParam (swapsWith e (some (.Name x p)) pos.line E.env=pure false) rf):
  bc c n E ρ (.Assign [.Name x p] e pos) (.next (ρ.set i (.val d))):= λ A β s R w0=>iB w0 λ O ad I=>
 wpAny_Assign_Name (h.go R I λ v au g bj r=>mr bj hi hx hl (sl:=.val d) (fp:=[]) ⟨rfl,r⟩ (λ z z z h=>nn h) λ s' w I' z z z=>⟨rfl,O,_,I'⟩) hs
noncomputable def gF(c:Cx)(n:Nat)(E:VE)(ρ:List Sl)(e:Expr)(q:OD):Prop:=
 ∀(A:aK) (β:dH) (O:List Addr) (ad:Nat→List Addr) (s:ae),Rm A n→Inv c E β O ad ρ s→wpAny (model c.prog c.w) A (eval e E.env)
  (λ v s'=>∃fp,aB c [] [] s s'∧bF c s'∧cT c (fp++O) s'.heap v q fp∧∀a∈fp,s.heap.objs.size≤a∧a<s'.heap.objs.size) aZ s
theorem gF.slot{β:dH}{O fp:List Addr}{ad:Nat→List Addr}{s s':ae}{v:ag}{q:OD}(I:Inv c E β O ad ρ s)(x:aB c [] [] s s')(S:bF c s')(r:cT c (fp++O) s'.heap v q fp)(hf:∀a∈fp,s.heap.objs.size≤a∧a<s'.heap.objs.size):Inv c E β (fp++O) ad ρ s'∧pj c E β (fp++O) s' (.own true q) v fp∧∀j,∀a∈fp,a∉ad j:=by
 refine⟨I.ua x S hf,⟨r,λ a ha=>⟨aF _ ha,?_,λ p hp e=>?_,λ z=>.inr (af I.grow.size (hf a ha).1),λ h=>?_,(hf a ha).2⟩⟩,λ j a ha h=>?_⟩
 ·rintro rfl;exact ak _ (ab (I.lt _ I.uG) (hf _ ha).1)
 ·subst e;exact ak _ (ab (I.lt _ (I.tu p hp)) (hf _ ha).1)
 ·exact ak _ (ab (I.n8 a h) (af I.grow.size (hf a ha).1))
 ·exact ak _ (ab (I.small j a h).2.1 (hf a ha).1)
theorem bc.lh(i:Nat){x:Str}{p:Pos}{e:Expr}{pos:Pos}{q:OD}(h:gF c n E ρ e q)(hx:E.vn[i]? =some x)(hi:i<E.k)(hl:i<ρ.length)(hs:autoParam (swapsWith e (some (.Name x p)) pos.line E.env=pure false) rf):
  bc c n E ρ (.Assign [.Name x p] e pos) (.next (ρ.set i (.own true q))):= λ A β s R w0=>iB w0 λ O ad I=>
 wpAny_Assign_Name (wm (h A β O ad s R I) λ v au r=>by
  refine eE r ?_;clear r;intro fp g S r hf;refine jH (gF.slot I g S r hf) λ bj sv hd=>?_;exact mr bj hi hx hl sv (λ j z=>hd j) λ s' w I' z z z=>⟨rfl,_,_,I'⟩) hs
theorem bc.expr{e:Expr}{pos:Pos}{d:D}(h:Ev c n E ρ e d)(hi:autoParam (interactive E.env=false) rf)(hs:autoParam (swapsWith e none pos.line E.env=pure false) rf):bc c n E ρ (.Expr e pos) (.next ρ):= λ A β s R w0=>iB w0 λ O ad I=>
 gZ (h.go R I λ v au g bj r=>⟨rfl,O,ad,bj⟩) hi hs
theorem bc.ite{t:Expr}{b o:List Stmt}{pos:Pos}{p:Bool}{out:Out}(h:Tr c n E ρ t p)(ct:p=true→Ex c n E ρ b out)(cM:p=false→Ex c n E ρ o out):bc c n E ρ (.If t b o pos) out:= λ A β s R w0=>iB w0 λ O ad I=>
 wpAny_If (h.go R I λ au g bj=>by
  cases p with
  |true=>rw[if_pos rfl];exact ct rfl A β au R ⟨O,ad,bj⟩
  |false=>rw[if_neg (by decide)];exact cM rfl A β au R ⟨O,ad,bj⟩)
theorem bc.ret{e:Expr}{pos:Pos}{d:D}(h:Ev c n E ρ e d):bc c n E ρ (.Return (some e) pos) (.ret d):= λ A β s R w0=>iB w0 λ O ad I=>
 x6 (h.go R I λ v au g bj r=>⟨v,rfl,bj.grow,bj.br,bh.kept (.refl O _) (λ a h=>.inl (bj.sub a h)) r⟩)
theorem bc.brk{pos:Pos}:bc c n E ρ (.Break pos) (.brk ρ):= λ A β s R I=>wpAny_Break ⟨rfl,I⟩
noncomputable def OD.Bm:OD→Option D
 |.lst ds=>some (.lst ds)
 |.dm xs=>some (.dm xs)
 |.k8 k st=>some (.k8 k st)
 |.dJ _ sQ=>some (.dJ sQ)
 |.inst _ k fs=>some (.inst k fs)
 |.ka _ k fs y ds=>some (.inst k ((y,.lst ds)::fs))
 |.raw _=>some .any
theorem cT.Bm{O O' fp:List Addr}{h:Heap}{v:ag}{q:OD}{d:D}(r:cT c O h v q fp)(hq:q.Bm=some d)(hf:∀a∈fp,a∉O')(hO:∀a∈O',a∈O):bh c.w O' h v d:=by
 have hs:∀a∈O',a∈O∨h.objs.size≤a:= λ a h=>.inl (hO a h);cases q with
 |lst ds=>
  refine bO r ?_;clear r;intro a vs z1 z2 e r;subst z1;subst z2;cases hq;exact⟨a,vs,rfl,hf a (.head _),e,a0.kept (.refl O h) hs r⟩
 |dm xs=>
  refine cJ r ?_;clear r;intro a ts n z1 z2 e r;subst z1;subst z2;cases hq;exact⟨a,ts,n,rfl,hf a (.head _),e,r⟩
 |k8 k st=>
  refine lB r ?_;clear r;intro a es n z1 zh;refine cg zh ?_;clear zh;intro z2 e kt r;subst z1;subst z2;cases hq;exact⟨a,es,n,rfl,hf a (.head _),e,kt,bP.kept (.refl O h) hs r⟩
 |dJ n sQ=>
  refine c_ r ?_;clear r;intro a f ps z1 z2 zh;refine cg zh ?_;clear zh;intro e hl hm r;subst z1;subst z2;cases hq;exact⟨a,f,ps,rfl,hf a (.head _),e,hm,lN.kept (.refl O h) hs r⟩
 |inst u k fs=>
  refine iB r ?_;clear r;intro a dx zh;refine c_ zh ?_;clear zh;intro es n ps z1 z2 zh;refine cg zh ?_;clear zh;intro hu ku e zh;refine cg zh ?_;clear zh;intro e' hz hm r;subst z1;subst z2;cases hq;exact⟨a,dx,es,n,ps,rfl,hf a (.head _),hf dx (.tail _ (.head _)),e,e',hm,ez.kept (.refl O h) hs r⟩
 |ka u k fs y ds=>
  refine xe r ?_;clear r;intro a zh;refine iu zh ?_;clear zh;intro dx l es zh;refine cJ zh ?_;clear zh;intro n ps vs z1 z2 hu zh;refine cg zh ?_;clear zh;intro h1 h2 h3 zh;refine cg zh ?_;clear zh;intro e e' hz zh;refine cg zh ?_;clear zh;intro hm r Tv r';subst z1;subst z2;cases hq;refine⟨a,dx,es,n,(y,.ref l)::ps,rfl,hf a (.head _),hf dx (.tail _ (.head _)),e,e',λ x=>?_,?_⟩
  ·rw[hm,aX]
   by_cases hx:x=y
   ·subst hx;simp
   ·rw[if_neg hx,show(x==y)=false by simpa using hx]
  ·refine⟨rfl,?_,ez.kept (.refl O h) hs r⟩;show bh c.w O' h (.ref l) (.lst ds);exact⟨l,vs,rfl,hf l (.tail _ (.tail _ (.head _))),Tv,a0.kept (.refl O h) hs r'⟩
 |raw P=>cases hq;trivial
theorem Inv.freeze{β:dH}{O:List Addr}{ad:Nat→List Addr}{s:ae}(I:Inv c E β O ad ρ s){i:Nat}{x:Str}{q:OD}{d:D}(hx:E.vn[i]? =some x)(dP:ρ[i]? =some (.own true q))(hq:q.Bm=some d):
  Inv c E β (O.filter λ a=>decide (a∉ad i)) (λ j=>if j=i then []else ad j) (ρ.set i (.val d)) s:=by
 have gz:∀a∈O.filter (λ a=>decide (a∉ad i)),a∈O∧a∉ad i:= λ a h=>by simpa using aN.mp h
 have tp:∀a,a∈O→a∉ad i→a∈O.filter λ a=>decide (a∉ad i):= λ a h h'=>aN.mpr ⟨h,by simpa using h'⟩;have hl:i<ρ.length:=(aw.mp dP).1;have hv:=I.vars i x hx;rw[show ρ.getD i .no=.own true q by rw[ai,dP];rfl]at hv;refine cI hv ?_;clear hv;intro v b r k;have h1:∀a∈β.O,a∈O.filter λ a=>decide (a∉ad i):= λ a h=>tp a (I.sub a h) λ h'=>(k a h').2.2.2.2.1 h;have h2:∀p∈E.env.cells,p.2∈O.filter λ a=>decide (a∉ad i):= λ p h=>tp _ (I.tu p h) λ h'=>(k _ h').2.2.1 p h rfl;refine⟨I.ok,I.br,I.grow,λ a h=>I.lt a (gz a h).1,λ a h=>I.low a (gz a h).1,h1,I.n8,λ a h=>I.new a (gz a h).1,I.ns,I.cells,tp _ I.uG λ h=>(k _ h).2.1 rfl,h2,I.CG,I.CH,?_,?_,?_⟩
 ·intro j y hj
  by_cases Ec:j=i
  ·subst Ec;rw[hx]at hj;cases hj;rw[show(ρ.set j (.val d)).getD j .no=.val d by rw[ai,bp hl];rfl];simp only[if_true];exact⟨rfl,v,b,r.Bm hq (λ a h h'=>(gz a h').2 h) λ a h=>(gz a h).1⟩
  ·rw[show(ρ.set i (.val d)).getD j .no=ρ.getD j .no by rw[ai,aQ (Ne.symm Ec),← ai],if_neg Ec];have:=I.vars j y hj;have hs:nM O (O.filter λ a=>decide (a∉ad i)) s:= λ a h=>.inl (gz a h).1;cases hr:ρ.getD j .no with
   |no=>rw[hr]at this;exact this
   |val d'=>
    rw[hr]at this;refine mq this ?_;clear this;intro e v' b' r';exact⟨e,v',b',bh.kept (.refl O _) hs r'⟩
   |own m q'=>
    rw[hr]at this;refine cI this ?_;clear this;intro v' b' r' k';exact⟨v',b',(aB.refl c [] [] s).own (λ z=>nn) hs (λ z z=>nn) (λ a z o e=>.inr e) r',λ a ha=>⟨tp a (k' a ha).1 (I.mG j i Ec a ha),(k' a ha).2⟩⟩
 ·intro j k' Qo a ha;have ha:a∈(if j=i then []else ad j):=ha;show a∉ (if k'=i then []else ad k')
  split at ha
  ·exact nn ha
  ·split
   ·exact nn
   ·exact I.mG j k' Qo a ha
 ·intro j hj;have:=(aw.mp hx).1;show(if j=i then []else ad j)=[];rw[if_neg (by lia)];exact I.out j hj
theorem Ex.freeze(i:Nat){x:Str}{q:OD}{d:D}{ss:List Stmt}{out:Out}(hx:E.vn[i]? =some x)(dP:ρ[i]? =some (.own true q))(hq:q.Bm=some d)(h:Ex c n E (ρ.set i (.val d)) ss out):Ex c n E ρ ss out:=
 λ A β s R w0=>iB w0 λ O ad I=>h A β s R ⟨_,_,I.freeze hx dP hq⟩
end
structure Snap where
 s:ae
 O:List Addr
 K:List Addr
noncomputable def cB(c:Cx)(k:Snap)(s:ae):Prop:=∃V G',aB c V G' k.s s∧∀a∈V,(a∈k.O∨k.s.heap.objs.size≤a)∧a∉k.K
noncomputable def uZ(c:Cx)(k:Snap)(F:List Addr)(s₀ s:ae)(v:ag)(d:D):Prop:=∀O,nM k.O O k.s→(∀a∈O,a<s₀.heap.objs.size∨a∈F)→bh c.w O s.heap v d
noncomputable def rW(F F':List Addr)(s s':ae):Prop:=∀a∈F',a∈F∨(s.heap.objs.size≤a∧a<s'.heap.objs.size)
theorem rW.refl(F:List Addr)(s s':ae):rW F F s s':= λ z h=>.inl h
theorem cB.refl{c:Cx}{k:Snap}:cB c k k.s:=⟨[],[],.refl ..,λ z=>nn⟩
theorem cB.step{c:Cx}{k:Snap}{s s':ae}{W:List Addr}{G:List Nat}(h:cB c k s)(x:aB c W G s s')(hW:∀a∈W,(a∈k.O∨k.s.heap.objs.size≤a)∧a∉k.K):cB c k s':=by
 refine ew h ?_;clear h;intro V G' y hV;exact⟨V++W,G'++G,(y.mono (λ a h=>.inl (aF _ h)) (λ g h=>.inl (aF _ h))).trans (x.mono (λ a h=>.inl (ao _ h)) λ g h=>.inl (ao _ h)),
  λ a h=>(aC.mp h).elim (hV a) (hW a)⟩
structure nN(c:Cx)(A:aK)(tg:Expr)(it:ag)(k:Snap)(G:List Nat)(P:List Addr→List D→ae→Prop):Prop where
 det:∀{F F':List Addr} {ds lK:List D} {s:ae},P F ds s→P F' lK s→F=F'
 frame:∀{F V:List Addr} {G':List Nat} {ds:List D} {s s':ae},P F ds s→aB c V G' s s'→bF c s'→(∀a∈V,a∉F)→(∀g∈G',g∉G∧g<s.gens.size∨s.gens.size≤g)→P F ds s'
 next:∀{F:List Addr} {ds:List D} {d:D} {s:ae},bF c s→cB c k s→(∀a∈F,c.B≤a)→P F (d::ds) s→wpAny (model c.prog c.w) A (pyNext it)
  (λ r au=>∃v,r=some v∧wpAny (model c.prog c.w) A (letOwnedTupleGo tg it v) (λ z s'=>aB c F G s s'∧bF c s'∧∃F',rW F F' s s'∧uZ c k F' s s' v d∧P F' ds s') aZ au) aZ s
 done:∀{F:List Addr} {s:ae},bF c s→cB c k s→(∀a∈F,c.B≤a)→P F [] s→wpAny (model c.prog c.w) A (pyNext it) (λ r s'=>r=none∧aB c F G s s'∧bF c s') aZ s
 self:∀{A':aK} {F:List Addr} {ds:List D} {s:ae},bF c s→P F ds s→wpAny (model c.prog c.w) A' (pyIter it) (λ v s'=>v=it∧s'=s) aZ s
noncomputable def iK(c:Cx)(n:Nat)(tg:Expr)(O K:List Addr)(s₀:ae)(ds:List D)(it:ag)(s:ae):Prop:=
 ∃F G,(∀a∈F,s₀.heap.objs.size≤a∧a<s.heap.objs.size)∧(∀g∈G,s₀.gens.size≤g∧g<s.gens.size)∧∀A,Rm A n→∃P,nN c A tg it ⟨s,F++O,K⟩ G P∧P F ds s
noncomputable def Ib(c:Cx)(n:Nat)(tg:Expr)(d:D)(Ds:List D→Prop):Prop:=
 ∀(A:aK) (O:List Addr) (s:ae) (v:ag),Rm A n→Ok c O s→bh c.w O s.heap v d→wpAny (model c.prog c.w) A (pyIter v) (λ it s'=>aB c [] [] s s'∧bF c s'∧∃ds,Ds ds∧iK c n tg O [] s ds it s') aZ s
noncomputable def kd(c:Cx)(n:Nat)(E:VE)(ρ:List Sl)(e:Expr)(tg:Expr)(Ds:List D→Prop):Prop:=
 ∀(A:aK) (β:dH) (O:List Addr) (ad:Nat→List Addr) (s:ae),Rm A n→Inv c E β O ad ρ s→wpAny (model c.prog c.w) A (eval e E.env) (λ v au=>wpAny (model c.prog c.w) A (pyIter v)
  (λ it s'=>aB c [] [] s s'∧bF c s'∧∃ds,Ds ds∧iK c n tg O [] s ds it s') aZ au) aZ s
section
variable {c:Cx}{n:Nat}{E:VE}{ρ ρ' ρ'':List Sl}
theorem iK.back{n:Nat}{tg:Expr}{O K:List Addr}{s₀ au s:ae}{ds:List D}{it:ag}(x:aB c [] [] s₀ au)(h:iK c n tg O K au ds it s):iK c n tg O K s₀ ds it s:=by
 refine dj h ?_;clear h;intro F G h1 h2 h3;exact⟨F,G,λ a h=>⟨af x.size (h1 a h).1,(h1 a h).2⟩,λ g h=>⟨af x.dv (h2 g h).1,(h2 g h).2⟩,h3⟩
theorem kd.of{e tg:Expr}{d:D}{Ds:List D→Prop}(h:Ev c n E ρ e d)(k:Ib c n tg d Ds):kd c n E ρ e tg Ds:= λ A β O ad s R I=>
 h.go R I λ v au x bj r=>wm (k A O au v R bj.o r) λ it aH q=>by
  refine nP q ?_;clear q;intro cF S ds hd hi;exact⟨x.trans cF,S,ds,hd,hi.back x⟩
structure LI(c:Cx)(E:VE)(β:dH)(k:Snap)(F:List Addr)(G:List Nat)(O:List Addr)(ad:Nat→List Addr)(ρ:List Sl)(s:ae):Prop where
 I:Inv c E β O ad ρ s
 hF:∀a∈F++k.K,a∈O
 hL:E.env.locals∉F++k.K
 hC:∀p∈E.env.cells,p.2∉F++k.K
 hV:∀i,∀a∈ad i,a∉F++k.K
 hW:∀a∈F,BD β a∧(a∈k.O∨k.s.heap.objs.size≤a)∧a∉k.K
 hG:∀g∈G,g∈β.G∨β.s.gens.size≤g
 Ge:∀g∈G,g<s.gens.size
 hS:cB c k s
 hN:nM k.O O k.s
 hK:∀a∈k.K,a<k.s.heap.objs.size
theorem cB.size{c:Cx}{k:Snap}{s:ae}(h:cB c k s):k.s.heap.objs.size≤s.heap.objs.size:=let⟨_,_,g,_⟩:=h;g.size
section
variable {c:Cx}{E:VE}{β:dH}{k:Snap}{F F':List Addr}{G:List Nat}{O:List Addr}{ad:Nat→List Addr}{ρ:List Sl}{s s':ae}
theorem LI.low(L:LI c E β k F G O ad ρ s):∀a∈F,c.B≤a:= λ a h=>L.I.low a (L.hF a (aF _ h))
theorem LI.rep{v:ag}{d:D}(L:LI c E β k F G O ad ρ s)(h:uZ c k F' s s' v d)(hF:rW F F' s s'):bh c.w (F'++O) s'.heap v d:=
 h _ (λ a h=>(aC.mp h).elim (λ h=>(hF a h).elim (λ h=>(L.hW a h).2.1) λ h=>.inr (af L.hS.size h.1)) (L.hN a)) λ a h=>(aC.mp h).elim .inr λ h=>.inl (L.I.lt a h)
end
theorem nt{A:aK}{s:ae}{R:iw→ae→Prop}{target:Expr}{it:ag}{body:List Stmt}{env:Env}(h:wpAny (model c.prog c.w) A (pyNext it) (λ r au=>match r with
   |none=>R (.ok .next) au
   |some v=>wpAny (model c.prog c.w) A (letOwnedTupleGo target it v) (λ z Ja=>wpAny (model c.prog c.w) A (assign target env v) (λ z aH=>wpAny (model c.prog c.w) A (execs body env) (λ f cq=>match f with
      |.next|.cont=>codeAny (model c.prog c.w) A (.forLoop target it body [] env) R cq
      |.brk=>R (.ok .next) cq
      |.ret v=>R (.ok (.ret v)) cq) aZ aH) aZ Ja) aZ au) aZ s):codeAny (model c.prog c.w) A (.forLoop target it body [] env) R s:=by
 refine fg ?_;show wpAny _ A ((forTurn target it body [] env).onRaise (λ x=>do noteFrame x env;theTreesLotGoes x)) _ _ s;refine Av ?_;simp only[forTurn];refine aa (bS (aa (wpAny_onRaise (wm h λ r au ct=>?_))));cases r with
 |none=>exact ah ⟨rfl,codeAny_block (qW ct)⟩
 |some v=>
  refine wb ct λ z Ja NH=>?_;refine wb NH λ z aH cM=>aa (wm cM λ f cq mD=>?_);cases f with
  |next=>exact ah ⟨rfl,mD⟩
  |cont=>exact ah ⟨rfl,mD⟩
  |brk=>exact ah mD
  |ret v=>exact ah mD
noncomputable abbrev JU(c:Cx)(E:VE)(β:dH)(out:Out):iw→ae→Prop:= λ r s'=>match r with
 |.ok f=>mH c E β out f s'
 |.error _=>False
noncomputable def Lp(c:Cx)(n:Nat)(E:VE)(ρ:List Sl)(tg:Expr)(body:List Stmt)(ds:List D)(out:Out):Prop:=
 ∀(A:aK) (β:dH) (O:List Addr) (ad:Nat→List Addr) (s:ae) (it:ag) (k:Snap) (F:List Addr) (G:List Nat) (P:List Addr→List D→ae→Prop),Rm A n→nN c A tg it k G P→LI c E β k F G O ad ρ s→P F ds s→
  codeAny (model c.prog c.w) A (.forLoop tg it body [] E.env) (JU c E β out) s
theorem LI.moved{β:dH}{k:Snap}{F F':List Addr}{G:List Nat}{O:List Addr}{ad:Nat→List Addr}{s s':ae}(L:LI c E β k F G O ad ρ s)(x:aB c F G s s')(S:bF c s')(hf:rW F F' s s'):LI c E β k F' G (F'++O) ad ρ s':=by
 have eN:∀a∈F,a∈F++k.K:= λ a h=>aF _ h;have zq:∀a∈F'++k.K,a∈F++k.K∨s.heap.objs.size≤a:= λ a h=>(aC.mp h).elim (λ h=>(hf a h).imp (eN a) And.left) λ h=>.inl (ao _ h);refine⟨L.I.apart x S (λ a h=>.inl (L.hF a (eN a h))) (λ a h=>(L.hW a h).1) L.hG (λ h=>L.hL (eN _ h)) (λ p hp h=>L.hC p hp (eN _ h)) (λ i z a ha h=>L.hV i a ha (eN _ h)) (λ a h=>(aC.mp h).elim (λ h=>(hf a h).imp (λ h=>L.hF a (eN a h)) id) .inl) λ z h=>ao _ h,
  λ a h=>?_,λ h=>?_,λ p hp h=>?_,λ i a ha h=>?_,λ a h=>?_,L.hG,λ g h=>ab (L.Ge g h) x.dv,L.hS.step x λ a h=>(L.hW a h).2,λ a h=>?_,L.hK⟩
 ·exact(aC.mp h).elim (aF _) λ h=>ao _ (L.hF a (ao _ h))
 ·exact(zq _ h).elim L.hL λ h=>ak _ (ab (L.I.lt _ L.I.uG) h)
 ·exact(zq _ h).elim (L.hC p hp) λ h=>ak _ (ab (L.I.lt _ (L.I.tu p hp)) h)
 ·exact(zq _ h).elim (L.hV i a ha) λ h=>ak _ (ab (L.I.small i a ha).2.1 h)
 ·rcases hf a h with h|h
  ·exact L.hW a h
  ·exact⟨.inr (af L.I.grow.size h.1),.inr (af L.hS.size h.1),λ hk=>ak _ (ab (L.hK a hk) (af L.hS.size h.1))⟩
 ·rcases aC.mp h with h|h
  ·exact(hf a h).elim (λ h=>(L.hW a h).2.1) λ h=>.inr (af L.hS.size h.1)
  ·exact L.hN a h
theorem mH.up{β jV:dH}(u:JR c β jV){out:Out}{f:Flow}{s:ae}(h:mH c E jV out f s):mH c E β out f s:=by
 cases out with
 |next ρ=>exact⟨h.1,let⟨O,ad,I⟩:=h.2; ⟨O,ad,u.up I⟩⟩
 |brk ρ=>exact⟨h.1,let⟨O,ad,I⟩:=h.2; ⟨O,ad,u.up I⟩⟩
 |cont ρ=>exact⟨h.1,let⟨O,ad,I⟩:=h.2; ⟨O,ad,u.up I⟩⟩
 |ret d=>
  refine eE h ?_;clear h;intro v e g S r;exact⟨v,e,u.grow.comp g u.W u.G,S,bh.kept (.refl _ _) (λ a h=>.inl (u.O a h)) r⟩
 |qv q=>
  refine ew h ?_;clear h;intro v fp e zh;refine cg zh ?_;clear zh;intro g S r hf;exact⟨v,fp,e,u.grow.comp g u.W u.G,S,(aB.refl c [] [] s).own (λ z h=>nn h) (λ a h=>.inl ((aC.mp h).elim (λ h=>aF _ h) λ h=>ao _ (u.O a h))) (λ z z=>nn) (λ a z o e=>.inr e) r,
   λ a h=>⟨u.may (hf a h).1,(hf a h).2⟩⟩
theorem Lp.nil{tg:Expr}{body:List Stmt}:Lp c n E ρ tg body [] (.next ρ):= λ A β O ad s it κ F G P R T L p=>
 nt (wm (T.done L.I.br L.hS L.low p) λ r s' q=>by
  obtain⟨rfl,x,S⟩:=q;exact⟨rfl,_,ad,(L.moved x S (.refl F s s')).I⟩)
theorem Lp.turn{tg:Expr}{body:List Stmt}{d:D}{ds:List D}{out Kt:Out}(t:ju c n E ρ tg d ρ')(b:Ex c n E ρ' body Kt)(k:match Kt with|.next ρ''=>Lp c n E ρ'' tg body ds out|.cont ρ''=>Lp c n E ρ'' tg body ds out|.brk ρ''=>out=.next ρ''|o=>out=o):Lp c n E ρ tg body (d::ds) out:= λ A β O ad s it κ F G P R T L p=>
 nt (wm (T.next L.I.br L.hS L.low p) λ r au q=>by
  refine c0 q ?_;clear q;intro v z1 q;subst z1;refine wk q λ z aH q=>?_;refine tG q ?_;clear q;intro x S F' hf r p;have r:=L.rep r hf;have rV:=L.moved x S hf;refine eE (rV.I.anchor rV.hF rV.hL rV.hC λ i z=>rV.hV i) λ jV G4 u I' zh=>cg zh λ hW hG hF hN=>?_;refine wk (t A jV _ ad aH v R I' r) λ z cq q=>?_;refine ew q ?_;clear q;intro ad' z jT z;refine wk (b A jV cq R ⟨_,ad',jT⟩) λ f d7 q=>?_;subst G4;have key:∀ρ'',z0 c E jV ρ'' d7→∃O' pR,LI c E β κ F' G O' pR ρ'' d7∧P F' ds d7:=by
   rintro ρ'' ⟨O',pR,i5⟩
   have hz:κ.s.heap.objs.size≤jV.s.heap.objs.size:=rV.hS.size;refine⟨O',pR,⟨u.up i5,λ a h=>i5.sub a (hF a h),rV.hL,rV.hC,λ i a ha hf=>(i5.small i a ha).2.2.2.2 (hF a hf),rV.hW,L.hG,λ g h=>ab (rV.Ge g h) i5.grow.dv,rV.hS.step i5.grow λ a h=>⟨rV.hN a (hW a h).2,λ hk=>(hW a h).1 (ao _ hk)⟩,λ a h=>?_,L.hK⟩,?_⟩
   ·exact(i5.new a h).elim (λ h=>rV.hN a (hN a h)) λ h=>.inr (af hz h)
   ·exact T.frame p i5.grow i5.br (λ a h hf=>(hW a h).1 (aF _ hf)) (λ g h=>by rw[hG]at h;exact nn h)
  cases Kt with
  |next ρ''=>
   refine xa q ?_;clear q;intro z1 q;subst z1;refine ew (key _ q) λ O' pR L' p'=>?_;exact k A β O' pR d7 it κ F' G P R T L' p'
  |cont ρ''=>
   refine xa q ?_;clear q;intro z1 q;subst z1;refine ew (key _ q) λ O' pR L' p'=>?_;exact k A β O' pR d7 it κ F' G P R T L' p'
  |brk ρ''=>
   refine xa q ?_;clear q;intro z1 q;subst z1;subst k;refine iB q ?_;clear q;intro O' pR i5;exact⟨rfl,O',pR,u.up i5⟩
  |ret d=>
   subst k;refine c0 q ?_;clear q;intro v' z1 r;subst z1;exact mH.up u (out:=.ret d) ⟨v',rfl,r⟩
  |qv q'=>
   subst k;refine ew q ?_;clear q;intro v' fp z1 r;subst z1;exact mH.up u (out:=.qv q') ⟨v',fp,rfl,r⟩)
theorem Lp.step{tg:Expr}{body:List Stmt}{d:D}{ds:List D}{out:Out}(t:ju c n E ρ tg d ρ')(b:Ex c n E ρ' body (.next ρ''))(k:Lp c n E ρ'' tg body ds out):Lp c n E ρ tg body (d::ds) out:=Lp.turn t b k
theorem Lp.stop{tg:Expr}{body:List Stmt}{d:D}{ds:List D}(t:ju c n E ρ tg d ρ')(b:Ex c n E ρ' body (.brk ρ'')):Lp c n E ρ tg body (d::ds) (.next ρ''):=Lp.turn t b rfl
theorem Lp.ret{tg:Expr}{body:List Stmt}{d d':D}{ds:List D}(t:ju c n E ρ tg d ρ')(b:Ex c n E ρ' body (.ret d')):Lp c n E ρ tg body (d::ds) (.ret d'):=Lp.turn t b rfl
theorem LI.start{β:dH}{O:List Addr}{ad:Nat→List Addr}{s s':ae}{F:List Addr}{G:List Nat}(I:Inv c E β O ad ρ s)(x:aB c [] [] s s')(S:bF c s')(hF:∀a∈F,s.heap.objs.size≤a∧a<s'.heap.objs.size)(hG:∀g∈G,s.gens.size≤g∧g<s'.gens.size):LI c E β ⟨s',F++O,[]⟩ F G (F++O) ad ρ s':=by
 refine⟨I.ua x S hF,λ a h=>?_,λ h=>?_,λ p hp h=>?_,λ i a ha h=>?_,λ a h=>⟨.inr (af I.grow.size (hF a h).1),.inl (aF _ h),by simp⟩,λ g h=>.inr (af I.grow.dv (hG g h).1),λ g h=>(hG g h).2,.refl,λ z h=>.inl h,λ z=>nn⟩
 all_goals rw[bM]at h
 ·exact aF _ h
 ·exact ak _ (ab (I.lt _ I.uG) (hF _ h).1)
 ·exact ak _ (ab (I.lt _ (I.tu p hp)) (hF _ h).1)
 ·exact ak _ (ab (I.small i a ha).2.1 (hF _ h).1)
theorem bc.for{tg iter:Expr}{body:List Stmt}{pos:Pos}{Ds:List D→Prop}{out:Out}(h:kd c n E ρ iter tg Ds)(k:∀ds,Ds ds→Lp c n E ρ tg body ds out)(hf:∀x,foldedSetIterable iter E.env x=pure x:=by intro z;rfl):
  bc c n E ρ (.For tg iter body [] pos) out:= λ A β s R w0=>iB w0 λ O ad I=>
 wpAny_For (wm (h A β O ad s R I) λ v au q=>wk q λ it aH q=>by
  refine nP q ?_;clear q;intro x S ds hd zh;refine dj zh ?_;clear zh;intro F G hF hG q;refine c0 (q A R) λ P T p=>?_;refine a7 (k ds hd A β (F++O) ad aH it _ F G P R T (.start I x S hF hG) p) λ r cq q=>?_;cases r with
  |ok f=>exact q
  |error e=>exact q.elim) hf
noncomputable def Wh(c:Cx)(n:Nat)(E:VE)(ρ:List Sl)(test:Expr)(body:List Stmt)(out:Out):Prop:=
 ∀(A:aK) (β:dH) (s:ae),Rm A n→z0 c E β ρ s→codeAny (model c.prog c.w) A (.whileLoop test body [] E.env) (JU c E β out) s
theorem jn{A:aK}{s:ae}{R:iw→ae→Prop}{test:Expr}{body:List Stmt}{env:Env}(h:wpAny (model c.prog c.w) A (PySem.isTrue test env (eval test env)) (λ b aH=>if b=true then wpAny (model c.prog c.w) A (execs body env) (λ f cq=>match f with
    |.next|.cont=>codeAny (model c.prog c.w) A (.whileLoop test body [] env) R cq
    |.brk=>R (.ok .next) cq
    |.ret v=>R (.ok (.ret v)) cq) aZ aH else R (.ok .next) aH) aZ s):codeAny (model c.prog c.w) A (.whileLoop test body [] env) R s:=by
 refine fg ?_;show wpAny _ A ((whileTurn test body [] env).onRaise (λ x=>do noteFrame x env;theTreesLotGoes x)) _ _ s;refine Av ?_;refine wb h λ b aH cM=>?_;cases b with
 |true=>
  rw[if_pos rfl]at cM⊢;refine wb cM λ f cq mD=>?_;cases f with
  |next=>exact ah ⟨rfl,mD⟩
  |cont=>exact ah ⟨rfl,mD⟩
  |brk=>exact ah mD
  |ret v=>exact ah mD
 |false=>
  rw[if_neg (by decide)]at cM⊢;exact aa (qW (ah cM))
theorem Wh.done{test:Expr}{body:List Stmt}(t:Tr c n E ρ test false):Wh c n E ρ test body (.next ρ):= λ A β s R w0=>iB w0 λ O ad I=>
 jn (t.go R I λ au x bj=>by rw[if_neg (by decide)];exact⟨rfl,O,ad,bj⟩)
theorem Wh.step{test:Expr}{body:List Stmt}{out:Out}(t:Tr c n E ρ test true)(b:Ex c n E ρ body (.next ρ'))(k:Wh c n E ρ' test body out):Wh c n E ρ test body out:= λ A β s R w0=>iB w0 λ O ad I=>
 jn (t.go R I λ au x bj=>by
  rw[if_pos rfl];refine wm (b A β au R ⟨O,ad,bj⟩) λ f aH q=>?_;obtain⟨rfl,q⟩:=q;exact k A β aH R q)
theorem Wh.ret{test:Expr}{body:List Stmt}{d:D}(t:Tr c n E ρ test true)(b:Ex c n E ρ body (.ret d)):Wh c n E ρ test body (.ret d):= λ A β s R w0=>iB w0 λ O ad I=>
 jn (t.go R I λ au x bj=>by
  rw[if_pos rfl];refine wm (b A β au R ⟨O,ad,bj⟩) λ f aH q=>?_;refine c0 q ?_;clear q;intro v z1 q;subst z1;exact⟨v,rfl,q⟩)
theorem bc.while{test:Expr}{body:List Stmt}{pos:Pos}{out:Out}(h:Wh c n E ρ test body out):bc c n E ρ (.While test body [] pos) out:= λ A β s R I=>
 wpAny_While (a7 (h A β s R I) λ r cq q=>by
  cases r with
  |ok f=>exact q
  |error e=>exact q.elim)
end
noncomputable def Sl.ro:Sl→Sl
 |.own _ q=>.own false q
 |x=>x
noncomputable def freeNames(scope:iU):List Str:=(scope.names.filter λ x=>x.2==.free).map (·.1)
noncomputable def ud:List Str→Bool
 |[]=>true
 |x::r=>r.all (λ y=> !(x==y))&&ud r
noncomputable def ji(vn:List Str)(j:Nat):Str:=vn.getD j Str.empty
noncomputable def sD(env:Env)(vn:List Str)(scope:iU)(tn:List Str)(ix:List Nat):Bool:=
 [scope.kind==.function,scope.names.all (λ x=>x.2 !=.cell),freeNames scope==ix.map (ji vn),ix.all (λ j=>decide (j<vn.length)&&env.kindOf (ji vn j)!=some .local),
  tn.all (λ x=>scope.names.lookup x==some .local&& !(x==("__debug__":Str))&& !(x==("__classdict__":Str))),ix.all (λ j=>scope.names.lookup (ji vn j)==some .free),ud (tn++ix.map (ji vn)),
  scope.names.all (λ x=>x.2 !=.local||scope.names.lookup x.1==some .local),!scope.isCoroutine].all id
structure sH(env:Env)(vn:List Str)(scope:iU)(tn:List Str)(ix:List Nat):Prop where
 kind:scope.kind=.function
 E_:∀x∈scope.names,x.2≠.cell
 free:freeNames scope=ix.map (ji vn)
 Qq:∀j∈ix,j<vn.length∧env.kindOf (ji vn j)≠some .local
 NX:∀x∈tn,scope.names.lookup x=some .local∧(x==("__debug__":Str))=false∧(x==("__classdict__":Str))=false
 fr:∀j∈ix,scope.names.lookup (ji vn j)=some .free
 nodup:(tn++ix.map (ji vn)).Nodup
 names:∀x∈scope.names,x.2=.local→scope.names.lookup x.1=some .local
 co:scope.isCoroutine=false
theorem rz{l:List Str}(h:ud l=true):l.Nodup:=by
 induction l with
 |nil=>exact .nil
 |cons x r ih=>
  have h:=aP.mp h;exact ej.mpr ⟨λ hm=>bE ((bN (bD.mp h.1 x hm)).symm.trans (beq_self_eq_true x)),ih h.2⟩
theorem uR{env:Env}{vn:List Str}{scope:iU}{tn:List Str}{ix:List Nat}(h:sD env vn scope tn ix=true):sH env vn scope tn ix:=
 ⟨eq_of_beq (ga h 0 rfl),λ x hx=>bne_iff_ne.mp (bD.mp (ga h 1 rfl) x hx),eq_of_beq (ga h 2 rfl),λ j hj=>(aP.mp (bD.mp (ga h 3 rfl) j hj)).imp of_decide_eq_true bne_iff_ne.mp,
  λ x hx=>(aP.mp (bD.mp (ga h 4 rfl) x hx)).elim λ a b=>(aP.mp a).elim λ a c=>⟨eq_of_beq a,bN c,bN b⟩,λ j hj=>eq_of_beq (bD.mp (ga h 5 rfl) j hj),rz (ga h 6 rfl),
  λ x hx hl=>(Bool.or_eq_true_iff.mp (bD.mp (ga h 7 rfl) x hx)).elim (λ h=>absurd hl (bne_iff_ne.mp h)) eq_of_beq,bN (ga h 8 rfl)⟩
noncomputable def eR(cells:List (Str×Addr)):List (Str×gQ)→List (Str×Addr)→List (Str×Addr)
 |[],acc=>acc
 |(n,k)::r,acc=>if k==.free then eR cells r ((n,(cells.lookup n).getD 0)::acc)else eR cells r acc
theorem uQ(cells:List (Str×Addr))(n:Str)(k:gQ)(r:List (Str×gQ))(acc:List (Str×Addr)):eR cells ((n,k)::r) acc=if k==.free then eR cells r ((n,(cells.lookup n).getD 0)::acc)else eR cells r acc:=rfl
theorem Pw(cells:List (Str×Addr))(acc:List (Str×Addr)):eR cells [] acc=acc:=rfl
theorem pQ{cells:List (Str×Addr)}{names:List (Str×gQ)}{acc:List (Str×Addr)}{p:Str×Addr}:p∈eR cells names acc↔p∈acc∨∃x∈names,x.2=.free∧p=(x.1,(cells.lookup x.1).getD 0):=by
 induction names generalizing acc with
 |nil=>exact⟨.inl,λ h=>h.elim id λ w=>c0 w λ _ h _=>nn h⟩
 |cons x r ih=>
  rw[show eR cells (x::r) acc=_ from uQ cells x.1 x.2 r acc];cases hk:x.2==.free with
  |true=>
   rw[if_pos rfl];refine ih.trans ⟨λ h=>h.elim (λ h=>(aD.mp h).elim (λ e=>.inr ⟨x,.head _,eq_of_beq hk,e⟩) .inl) λ w=>c0 w λ y hy q=>.inr ⟨y,.tail _ hy,q⟩,λ h=>h.elim (λ h=>.inl (.tail _ h)) λ w=>c0 w λ y hy q=>(mc hy).elim (λ e=>.inl (e▸q.2▸ .head _)) λ hy=>.inr ⟨y,hy,q⟩⟩
  |false=>
   rw[if_neg bE];refine ih.trans ⟨λ h=>h.imp id λ w=>c0 w λ y hy q=>⟨y,.tail _ hy,q⟩,λ h=>h.imp id λ w=>c0 w λ y hy q=>(mc hy).elim (λ e=>bE (hk.symm.trans (beq_iff_eq.mpr ((congrArg Prod.snd e).trans q.1)))) λ hy=>⟨y,hy,q⟩⟩
theorem xU{cells:List (Str×Addr)}(ha:cells.Pairwise λ x y=>x.2≠y.2){names:List (Str×gQ)}{acc:List (Str×Addr)}(h1:∀p∈acc,cells.lookup p.1=some p.2)(h2:∀x∈names,x.2=.free→(cells.lookup x.1).isSome=true)(h3:acc.Pairwise (λ x y=>x.2≠y.2))(h4:((names.filter λ x=>x.2==.free).map (·.1)).Nodup)(h5:∀x∈names,x.2=.free→∀p∈acc,p.1≠x.1):(eR cells names acc).Pairwise λ x y=>x.2≠y.2:=by
 induction names generalizing acc with
 |nil=>exact h3
 |cons x r ih=>
  rw[show eR cells (x::r) acc=_ from uQ cells x.1 x.2 r acc];cases hk:x.2==.free with
  |false=>
   rw[if_neg bE];rw[b0 (p:= λ x:Str×gQ=>x.2==.free) (by rw[hk];exact bE)]at h4;exact ih h1 (λ x hx=>h2 x (.tail _ hx)) h3 h4 λ x hx=>h5 x (.tail _ hx)
  |true=>
   rw[if_pos rfl];rw[bZ (p:= λ x:Str×gQ=>x.2==.free) hk]at h4;have h4:=ej.mp h4;refine xe (dF.mp (h2 x (.head _) (eq_of_beq hk))) λ a hl=>?_;have eg:(cells.lookup x.1).getD 0=a:=by rw[hl];rfl
   rw[eg];refine ih (λ p hp=>(mc hp).elim (λ e=>e▸hl) (h1 p)) (λ x hx=>h2 x (.tail _ hx)) (dO.mpr ⟨λ p hp e=>h5 x (.head _) (eq_of_beq hk) p hp (name_of_addr ha (bu (h1 p hp)) (e▸bu hl)),h3⟩) h4.2 λ y hy hf p hp=>(mc hp).elim (λ e q=>h4.1 ?_) (h5 y (.tail _ hy) hf p);exact aL.mpr ⟨y,aN.mpr ⟨hy,beq_iff_eq.mpr hf⟩,((congrArg Prod.fst e).trans q).symm⟩
theorem pO{scope:iU}{env:Env}(h:∀x∈scope.names,x.2=.free→(env.cells.lookup x.1).isSome=true):closureFor scope env=pure (eR env.cells scope.names []):=by
 suffices H:∀(names:List (Str×gQ)) (acc:List (Str×Addr)),(∀x∈names,x.2=.free→(env.cells.lookup x.1).isSome=true)→
   (forIn names acc λ x r=>(match x with|(name,kind)=>if(kind==fJ)=true then do let a ← cellOf env name;pure (iX ((name,a)::r))else pure (iX r):Sem _))=(pure (eR env.cells names acc):Sem _) by
  show((forIn scope.names [] _:Sem _)>>= λ cs=>pure cs)=_;rw[H scope.names [] h];rfl
 intro names
 induction names with
 |nil=>intro acc z;rfl
 |cons x r ih=>
  intro acc hh;obtain⟨n,k⟩:=x;rw[o4,uQ];cases hk:k==.free with
  |true=>
   refine xe (dF.mp (hh (n,k) (.head _) (by simpa using hk))) λ a hl=>?_;have hl:env.cells.lookup n=some a:=hl;have hc:cellOf env n=pure a:=by unfold cellOf;rw[hl]
   simp only[hk,if_true,hc,hl,Option.getD_some];exact ih _ λ x hx=>hh x (.tail _ hx)
  |false=>
   simp only[hk,aR,if_false];exact ih _ λ x hx=>hh x (.tail _ hx)
structure DN(env dn:Env)(scope:iU)(C:Addr):Prop where
 kind:dn.scope.kind=.function
 glob:dn.globals=env.globals
 blt:dn.builtins=builtinsNs
 cells:dn.cells=eR env.cells scope.names []
 locals:dn.locals=C
 loc:∀x,scope.names.lookup x=some .local→dn.kindOf x=some .local
 fr:∀x,scope.names.lookup x=some .free→dn.kindOf x=some .cell∨dn.kindOf x=some .free
noncomputable def kL(E:VE)(dn:Env)(tn:List Str)(ix:List Nat):VE:=⟨dn,tn++ix.map (ji E.vn),tn.length⟩
noncomputable def oT(ρ:List Sl)(tn:List Str)(ix:List Nat):List Sl:=al tn.length .no++ix.map λ j=>(ρ.getD j .no).ro
noncomputable def uS(ad:Nat→List Addr)(tn:List Str)(ix:List Nat)(i:Nat):List Addr:=if i<tn.length then []else match ix[i-tn.length]? with|some j=>ad j|none=>[]
theorem kX{env:Env}:∀{names:List (Str×gQ)} {x:Str},names.lookup x=some .free→
  (names.map λ (n,k)=>if(k==fJ&&env.scope.kind==.function&&env.kindOf n==some .cell)then(n,kl)else(n,k)).lookup x=some .cell∨
  (names.map λ (n,k)=>if(k==fJ&&env.scope.kind==.function&&env.kindOf n==some .cell)then(n,kl)else(n,k)).lookup x=some .free
 |[],_,h=>by trivial
 |(n,k)::r,x,h=>by
  have ih:=@kX env r x;show pZ x ((if(k==fJ&&env.scope.kind==.function&&env.kindOf n==some .cell)=true then(n,kl)else(n,k))::_)=_∨pZ x ((if(k==fJ&&env.scope.kind==.function&&env.kindOf n==some .cell)=true then(n,kl)else(n,k))::_)=_;cases hx:x==n with
  |true=>
   simp only[aX,hx]at h;cases h
   by_cases hc:((fJ)==fJ&&env.scope.kind==.function&&env.kindOf n==some .cell)=true
   ·rw[if_pos hc];left;simp[aX,hx]
   ·rw[if_neg hc];right;simp[aX,hx]
  |false=>
   simp only[aX,hx]at h
   by_cases hc:(k==fJ&&env.scope.kind==.function&&env.kindOf n==some .cell)=true
   ·rw[if_pos hc];simp only[aX,hx];exact ih h
   ·rw[if_neg hc];simp only[aX,hx];exact ih h
section
variable {c:Cx}{n:Nat}{E:VE}{ρ ρ':List Sl}{scope:iU}{tn:List Str}{ix:List Nat}{β:dH}{O O':List Addr}{ad:Nat→List Addr}{s s':ae}
theorem DN.comp(h:QJ E)(k:sH E.env E.vn scope tn ix)(C:Addr):DN E.env (compEnvC scope (eR E.env.cells scope.names []) C E.env) scope C:=
 ⟨k.kind,rfl,h.blt,rfl,rfl,λ x hx=>lookup_relabel_local hx,λ x hx=>kX hx⟩
theorem DN.gen(h:QJ E)(k:sH E.env E.vn scope tn ix)(C:Addr)(code:ag):DN E.env (genEnv scope (eR E.env.cells scope.names []) C code builtinsNs E.env) scope C:=
 ⟨k.kind,rfl,rfl,rfl,rfl,λ x hx=>hx,λ x hx=>.inr hx⟩
theorem sH.cells(k:sH E.env E.vn scope tn ix)(h:QJ E):∀x∈scope.names,x.2=.free→x.1∈E.vn∧E.env.kindOf x.1≠some .local∧(E.env.cells.lookup x.1).isSome=true:=by
 intro x hx hf;have hm:x.1∈freeNames scope:=aL.mpr ⟨x,aN.mpr ⟨hx,by simpa using hf⟩,rfl⟩;rw[k.free]at hm;refine c0 (aL.mp hm) λ j hj e=>?_;have h1:=k.Qq j hj;have h2:x.1∈E.vn:=by
  rw[← e];unfold ji;rw[ai,aq h1.1];exact gb h1.1
 refine⟨h2,e▸h1.2,?_⟩
 rcases h.var _ h2 with hl|⟨_,a,ha⟩
 ·exact absurd (e▸hl) (e▸h1.2)
 ·rw[ha];rfl
theorem Inv.block{TR:List Nat}(I:Inv c E β O ad ρ s)(k:sH E.env E.vn scope tn ix)(x:aB c [] TR s s')(S:bF c s'){C:Addr}{dn:Env}(e:DN E.env dn scope C)(hC:s.heap.objs.size≤C∧C<s'.heap.objs.size)(hO:∀a∈O',a∈O∨(s.heap.objs.size≤a∧a<s'.heap.objs.size))(hs:∀a∈O,a∈O')(XQ:C∈O')(hn:∃m,s'.heap.Ns C m){W:List Addr}{G:List Nat}(XO:C∈W):
  Inv c (kL E dn tn ix) ⟨s',[],O',W,G⟩ O' (uS ad tn ix) (oT ρ tn ix) s':=by
 have uD:= λ x hx hf=>(k.cells I.ok x hx hf);have pF:∀p∈dn.cells,E.env.cells.lookup p.1=some p.2:=by
  intro p hp;rw[e.cells,pQ]at hp
  rcases hp with hp|⟨y,hy,hf,rfl⟩
  ·exact nn hp
  ·refine xe (dF.mp (uD y hy hf).2.2) λ a ha=>?_;show _=some ((E.env.cells.lookup y.1).getD 0);rw[ha];rfl
 have F0:∀j∈ix,∃a,dn.cells.lookup (ji E.vn j)=some a∧E.env.cells.lookup (ji E.vn j)=some a:=by
  intro j hj;have hf:=k.fr j hj;have hm:(ji E.vn j,fJ)∈scope.names:=bu hf;have tp:(ji E.vn j,(E.env.cells.lookup (ji E.vn j)).getD 0)∈dn.cells:=by
   rw[e.cells,pQ];exact .inr ⟨_,hm,rfl,rfl⟩
  have:∃a,dn.cells.lookup (ji E.vn j)=some a:=by
   cases hl:dn.cells.lookup (ji E.vn j)with
   |some a=>exact⟨a,rfl⟩
   |none=>
    exfalso;have:=BI.mp hl _ tp;simp at this
  refine xe this ?_;clear this;intro a ha;exact⟨a,ha,pF _ (bu ha)⟩
 have L_:∀(i:Nat) (y:Str),(kL E dn tn ix).vn[i]? =some y→(i<tn.length∧y∈tn)∨(tn.length≤i∧∃j,ix[i-tn.length]? =some j∧j∈ix∧y=ji E.vn j):=by
  intro i y hy;have hy:(tn++ix.map (ji E.vn))[i]? =some y:=hy
  by_cases hi:i<tn.length
  ·rw[mR hi]at hy;exact .inl ⟨hi,bw hy⟩
  ·rw[dZ (by exact cw hi),bU]at hy;cases hj:ix[i-tn.length]? with
   |none=>rw[hj]at hy;cases hy
   |some j=>
    rw[hj]at hy;cases hy;exact .inr ⟨by lia,j,rfl,bw hj,rfl⟩
 have RU:∀j∈ix,E.vn[j]? =some (ji E.vn j):= λ j hj=>by
  have h1:=(k.Qq j hj).1;unfold ji;rw[ai,aq h1];rfl
 refine⟨⟨e.kind,e.glob.trans I.ok.glob,e.blt,k.nodup,λ y hy=>?_,λ i y hi hy=>?_,?_,λ p hp he=>?_,λ y hy=>?_⟩,S,.refl ..,λ a h=>(hO a h).elim (λ h=>ab (I.lt a h) x.size) And.right,
  λ a h=>(hO a h).elim (I.low a) λ h=>af I.br.size h.1,λ z=>nn,λ z=>nn,λ z h=>.inl h,?_,λ y hy hk=>?_,?_,λ p hp=>?_,.inl ?_,λ i y a hi hy hk=>?_,λ i y hy=>?_,λ i j rJ a ha=>?_,λ i hi=>?_⟩
 ·obtain⟨i,hi,hy⟩:=eV hy
  rcases L_ i y (by rw[aq hi,hy])with⟨_,hm⟩|⟨_,j,_,hj,rfl⟩
  ·exact .inl (e.loc y (k.NX y hm).1)
  ·refine c0 (F0 j hj) λ a ha z=>?_;exact .inr ⟨e.fr _ (k.fr j hj),a,ha⟩
 ·rcases L_ i y hy with⟨_,hm⟩|⟨h,_⟩
  ·show dn.kindOf y≠_;rw[e.loc y (k.NX y hm).1];trivial
  ·have:i<tn.length:=hi;exact TY this h
 ·show dn.cells.Pairwise _;rw[e.cells];refine xU I.ok.apart (λ z=>nn) (λ x hx hf=>(uD x hx hf).2.2) .nil ?_ (λ z z z z h=>nn h);have:=(jZ.mp k.nodup).2.1;rw[← k.free]at this;exact this
 ·have h1:=I.tu _ (bu (pF p hp));have h2:p.2=C:=he.trans e.locals;rw[h2]at h1;exact ak _ (ab (I.lt _ h1) hC.1)
 ·obtain⟨i,hi,hy⟩:=eV hy
  rcases L_ i y (by rw[aq hi,hy])with⟨_,hm⟩|⟨_,j,_,hj,rfl⟩
  ·exact(k.NX y hm).2
  ·exact I.ok.JI _ (bw (RU j hj))
 ·show∃m,s'.heap.Ns dn.locals m;rw[e.locals];exact hn
 ·obtain⟨i,hi,hy⟩:=eV hy
  rcases L_ i y (by rw[aq hi,hy])with⟨_,hm⟩|⟨_,j,_,hj,rfl⟩
  ·exact absurd (e.loc y (k.NX y hm).1) hk
  ·refine c0 (F0 j hj) λ a ha G_=>?_;refine ew (I.cells _ (bw (RU j hj)) (k.Qq j hj).2) λ a' v h1 h2=>?_;rw[G_]at h1;cases h1;exact⟨a,v,ha,x.cell (by simp) h2⟩
 ·show dn.locals∈O';rw[e.locals];exact XQ
 ·exact hs _ (I.tu _ (bu (pF p hp)))
 ·show dn.locals∈W;rw[e.locals];exact XO
 ·intro hc
  rcases L_ i y hy with⟨_,hm⟩|⟨h,_⟩
  ·exact absurd (e.loc y (k.NX y hm).1) hk
  ·have:i<tn.length:=hi;exact TY this h
 ·rcases L_ i y hy with⟨hi,hm⟩|⟨hi,j,hj,Qn,rfl⟩
  ·rw[show(oT ρ tn ix).getD i .no=.no by
    unfold oT;rw[ai,mR (by simpa using hi),BJ];simp[hi]]
   show uS ad tn ix i=[];unfold uS;rw[if_pos hi]
  ·rw[show(oT ρ tn ix).getD i .no=(ρ.getD j .no).ro by
    unfold oT;rw[ai,dZ (by simpa using hi),D2,bU,hj];rfl,
    show uS ad tn ix i=ad j by unfold uS;rw[if_neg (by lia),hj]]
   have Dy:nM O O' s:= λ a h=>(hO a h).imp id And.left;refine c0 (F0 j Qn) λ a ha G_=>?_;have K5:dn.kindOf (ji E.vn j)≠some .local:=by rcases e.fr _ (k.fr j Qn)with h|h<;>rw[h]<;>trivial
   have hb:∀v,Bound s.heap E.env (ji E.vn j) v→Bound s'.heap dn (ji E.vn j) v:= λ v b=>by
    refine⟨λ h=>absurd h K5,λ z=>?_⟩;refine c0 (b.2 (k.Qq j Qn).2) λ a' h1 h2=>?_;rw[G_]at h1;cases h1;exact⟨a,ha,x.cell (by simp) h2⟩
   have:=I.vars j _ (RU j Qn);cases hr:ρ.getD j .no with
   |no=>rw[hr]at this;exact this
   |val d=>
    rw[hr]at this;refine mq this ?_;clear this;intro e' v b r;exact⟨e',v,hb v b,x.rep (λ z=>nn) Dy r⟩
   |own m q=>
    rw[hr]at this;refine cI this ?_;clear this;intro v b r k';refine⟨v,hb v b,x.own (λ z=>nn) Dy (λ z z=>nn) (λ a ha o e=>.inr (x.get (nn) (I.E9 (k' a ha).1) e)) r,λ a ha=>⟨hs _ (k' a ha).1,?_,λ p hp=>?_,λ h=>(nomatch h),by simp,ab (k' a ha).2.2.2.2.2 x.size⟩⟩
    ·show a≠dn.locals;rw[e.locals];exact λ h=>ak _ (ab (k' a ha).2.2.2.2.2 (h▸hC.1))
    ·exact(k' a ha).2.2.1 _ (bu (pF p hp))
 ·unfold uS at ha⊢
  split at ha
  ·exact nn ha
  ·split
   ·exact nn
   ·rename_i h1 h2;cases hj:ix[i-tn.length]? with
    |none=>rw[hj]at ha;exact nn ha
    |some Rx=>
     rw[hj]at ha;cases Om:ix[j-tn.length]? with
     |none=>simp
     |some Rw=>
      refine I.mG Rx Rw (λ he=>?_) a ha;subst he;have xI:(ix.map (ji E.vn)).Nodup:=(jZ.mp k.nodup).2.1;have g1:=aw.mp hj;have g2:=aw.mp Om;have:=wu xI (i:=i-tn.length) (j:=j-tn.length) (by simpa using g1.1) (by simpa using g2.1) (by simp[g1.2,g2.2]);exact absurd (VM (cw (by assumption)) (cw (by assumption)) this) (by assumption)
 ·have hi:(tn++ix.map (ji E.vn)).length≤i:=hi;simp only[aY,aE]at hi;unfold uS;rw[if_neg (Nat.not_lt_of_le (af (cE _ _) hi)),bk (Nat.le_sub_of_add_le (kh _ _▸hi))]
end
noncomputable def He(c:Cx)(n:Nat)(E:VE)(ρ:List Sl)(ifs:List Expr)(b:Bool):Prop:=
 ∀(A:aK) (β:dH) (O:List Addr) (ad:Nat→List Addr) (s:ae),Rm A n→Inv c E β O ad ρ s→
  wpAny (model c.prog c.w) A (forIn ifs true λ e r=>if r=true then do let ok ← isTrue e E.env (eval e E.env);pure (iX ok)else pure (iX r)) (λ b' s'=>b'=b∧aB c [] [] s s'∧bF c s') aZ s
noncomputable def cy(ρ ρ':List Sl):Prop:=∀i,ρ.getD i .no=.no∨ρ.getD i .no=ρ'.getD i .no
structure El(c:Cx)(n:Nat)(E:VE)(ρ:List Sl)(tg:Expr)(ifs:List Expr)(d:D)(b:Bool)(K:List Sl→Prop):Prop where
 ex:∃ρ',ju c n E ρ tg d ρ'∧cy ρ ρ'∧He c n E ρ' ifs b∧(b=true→K ρ')
section
variable {c:Cx}{n:Nat}{E:VE}{ρ ρ':List Sl}{scope:iU}{tn:List Str}{ix:List Nat}{β:dH}{O O':List Addr}{ad:Nat→List Addr}{s s':ae}
theorem He.nil:He c n E ρ [] true:= λ A β O ad s R I=>by rw[ye];exact ah ⟨rfl,.refl ..,I.br⟩
theorem He.one{e:Expr}{b:Bool}(h:Tr c n E ρ e b):He c n E ρ [e] b:= λ A β O ad s R I=>by
 rw[o4,if_pos rfl];refine aa (aa (h.go R I λ au x bj=>ah ?_));show wpAny _ A (forIn [] b _) _ _ _;rw[ye];exact ah ⟨rfl,x,bj.br⟩
noncomputable def Sl.kp(x:Sl)(L:List Addr):List Addr:=Sl.rec [] (λ z=>[]) (λ z z=>L) x
theorem Sl.Bd{x:Sl}{L:List Addr}{a:Addr}(h:a∈x.kp L):a∈L:=by
 cases x with
 |own _ _=>exact h
 |_=>exact nn h
theorem Inv.weaken(I:Inv c E β O ad ρ' s)(h:cy ρ ρ'):∃ad',Inv c E β O ad' ρ s∧∀i,∀a∈ad' i,a∈ad i:=by
 refine⟨λ i=>(ρ.getD i .no).kp (ad i),⟨I.ok,I.br,I.grow,I.lt,I.low,I.sub,I.n8,I.new,I.ns,I.cells,I.uG,I.tu,I.CG,I.CH,λ i x hx=>?_,λ i j rJ a ha hb=>I.mG i j rJ a (Sl.Bd ha) (Sl.Bd hb),λ i hi=>?_⟩,λ i a ha=>Sl.Bd ha⟩
 ·have:=I.vars i x hx
  rcases h i with e|e
  ·rw[e];rfl
  ·rw[← e]at this;cases hr:ρ.getD i .no with
   |no=>rfl
   |val d=>rw[hr]at this;exact⟨rfl,this.2⟩
   |own m q=>rw[hr]at this;exact this
 ·show Sl.kp _ (ad i)=[];rw[I.out i hi];cases ρ.getD i .no<;>rfl
theorem a0.append{w:a9}{h:Heap}{vs:List ag}{ds:List D}{v:ag}{d:D}(q:a0 w O h vs ds)(r:bh w O h v d):a0 w O h (vs++[v]) (ds++[d]):=
 q.ind ⟨r,trivial⟩ λ z z z z q z ih=>⟨q,ih⟩
theorem compTurn_list(elt target iter:Expr)(ifs:List Expr)(scope:iU)(pos:Pos)(it acc:ag)(env:Env):
  compTurn (.ListComp elt [⟨target,iter,ifs,0⟩] scope pos) 0 it acc env=(do
   standAt iter.pos
   match ← pyNext it with
   |none=>pure (.done .next)
   |some v=>
    letOwnedTupleGo target it v
    assign target env v
    let mut ok:=true
    for c in ifs do
     if ok then ok ← isTrue c env (eval c env)
    if ok then
     (do let _ ← call (.builtin "list.append") [acc,← eval elt env])
    again (.compLoop (.ListComp elt [⟨target,iter,ifs,0⟩] scope pos) 0 it acc env)):=by rfl
noncomputable abbrev LV(ifs:List Expr)(env:Env):Sem Bool:=forIn ifs true λ e r=>if r=true then do let ok ← isTrue e env (eval e env);pure (iX ok)else pure (iX r)
theorem qL{elt target iter:Expr}{ifs:List Expr}{scope:iU}{pos:Pos}{it acc:ag}{env:Env}{A:aK}{R:iw→ae→Prop}(h:wpAny (model c.prog c.w) A (pyNext it) (λ r au=>match r with
   |none=>R (.ok .next) au
   |some v=>wpAny (model c.prog c.w) A (letOwnedTupleGo target it v) (λ z aH=>wpAny (model c.prog c.w) A (assign target env v) (λ z cq=>wpAny (model c.prog c.w) A (LV ifs env) (λ ok d7=>
     if ok=true then wpAny (model c.prog c.w) A (eval elt env) (λ x s₅=>wpAny (model c.prog c.w) A (call (.builtin "list.append") [acc,x]) (λ z qo=>codeAny (model c.prog c.w) A (.compLoop (.ListComp elt [⟨target,iter,ifs,0⟩] scope pos) 0 it acc env) R qo) aZ s₅) aZ d7
     else codeAny (model c.prog c.w) A (.compLoop (.ListComp elt [⟨target,iter,ifs,0⟩] scope pos) 0 it acc env) R d7) aZ cq) aZ aH) aZ au) aZ s):
  codeAny (model c.prog c.w) A (.compLoop (.ListComp elt [⟨target,iter,ifs,0⟩] scope pos) 0 it acc env) R s:=by
 refine fg ?_;show wpAny _ A ((compTurn (.ListComp elt [⟨target,iter,ifs,0⟩] scope pos) 0 it acc env).onRaise (λ x=>do noteFrame x env;theTreesLotGoes x)) _ _ s;refine Av ?_;rw[compTurn_list];refine aa (bS (wb h λ r au ct=>?_));cases r with
 |none=>exact ah ct
 |some v=>
  refine wb ct λ z aH cM=>?_;refine wb cM λ z cq mD=>?_;refine wb mD λ ok d7 pE=>?_;cases ok with
  |true=>
   rw[if_pos rfl]at pE;show wpAny _ _ (if true=true then _ else _) _ _ _;refine wP rfl ?_;exact aa (wb pE λ x s₅ zf=>aa (wm zf λ z qo Bf=>ah (ah ⟨rfl,Bf⟩)))
  |false=>
   rw[if_neg (by decide)]at pE;show wpAny _ _ (if false=true then _ else _) _ _ _;refine wN (by decide) ?_;exact ah ⟨rfl,pE⟩
theorem pN{p:Prop}[Decidable p]{a b:Prop}(h:¬p)(x:b):if p then a else b:=by rw[if_neg h];exact x
theorem pP{p:Prop}[Decidable p]{a b:Prop}(h:p)(x:a):if p then a else b:=by rw[if_pos h];exact x
structure Vs(c:Cx)(n:Nat)(E:VE){X:Type}(q:List X→OD)(ap:List X→X→List X)(N:Nat)(A:aK)(D':Addr)(tg:Expr)(ifs:List Expr)(it:ag)(cd:Code)(Ky:X→List Sl→Prop)(pt:(iw→ae→Prop)→ae→Prop):Prop where
 turn:∀{Q:iw→ae→Prop} {s:ae},wpAny (model c.prog c.w) A (pyNext it) (λ r au=>match r with
   |none=>Q (.ok .next) au
   |some v=>wpAny (model c.prog c.w) A (letOwnedTupleGo tg it v) (λ z aH=>wpAny (model c.prog c.w) A (assign tg E.env v) (λ z cq=>wpAny (model c.prog c.w) A (LV ifs E.env) (λ ok d7=>
     if ok=true then pt Q d7 else codeAny (model c.prog c.w) A cd Q d7) aZ cq) aZ aH) aZ au) aZ s→codeAny (model c.prog c.w) A cd Q s
 put:∀{Q:iw→ae→Prop} {β:dH} {O:List Addr} {ad:Nat→List Addr} {ρ:List Sl} {s:ae} {o:List X} {y:X},Ky y ρ→Rm A n→Inv c E β O ad ρ s→D'∈O→o.length<N→
  (∀s',Inv c E β O ad ρ s'→cT c O s'.heap (.ref D') (q o) [D'])→
  (∀au aH,Inv c E β O ad ρ au→aB c [D'] [] au aH→bF c aH→cT c O aH.heap (.ref D') (q (ap o y)) [D']→codeAny (model c.prog c.w) A cd Q aH)→pt Q s
structure CI(c:Cx)(E:VE)(β:dH)(κ:Snap)(G:List Nat)(P:List Addr→List D→ae→Prop)(ρ:List Sl)(D':Addr)(O₀ F O:List Addr)(ad:Nat→List Addr)(ds:List D)(q:OD)(s:ae):Prop where
 sub:∀a∈O₀,a∈O
 L:LI c E β κ F G O ad ρ s
 hO:D'∈O
 hF:D'∉F++κ.K
 hA:∀i,D'∉ad i
 p:P F ds s
 own:cT c O s.heap (.ref D') q [D']
section
variable {κ:Snap}{G:List Nat}{P:List Addr→List D→ae→Prop}{D':Addr}{O₀ F F':List Addr}{ds:List D}{q:OD}{tg:Expr}{A:aK}{it:ag}
theorem CI.moved(K:CI c E β κ G P ρ D' O₀ F O ad ds q s)(x:aB c F G s s')(hf:rW F F' s s'):cT c (F'++O) s'.heap (.ref D') q [D']:=
 have h:D'∉F:= λ h=>K.hF (aF _ h)
 x.own (λ a h=>.inl (K.L.hF a (aF _ h))) (λ a h=>(aC.mp h).elim (λ h=>(hf a h).imp (λ h=>K.L.hF a (aF _ h)) And.left) .inl) (λ a e h'=>h (m1 e▸h')) (λ a e o h'=>.inr (m1 e▸x.get h (K.L.I.E9 K.hO) (m1 e▸h'))) K.own
theorem CI.next(K:CI c E β κ G P ρ D' O₀ F O ad ds q s){lK:List D}(x:aB c F G s s')(S:bF c s')(hf:rW F F' s s')(p:P F' lK s'):CI c E β κ G P ρ D' O₀ F' (F'++O) ad lK q s':=
 ⟨λ a h=>ao _ (K.sub a h),K.L.moved x S hf,ao _ K.hO,λ h=>(aC.mp h).elim (λ h=>(hf _ h).elim (λ h=>K.hF (aF _ h)) λ h=>ak _ (ab (K.L.I.lt _ K.hO) h.1)) λ h=>K.hF (ao _ h),K.hA,p,K.moved x hf⟩
theorem CI.back{jV:dH}{ad':Nat→List Addr}{s₅:ae}(T:nN c A tg it κ G P)(K:CI c E β κ G P ρ D' O₀ F O ad ds q s)(G4:jV.s=s)(u:JR c β jV)(hW:∀a∈jV.W,a∉D'::(F++κ.K)∧a∈O)(hG:jV.G=[])(Qz:∀a∈D'::(F++κ.K),a∈jV.O)(hw:cy ρ ρ')(jA:Inv c E jV O ad' ρ' s₅):∃ou,CI c E β κ G P ρ D' O₀ F O ou ds q s₅:=by
 refine c0 (jA.weaken hw) λ ou DL gz=>?_;have g:aB c jV.W jV.G s s₅:=G4▸jA.grow;have Ed:∀i,∀a∈ou i,a∉jV.O:= λ i a ha=>(jA.small i a (gz i a ha)).2.2.2.2;have hD:D'∉jV.W:= λ h=>(hW _ h).1 (.head _);exact⟨ou,K.sub,⟨u.up DL,K.L.hF,K.L.hL,K.L.hC,λ i a ha hf=>Ed i a ha (Qz a (.tail _ hf)),K.L.hW,K.L.hG,λ g' h=>ab (K.L.Ge g' h) g.dv,
  K.L.hS.step g λ a h=>⟨K.L.hN a (hW a h).2,λ hk=>(hW a h).1 (.tail _ (ao _ hk))⟩,K.L.hN,K.L.hK⟩,K.hO,K.hF,λ i h=>Ed i _ h (Qz _ (.head _)),
  T.frame K.p g jA.br (λ a h hf=>(hW a h).1 (.tail _ (aF _ hf))) (λ g' h=>nomatch (hG▸h:g'∈[])),g.own (λ a h=>.inl (hW a h).2) (.refl O _) (λ a e h'=>hD (m1 e▸h')) (λ a e o h'=>.inr (m1 e▸g.get hD (K.L.I.E9 K.hO) (m1 e▸h'))) K.own⟩
theorem CI.put{q':OD}(T:nN c A tg it κ G P)(K:CI c E β κ G P ρ D' O₀ F O ad ds q s)(SX:D'∈κ.O∨κ.s.heap.objs.size≤D')(QB:D'≠E.env.locals)(QC:∀p∈E.env.cells,p.2≠D')(SY:BD β D')(x:aB c [D'] [] s s')(S:bF c s')(o:cT c O s'.heap (.ref D') q' [D']):CI c E β κ G P ρ D' O₀ F O ad ds q' s':=
 ⟨K.sub,⟨K.L.I.apart x S (λ a h=>.inl (m1 h▸K.hO)) (λ a h=>m1 h▸SY) (λ z=>nn) (λ h=>QB (m1 h)) (λ p hp h=>QC p hp (m1 h).symm) (λ i z a ha h=>K.hA i (m1 h▸ha)) (λ z h=>.inl h) (λ z h=>h),K.L.hF,K.L.hL,K.L.hC,K.L.hV,K.L.hW,K.L.hG,λ g h=>ab (K.L.Ge g h) x.dv,K.L.hS.step x λ a h=>m1 h▸ ⟨SX,λ h=>K.hF (ao _ h)⟩,K.L.hN,K.L.hK⟩,
  K.hO,K.hF,K.hA,T.frame K.p x S (λ a h hf=>K.hF (aF _ (m1 h▸hf))) (λ z=>nn),o⟩
theorem compLoop{X:Type}{q:List X→OD}{ap:List X→X→List X}{N:Nat}{ifs:List Expr}{cd:Code}{Ky:X→List Sl→Prop}{pt:(iw→ae→Prop)→ae→Prop}(Z:Vs c n E q ap N A D' tg ifs it cd Ky pt)(Xr:∀o y,(ap o y).length=o.length+1)(R:Rm A n)(T:nN c A tg it κ G P)(SX:D'∈κ.O∨κ.s.heap.objs.size≤D')(QB:D'≠E.env.locals)(QC:∀p∈E.env.cells,p.2≠D')(SY:BD β D'){f:D→Option X}{fin:List X}{Q:iw→ae→Prop}(hQ:∀F O ad s,(∀a∈O₀,a∈O)→LI c E β κ F G O ad ρ s→cT c O s.heap (.ref D') (q fin) [D']→Q (.ok .next) s):∀(ds:List D) (F O:List Addr) (o:List X) (ad:Nat→List Addr) (s:ae),(∀d∈ds,El c n E ρ tg ifs d (f d).isSome λ ρ'=>∀y,f d=some y→Ky y ρ')→(ds.filterMap f).foldl ap o=fin→o.length+ds.length≤N→
   CI c E β κ G P ρ D' O₀ F O ad ds (q o) s→codeAny (model c.prog c.w) A cd Q s:=by
 intro ds
 induction ds with
 |nil=>
  intro F O o ad s z e z K;refine Z.turn (wm (T.done K.L.I.br K.L.hS K.L.low K.p) λ r s' q=>?_);refine jH q ?_;clear q;intro z1 x S;subst z1;exact hQ _ _ _ _ (λ a h=>ao _ (K.sub a h)) (K.L.moved x S (.refl F s s')) ((show o=fin from e)▸K.moved x (.refl F s s'))
 |cons d ds ih=>
  intro F O o ad s hE e hN K;refine Z.turn (wm (T.next K.L.I.br K.L.hS K.L.low K.p) λ r au q=>?_);refine c0 q ?_;clear q;intro v z1 q;subst z1;refine wm q λ z aH q=>?_;refine tG q ?_;clear q;intro x S F' G8 r p;have r:=K.L.rep r G8
  replace K:=K.next x S G8 p
  clear x S p G8;generalize F'++O=BB at K r;refine eE (K.L.I.anchor (F:=D'::(F'++κ.K)) (λ a h=>(aD.mp h).elim (λ e=>e▸K.hO) (K.L.hF a)) (λ h=>(aD.mp h).elim (λ e=>QB e.symm) K.L.hL)
   (λ p hp h=>(aD.mp h).elim (λ e=>QC p hp e) (K.L.hC p hp)) (λ i z a ha h=>(aD.mp h).elim (λ e=>K.hA i (e▸ha)) (K.L.hV i a ha))) λ jV G4 u I' zh=>cg zh λ hW hG Qz z=>?_
  refine eE ((hE d (.head _)).ex) λ ρ' ht hw hi hk=>?_;refine wm (ht A jV BB ad aH v R I' r) λ z cq q=>?_;refine ew q ?_;clear q;intro ad' z jT z;refine wm (hi A jV BB ad' cq R jT) λ b d7 q=>?_;refine jH q ?_;clear q;intro z1 w6 xY;subst z1
  replace jT:=jT.fU w6 xY
  clear I' w6 xY r ht hi;have key:= λ s₅ jA=>K.back (s₅:=s₅) (ad':=ad') T G4 u hW hG Qz hw jA;have Iq:= λ d hd=>hE d (.tail _ hd);cases hf:f d with
  |none=>exact pN eu (xe (key d7 jT) λ ou G1=>ih F' BB o ou d7 Iq (eI hf▸e) (af (d_ (bq _) _) hN) G1)
  |some y=>
   refine pP rfl (Z.put (hk (by rw[hf];rfl) y hf) R jT K.hO (ab (jO (bB _)) hN) (λ s₅ jA=>xe (key s₅ jA) λ z G1=>G1.own) λ s₅ qo jA x S ow=>xe (key s₅ jA) λ ou G1=>?_);exact ih F' BB (ap o y) ou qo Iq (by rw[bz hf]at e;exact e) (by rw[Xr,eM,kh 1];exact hN) (G1.put T SX QB QC SY x S ow)
end
noncomputable abbrev kY(E:VE)(scope:iU)(tn:List Str)(ix:List Nat)(C:Addr):VE:=kL E (compEnvC scope (eR E.env.cells scope.names []) C E.env) tn ix
theorem aB.step{c:Cx}{s:ae}{h':Heap}{tk:Nat}(hz:s.heap.objs.size≤h'.objs.size)(hk:∀a o,s.heap.get? a=some o→h'.get? a=some o):aB c [] [] s {s with heap:=h',toks:=tk}:=
 .of_keep hz (λ a o z e=>hk a o e) λ z=>nn
theorem bF.step{c:Cx}{s:ae}{h':Heap}{tk:Nat}(S:bF c s)(hz:s.heap.objs.size≤h'.objs.size)(hk:∀a o,s.heap.get? a=some o→h'.get? a=some o):bF c {s with heap:=h',toks:=tk}:=
 S.at (O:=[]) hz (λ a o z e=>hk a o e) λ z=>nn
structure CB(c:Cx)(n:Nat)(E:VE)(scope:iU)(tn:List Str)(ix:List Nat){X:Type}(q:List X→OD)(ap:List X→X→List X)(N:Nat)(cp:Expr)(mk:Sem ag)(tg:Expr)(ifs:List Expr)(Ky:Addr→X→List Sl→Prop):Prop where
 QY:∀A it C D',∃pt,Vs c n (kY E scope tn ix C) q ap N A D' tg ifs it (.compLoop cp 0 it (.ref D') (kY E scope tn ix C).env) (Ky C) pt
 LK:∀o y,(ap o y).length=o.length+1
 start:∀{A:aK} {it acc:ag} {env:Env} {Q:iw→ae→Prop} {s:ae},codeAny (model c.prog c.w) A (.compLoop cp 0 it acc env) Q s→wpAny (model c.prog c.w) A (pyIter it) (λ V9 s'=>codeAny (model c.prog c.w) A (.compLoop cp 0 V9 acc env) Q s') (notedBy (model c.prog c.w) A env λ x s'=>Q (.error x) s') s→codeAny (model c.prog c.w) A (.compStart cp 0 it acc env) Q s
 new:∃mW:Obj,mW.isFreed=false∧(∀{A:aK} {Q:ag→ae→Prop} {X:ag→ae→Prop} {s:ae},Q (.ref s.heap.objs.size) {s with heap:=s.heap.push mW}→wpAny (model c.prog c.w) A mk Q X s)∧∀O h a,h.get? a=some mW→cT c O h (.ref a) (q []) [a]
theorem wV{Y:Type}{q:List Y→OD}{ap:List Y→Y→List Y}{N:Nat}{cp:Expr}{mk:Sem ag}{tg:Expr}{ifs:List Expr}{Ky:Addr→Y→List Sl→Prop}(Z:CB c n E scope tn ix q ap N cp mk tg ifs Ky){A:aK}{it:ag}{aH:ae}{ds:List D}{f:D→Option Y}{fin:List Y}{RR:ag→Addr→iw→ae→Prop}{X:ag→ae→Prop}(R:Rm A n)(I:Inv c E β O ad ρ s)(k:sH E.env E.vn scope tn ix)(x:aB c [] [] s aH)(S:bF c aH)(hi:iK c n tg O [] s ds it aH)(hlen:ds.length≤N)(F8:(ds.filterMap f).foldl ap []=fin)(hE:∀C,∀d∈ds,El c n (kY E scope tn ix C) (oT ρ tn ix) tg ifs d (f d).isSome λ ρ'=>∀y,f d=some y→Ky C y ρ')(Xy:∀D' C s',s.heap.objs.size≤D'→D'<s'.heap.objs.size→s.heap.objs.size≤C→C<s'.heap.objs.size→D'≠C→aB c [] [] s s'→bF c s'→cT c (D'::C::O) s'.heap (.ref D') (q fin) [D']→(∃m,s'.heap.Ns C m)→RR (.ref D') C (.ok .next) s'):
  wpAny (model c.prog c.w) A mk (λ acc cq=>wpAny (model c.prog c.w) A (newFunctionEnv scope E.env.globals (eR E.env.cells scope.names []) [] E.env.qual none .none (some E.env)) (λ dn d7=>
   codeAny (model c.prog c.w) A (.compStart cp 0 it acc {dn with scope:=relabel scope E.env}) (RR acc dn.locals) d7) X cq) X aH:=by
 refine cI Z.new λ mW Ou zq FX=>?_;refine zq (wpAny_newFunctionEnv k.E_ (by intro y hy;simp at hy) (λ ct Bj uA=>?_) k.kind);dsimp only at Bj uA⊢;refine dj hi ?_;clear hi;intro F G hF hG hi;refine c0 (hi A R) λ P T p=>?_;generalize SV:aH.heap.push mW=H2 at Bj uA⊢;have hC:H2.objs.size=aH.heap.objs.size+1:=by rw[← SV,aW]
 have vj:ct.objs.size=aH.heap.objs.size+2:=by rw[uA.1,aW,hC]
 have old:∀b o,aH.heap.get? b=some o→ct.get? b=some o:= λ b o e=>uA.extBut b o (dM (ab (aI e) (by rw[hC];exact bq _))) (aA _ (SV▸aA _ e));have SH:cT c (aH.heap.objs.size::H2.objs.size::(F++O)) ct (.ref aH.heap.objs.size) (q []) [aH.heap.objs.size]:=FX _ _ _ (uA.extBut _ _ (by show(aH.heap.objs.size:Nat)≠H2.objs.size;lia) (aA _ (SV▸av _ Ou)));have hz:aH.heap.objs.size≤ct.objs.size:=by exact vj▸cE _ _
 have w6:aB c [] [] aH {aH with heap:=ct,toks:=aH.toks+([]:List (Str×ag)).length}:=.step hz old;have xY:bF c {aH with heap:=ct,toks:=aH.toks+([]:List (Str×ag)).length}:=S.step hz old;generalize R1:({aH with heap:=ct,toks:=aH.toks+([]:List (Str×ag)).length}:ae)=d7 at w6 xY⊢;have hh:d7.heap=ct:=by rw[← R1]
 have N6:s.heap.objs.size≤aH.heap.objs.size:=x.size
 let O':=aH.heap.objs.size::H2.objs.size::(F++O)
 have Dy:∀a∈O',a∈O∨(s.heap.objs.size≤a∧a<d7.heap.objs.size):=by
  intro a h
  rcases mc h with rfl|h
  ·exact .inr ⟨N6,by rw[hh];exact GS vj⟩
  rcases mc h with rfl|h
  ·exact .inr ⟨by lia,by rw[hh];lia⟩
  rcases aC.mp h with h|h
  ·exact .inr ⟨(hF a h).1,ab (hF a h).2 (by rw[hh];lia)⟩
  ·exact .inl h
 have hn:d7.heap.Ns H2.objs.size (λ y=>([]:List (Str×ag)).reverse.lookup y):=by rw[hh];exact Bj
 have B:=I.block (O':=O') (W:=H2.objs.size::aH.heap.objs.size::F) (G:=G) k (x.trans w6) xY (.comp I.ok k H2.objs.size) ⟨show(s.heap.objs.size:Nat)≤H2.objs.size by lia,show(H2.objs.size:Nat)<d7.heap.objs.size by rw[hh];lia⟩ Dy (λ a h=>.tail _ (.tail _ (ao _ h))) (.tail _ (.head _)) ⟨_,hn⟩ (.head _);have XN:aH.heap.objs.size∉F:= λ h=>ak _ (hF _ h).2;have U_:H2.objs.size∉F:= λ h=>by have h':(H2.objs.size:Nat)<aH.heap.objs.size:=(hF _ h).2;lia
 have uD:∀q∈(kY E scope tn ix H2.objs.size).env.cells,q.2<s.heap.objs.size:=by
  intro q hq;have hq:q∈eR E.env.cells scope.names []:=hq;rw[pQ]at hq
  rcases hq with hq|⟨y,hy,hf,rfl⟩
  ·exact nn hq
  ·refine xe (dF.mp (k.cells I.ok y hy hf).2.2) λ a ha=>?_;show(E.env.cells.lookup y.1).getD 0<_;rw[ha];exact I.lt _ (I.tu _ (bu ha))
 have U1:∀i,∀a∈uS ad tn ix i,a<s.heap.objs.size:=by
  intro i a ha;unfold uS at ha
  split at ha
  ·exact nn ha
  ·split at ha
   ·rename_i j _;exact(I.small j a ha).2.1
   ·exact nn ha
 have hN:nM (F++O) O' aH:= λ a h=>by
  rcases mc h with rfl|h
  ·exact .inr (az _)
  rcases mc h with rfl|h
  ·exact .inr (show(aH.heap.objs.size:Nat)≤H2.objs.size by exact hC▸bq _)
  exact .inl h
 have L:LI c (kY E scope tn ix H2.objs.size) ⟨d7,[],O',H2.objs.size::aH.heap.objs.size::F,G⟩ ⟨aH,F++O,[]⟩ F G O' (uS ad tn ix) (oT ρ tn ix) d7:=by
  refine⟨B,λ a h=>?_,λ h=>?_,λ q hq h=>?_,λ i a ha h=>?_,
   λ a h=>⟨.inl (.tail _ (.tail _ h)),.inl (aF _ h),by simp⟩,λ g h=>.inl h,λ g h=>ab (hG g h).2 w6.dv,(cB.refl (c:=c) (k:=⟨aH,F++O,[]⟩)).step w6 (λ z=>nn),hN,λ z=>nn⟩
  all_goals rw[bM]at h
  ·exact .tail _ (.tail _ (aF _ h))
  ·exact U_ h
  ·exact ak _ (ab (uD q hq) (hF _ h).1)
  ·exact ak _ (ab (U1 i a ha) (hF _ h).1)
 have MS:P F ds d7:=T.frame p w6 xY (λ z=>nn) (λ z=>nn);refine xe (Z.QY A it H2.objs.size aH.heap.objs.size) λ pt Zs=>?_;have hf:codeAny (model c.prog c.w) A (.compLoop cp 0 it (.ref aH.heap.objs.size) (compEnvC scope (eR E.env.cells scope.names []) H2.objs.size E.env)) (RR (.ref aH.heap.objs.size) H2.objs.size) d7:=by
  refine compLoop Zs Z.LK R T (.inr (az _)) (show aH.heap.objs.size≠H2.objs.size by lia) (λ q hq e=>by have h:(q.2:Nat)<s.heap.objs.size:=uD q hq;rw[e]at h;exact ak _ (ab h N6)) (.inl (.tail _ (.head _))) (O₀:=O') (λ F' BA ad' s' gz L' nE=>?_) ds F O' [] (uS ad tn ix) d7 (hE _) F8 (by rw[dp,gW];exact hlen)
   ⟨λ z h=>h,L,.head _,by rw[bM];exact XN,λ i h=>ak _ (ab (U1 i _ h) N6),MS,by rw[hh];exact SH⟩
  have g':aB c [] [] s s':=(x.trans w6).comp L'.I.grow (λ a h=>.inr (by
   rcases mc h with rfl|h
   ·show(s.heap.objs.size:Nat)≤H2.objs.size;lia
   rcases mc h with rfl|h
   ·exact N6
   ·exact(hF a h).1)) λ g h=>.inr (hG g h).1
  refine Xy _ _ s' N6 (L'.I.lt _ (gz _ (.head _))) (show(s.heap.objs.size:Nat)≤H2.objs.size by lia) (L'.I.lt _ (gz _ (.tail _ (.head _)))) (show(aH.heap.objs.size:Nat)≠H2.objs.size by lia) g' L'.I.br ?_ L'.I.ns;refine(aB.refl ..).own (W:=[]) (G:=[]) (s:=s') (λ z=>nn) (λ a h=>.inl (gz a ?_)) (λ z z h=>(nn h)) (λ z z z e=>.inr e) nE
  rcases mc h with rfl|h
  ·exact .head _
  rcases mc h with rfl|h
  ·exact .tail _ (.head _)
  ·exact .tail _ (.tail _ (ao _ h))
 exact Z.start hf (wm (T.self L.I.br MS) λ v s' q=>by
  refine xa q ?_;clear q;intro z1 z2;cases z1;cases z2;exact hf)
theorem gF.JO{Y:Type}{q:List Y→OD}{ap:List Y→Y→List Y}{N:Nat}{cp:Expr}{mk:Sem ag}{tg iter:Expr}{ifs:List Expr}{pos:Pos}{Ky:Addr→Y→List Sl→Prop}{gs:List Comprehension}(Z:CB c n E scope tn ix q ap N cp mk tg ifs Ky)(k:sD E.env E.vn scope tn ix=true){ds:List D}(f:D→Option Y){fin:List Y}(he:eval cp E.env=comprehension cp scope E.env pos mk false (eval iter E.env))(uD:clausesOf cp=⟨tg,iter,ifs,0⟩::gs)(hi:kd c n E ρ iter tg (· =ds))(hlen:ds.length≤N)(F8:(ds.filterMap f).foldl ap []=fin)(hE:∀C,∀d∈ds,El c n (kY E scope tn ix C) (oT ρ tn ix) tg ifs d (f d).isSome λ ρ'=>∀y,f d=some y→Ky C y ρ')(hs:∀x,foldedSetIterable iter E.env x=pure x):gF c n E ρ cp (q fin):= λ A β O ad s R I=>by
 have k':=uR k;rw[he];refine wpAny_comprehension_free (use:=none) uD hs (pO λ x hx hf=>(k'.cells I.ok x hx hf).2.2) k'.kind k'.names (wm (hi A β O ad s R I) λ xv au ct=>wk ct λ it aH cM=>?_);refine nP cM ?_;clear cM;intro x S lK z1 Du;cases z1;refine wV Z (RR:= λ acc C=>compPost (model c.prog c.w) A aZ none _ acc C) R I k' x S Du hlen F8 hE ?_;intro D' C s' h1 h2 h3 h4 h5 g S' r hn;refine xe hn ?_;clear hn;intro m hn;refine⟨m,hn,λ pI rI=>?_⟩;have hk:∀a o,a∉ [C]→s'.heap.get? a=some o→pI.get? a=some o:= λ a o ha e=>rI.extBut a o (λ h=>ha (h▸ .head _)) e;have hz:s'.heap.objs.size≤pI.objs.size:=by rw[rI.1];exact az _
 have g2:aB c [C] [] s' {s' with heap:=pI}:=.of_keep (tk:=s'.toks) hz hk λ a ha o e=>by
  obtain rfl:=m1 ha;refine c_ hn ?_;clear hn;intro o' es ep nj iQ z;rw[e]at nj;cases nj;exact cP iQ
 have S2:bF c {s' with heap:=pI}:=S'.at (tk:=s'.toks) hz hk λ a ha=>by
  obtain rfl:=m1 ha;exact af I.br.size h3
 refine⟨[D'],g.comp g2 (λ a h=>by obtain rfl:=m1 h;exact .inr h3) (λ z=>nn),S2,?_,λ a h=>by obtain rfl:=m1 h;exact⟨h1,ab h2 hz⟩⟩;exact g2.own (λ a h=>by obtain rfl:=m1 h;exact .inl (.tail _ (.head _))) (λ a h=>.inl ((aD.mp h).elim (λ h=>h▸ .head _) λ h=>.tail _ (.tail _ h))) (λ a h h'=>h5 ((m1 h).trans (m1 h').symm)) (λ a h o e=>.inr (hk a o (λ h'=>h5 ((m1 h).trans (m1 h').symm)) e)) r
theorem uH{X:Type}:∀(l o:List X),l.foldl (λ o y=>o++[y]) o=o++l:=by
 intro w
 induction w with
 |nil=>
  intro o;exact(bM o).symm
 |cons y l ih=>
  intro o;exact(ih _).trans (j5 ..)
theorem yY{elt tg iter:Expr}{ifs:List Expr}{pos:Pos}:CB c n E scope tn ix .lst (λ o y=>o++[y]) 1000 (.ListComp elt [⟨tg,iter,ifs,0⟩] scope pos) (newList []) tg ifs λ C y ρ'=>Ev c n (kY E scope tn ix C) ρ' elt y where
 QY:= λ A it C D'=>⟨_,qL,λ hy R I hO hl FX hk=>hy.go R I λ QP s₅ AG jA CY=>by
  refine bO (FX s₅ jA) λ a vs e z y1 hr=>?_;cases e;refine dc (kn y1 (λ h' nE eN up=>?_) (cR (by rw[ba,hr.length];exact bX hl)));have i9:∀a o,a∉ [D']→s₅.heap.get? a=some o→h'.get? a=some o:= λ a o ha e=>eN.extBut a o (λ h=>ha (h▸ .head _)) e;have lb:s₅.heap.objs.size≤h'.objs.size:=by rw[eN.1];exact az _
  have Hh:aB c [D'] [] s₅ {s₅ with heap:=h'}:=.of_keep (tk:=s₅.toks) lb i9 λ a ha o e=>by
   obtain rfl:=m1 ha;refine bO y1 ?_;clear y1;intro o' z nj z z iQ;rw[e]at nj;cases nj;exact c8 iQ
  have mj:tC [D'] _ s₅:= λ a h=>.inl (m1 h▸hO);exact hk s₅ _ jA Hh (jA.br.at (tk:=s₅.toks) lb i9 λ a ha=>m1 ha▸jA.low _ hO) ⟨_,vs++[QP],rfl,rfl,by simpa using nE,a0.append (Hh.fk mj (.refl _ _) hr) (Hh.rep mj (.refl _ _) CY)⟩⟩
 LK:= λ o y=>aY
 start:=codeAny_compStart_list
 new:=⟨_,rfl,λ h=>bo h,λ O h a e=>⟨a,[],rfl,rfl,⟨_,_,e,rfl,rfl,rfl⟩,trivial⟩⟩
theorem gF.comp(k:sD E.env E.vn scope tn ix=true){elt tg iter:Expr}{ifs:List Expr}{pos:Pos}{ds:List D}(f:D→Option D)(hi:kd c n E ρ iter tg (· =ds))(hlen:ds.length≤1000)(hE:∀C,∀d∈ds,El c n (kY E scope tn ix C) (oT ρ tn ix) tg ifs d (f d).isSome λ ρ'=>∀y,f d=some y→Ev c n (kY E scope tn ix C) ρ' elt y)(hs:∀x,foldedSetIterable iter E.env x=pure x:=by intro z;rfl):gF c n E ρ (.ListComp elt [⟨tg,iter,ifs,0⟩] scope pos) (.lst (ds.filterMap f)):=
 gF.JO yY k f (eval_ListComp ..) rfl hi hlen (uH _ _) hE hs
theorem bc.oI(i:Nat){x:Str}{p:Pos}(k:sD E.env E.vn scope tn ix=true){elt tg iter:Expr}{ifs:List Expr}{pos pos':Pos}{ds:List D}(f:D→Option D)(hi:kd c n E ρ iter tg (· =ds))(hlen:ds.length≤1000)(hE:∀C,∀d∈ds,El c n (kY E scope tn ix C) (oT ρ tn ix) tg ifs d (f d).isSome λ ρ'=>∀y,f d=some y→Ev c n (kY E scope tn ix C) ρ' elt y)(hx:E.vn[i]? =some x)(WZ:i<E.k)(hl:i<ρ.length)(Wt:swapsWith (.ListComp elt [⟨tg,iter,ifs,0⟩] scope pos) (some (.Name x p)) pos'.line E.env=pure true)(hs:∀x,foldedSetIterable iter E.env x=pure x:=by intro z;rfl):bc c n E ρ (.Assign [.Name x p] (.ListComp elt [⟨tg,iter,ifs,0⟩] scope pos) pos') (.next (ρ.set i (.own true (.lst (ds.filterMap f))))):= λ A β s R w0=>by
 refine iB w0 ?_;clear w0;intro O ad I;have k':=uR k;rw[exec_Assign_Name_used _ _ _ _ Wt];refine aa (bS (aa ?_));show wpAny _ A (do let _ ← comprehension (.ListComp elt [⟨tg,iter,ifs,0⟩] scope pos) scope E.env _ (newList []) false (eval iter E.env) (some (assign (.Name x p) E.env))) _ _ s;refine wb (wpAny_comprehension_free (use:=some (assign (.Name x p) E.env)) (Q:= λ z s'=>mH c E β (.next (ρ.set i (.own true (.lst (ds.filterMap f))))) .next s') rfl hs (pO λ x hx hf=>(k'.cells I.ok x hx hf).2.2) k'.kind k'.names
  (wm (hi A β O ad s R I) λ xv au ct=>wk ct λ it aH cM=>?_)) λ z s' hq=>ah (ah hq)
 obtain⟨x',S,lK,rfl,Du⟩:=cM;refine wV yY (RR:= λ acc C=>compPost (model c.prog c.w) A aZ (some (assign (.Name x p) E.env)) (λ z s'=>mH c E β _ .next s') acc C) R I k' x' S Du hlen (uH _ _) hE ?_;intro D' C s' h1 h2 h3 h4 h5 g S' r hn;obtain⟨m,hn⟩:=hn;show wpAny _ A (assign (.Name x p) E.env (.ref D')) _ _ s'
 -- the list becomes the name's own, while the comprehension's names still stand
 have Ou:∀a∈[D'],s.heap.objs.size≤a∧a<s'.heap.objs.size:= λ a h=>by obtain rfl:=m1 h;exact⟨h1,h2⟩
 have bj:Inv c E β (D'::C::O) ad ρ s':=I.ua (W:=[D',C]) g S' λ a h=>by
  rcases mc h with rfl|h
  ·exact⟨h1,h2⟩
  ·obtain rfl:=m1 h;exact⟨h3,h4⟩
 have hC:∀a∈[C],a∈D'::C::O:= λ a h=>by obtain rfl:=m1 h;exact .tail _ (.head _)
 refine wp_bind bj WZ hx hl (sl:=.own true (.lst (lK.filterMap f))) (fp:=[D']) ⟨r,λ a ha=>?_⟩ (λ j z a ha h=>?_) λ k_ w cu iR hw FP=>?_
 ·rw[aj]at ha;subst ha;refine⟨.head _,λ e=>?_,λ q hq e=>?_,λ z=>.inr (af I.grow.size h1),λ h=>?_,h2⟩
  ·exact ak _ (ab (I.lt _ I.uG) (e▸h1))
  ·exact ak _ (ab (I.lt _ (I.tu q hq)) (e▸h1))
  ·exact ak _ (ab (I.n8 a h) (af I.grow.size h1))
 ·rw[aj]at ha;subst ha;exact ak _ (ab (I.small j a h).2.1 h1)
 ·have U9:C∉ [w]:= λ h=>by
   obtain rfl:=m1 h
   rcases FP with e|⟨q,hq,e⟩
   ·exact ak _ (ab (I.lt _ I.uG) (e▸h3))
   ·exact ak _ (ab (I.lt _ (I.tu q hq)) (e▸h3))
  refine⟨_,iR.ns U9 hn,λ pI rI=>?_⟩;have hk:∀a o,a∉ [C]→k_.heap.get? a=some o→pI.get? a=some o:= λ a o ha e=>rI.extBut a o (λ h=>ha (by simp[h])) e;have hz:k_.heap.objs.size≤pI.objs.size:=by rw[rI.1];exact az _
  have g3:aB c [C] [] k_ {k_ with heap:=pI}:=.of_keep (tk:=k_.toks) hz hk λ a ha o e=>by
   obtain rfl:=m1 ha;refine c_ (iR.ns U9 hn) λ o' es ep nj iQ z=>?_;rw[e]at nj;cases nj;exact cP iQ
  have S3:bF c {k_ with heap:=pI}:=cu.br.at (tk:=k_.toks) hz hk λ a ha=>by
   obtain rfl:=m1 ha;exact af I.br.size h3
  refine⟨rfl,_,_,cu.apart g3 S3 (λ a h=>.inl (hC a h)) (λ a h=>?_) (λ z=>nn) (λ h=>?_) (λ q hq h=>?_) (λ j z a ha h=>?_) (λ z h=>.inl h) λ z h=>h⟩
  ·obtain rfl:=m1 h;exact .inr (af I.grow.size h3)
  ·rw[aj]at h;exact ak _ (ab (I.lt _ I.uG) (h▸h3))
  ·rw[aj]at h;exact ak _ (ab (I.lt _ (I.tu q hq)) (h▸h3))
  ·rw[aj]at h;subst h;have ha:a∈(if j=i then [D']else ad j):=ha
   split at ha
   ·rw[aj]at ha;exact h5 ha.symm
   ·exact ak _ (ab (I.small j a ha).2.1 h3)
end
section
variable {c:Cx}{n:Nat}{E:VE}{ρ ρ':List Sl}{β:dH}{O O':List Addr}{ad:Nat→List Addr}{s s':ae}
set_option tactic.hygienic true in
theorem ib{M:qU}{A:aK}{tg:Expr}{I:Addr}{v:ag}{o:Obj}{T:String}{Q:Unit→ae→Prop}{X:ag→ae→Prop}(ho:s.heap.get? I=some o)(hc:o.cls=.type T)(hT:["enumerate","zip","dict_itemiterator","dict_reverseitemiterator","odict_iterator","itertools.zip_longest","itertools.pairwise"].contains T=false)(h:Q () s):wpAny M A (letOwnedTupleGo tg (.ref I) v) Q X s:=by
 have key:wpAny M A (do
   let(.ref r,.ref a):=((dQ I,v):ag×ag)|(return:Sem Unit)
   let o ← load r
   match o.cls,o.data with
   |.type n,.fields vs=>
    if ["enumerate","zip","dict_itemiterator","dict_reverseitemiterator","odict_iterator","itertools.zip_longest","itertools.pairwise"].contains n&&vs[0]? ==some (rawInt a)then
     rule "for.unpacks-the-owned-tuple"
     updateField r 0 .none
   |_,_=>pure ()) Q X s:=by
  cases v<;>first|exact ah h|skip
  refine aa (wpAny_load ho ?_);rw[hc];cases o.data<;>first|exact ah h|skip
  rename_i vs;simp only[hT,Bool.false_and,aR,if_false];exact ah h
 unfold letOwnedTupleGo;cases tg<;>first|exact ah h|exact key
theorem cB.JE{k:Snap}(h:cB c k s)(x:aB c [] [] s s'):cB c k s':=h.step x λ z=>nn
theorem cB.rep{k:Snap}{v:ag}{d:D}(h:cB c k s)(r:bh c.w k.O k.s.heap v d)(hO:nM k.O O k.s):bh c.w O s.heap v d:=by
 refine ew h ?_;clear h;intro V G' g hV;exact g.rep (λ a h=>(hV a h).1) hO r
theorem cB.isList{k:Snap}{a:Addr}{vs}(h:cB c k s)(ha:a∉k.O)(hl:k.s.heap.IsList a vs):s.heap.IsList a vs:=by
 refine ew h ?_;clear h;intro V G' g hV;refine g.isList (λ hm=>(hV a hm).1.elim ha λ hle=>?_) hl;refine c0 hl ?_;clear hl;intro o ho z;exact ak _ (ab (aI ho) hle)
theorem cB.isTup{k:Snap}{a:Addr}{vs}(h:cB c k s)(ha:a∉k.O)(hl:lQ k.s.heap a vs):lQ s.heap a vs:=by
 refine ew h ?_;clear h;intro V G' g hV;refine g.isTup (λ hm=>(hV a hm).1.elim ha λ hle=>?_) hl;refine c0 hl ?_;clear hl;intro o ho z;exact ak _ (ab (aI ho) hle)
theorem cB.nice{k:Snap}{F:List Addr}{s₀:ae}{v:ag}{d:D}(h:cB c k s)(r:bh c.w k.O k.s.heap v d):uZ c k F s₀ s v d:= λ O hO z=>h.rep r hO
theorem a0.at{w:a9}{h:Heap}{vs:List ag}{ds:List D}(r:a0 w O h vs ds){i:Nat}{d:D}:ds[i]? =some d→∃v,vs[i]? =some v∧bh w O h v d:=
 a0.ind (M:= λ vs ds=>∀i,ds[i]? =some d→∃v,vs[i]? =some v∧bh w O h v d) r (λ i e=>by cases e) (λ v z d' z q z ih i e=>by
  cases i with
  |zero=>exact⟨v,rfl,cG e▸q⟩
  |succ i=>exact ih i e) i
theorem SameBut.grow{h':Heap}{tk:Nat}{I:Addr}{o:Obj}(hs:c9 I s.heap h')(ho:s.heap.get? I=some o)(ht:qE o=false):aB c [I] [] s {s with heap:=h',toks:=tk}:=
 .of_keep (by rw[hs.1];exact az _) (λ a o' ha e=>hs.extBut a o' (λ h=>ha (by simp[h])) e) λ a ha o' e=>by
  rw[aj]at ha;subst ha;rw[ho]at e;cases e;exact ht
theorem SameBut.br{h':Heap}{tk:Nat}{I:Addr}(S:bF c s)(hs:c9 I s.heap h')(hl:c.B≤I):bF c {s with heap:=h',toks:=tk}:=
 S.at (O:=[I]) (by rw[hs.1];exact az _) (λ a o' ha e=>hs.extBut a o' (λ h=>ha (by simp[h])) e) λ a ha=>by rw[aj]at ha;subst ha;exact hl
theorem ExtBut.grow{h':Heap}{tk:Nat}{I:Addr}{o:Obj}(hz:s.heap.objs.size≤h'.objs.size)(hs:p_ I s.heap h')(ho:s.heap.get? I=some o)(ht:qE o=false):aB c [I] [] s {s with heap:=h',toks:=tk}:=
 .of_keep hz (λ a o' ha e=>hs a o' (λ h=>ha (by simp[h])) e) λ a ha o' e=>by
  rw[aj]at ha;subst ha;rw[ho]at e;cases e;exact ht
theorem ExtBut.br{h':Heap}{tk:Nat}{I:Addr}(S:bF c s)(hz:s.heap.objs.size≤h'.objs.size)(hs:p_ I s.heap h')(hl:c.B≤I):bF c {s with heap:=h',toks:=tk}:=
 S.at (O:=[I]) hz (λ a o' ha e=>hs a o' (λ h=>ha (by simp[h])) e) λ a ha=>by rw[aj]at ha;subst ha;exact hl
theorem nN.list{A:aK}{tg:Expr}{I ax:Addr}{k:Snap}{vs:List ag}{ds₀:List D}(hh:A.handled=none)(hl:k.s.heap.IsList ax vs.toArray)(hx:ax∉k.O)(hr:a0 c.w k.O k.s.heap vs ds₀)(hI:I∈k.O)(hK:I∉k.K):
  nN c A tg (.ref I) k [] (λ F ds s=>F=[I]∧∃i,s.heap.IsListIter I ax i∧ds=ds₀.drop i) where
 det:= λ h h'=>h.1.trans h'.1.symm
 frame:=by
  rintro F V G' ds s s' ⟨rfl,i,⟨o,ho,hc,hd⟩,e⟩ x S hV _
  exact⟨rfl,i,⟨o,x.keep _ _ (λ h=>hV _ h (.head _)) ho (bW (by rw[hc];trivial)),hc,hd⟩,e⟩
 next:= λ {F ds d s} S hs hB w0=>by
  refine mq w0 ?_;clear w0;intro hF i fV e;subst hF;have e':ds₀[i]? =some d:=by
   have:(ds₀.drop i)[0]? =some d:=by rw[← e];rfl
   simpa using this
  refine c0 (hr.at e') λ v hv r=>?_;refine cI (id fV) λ o ho hc hd=>?_;refine wpAny_pyNext_list_item fV (hs.isList hx hl) (by simpa using hv) λ h' mY eN=>⟨v,rfl,?_⟩;refine cI (id mY) λ o' nj G9 iQ=>?_;have g:aB c [I] [] s {s with heap:=h'}:=SameBut.grow (tk:=s.toks) eN ho (bW (by rw[hc];trivial));refine ib nj G9 (by decide) ⟨g,SameBut.br (tk:=s.toks) S eN (hB I (.head _)),[I],rW.refl _ _ _,(hs.step g λ a h=>by obtain rfl:=m1 h;exact⟨.inl hI,hK⟩).nice r,rfl,i+1,mY,?_⟩;have:ds=(ds₀.drop i).tail:=by rw[← e];rfl
  rw[this,qa]
 done:= λ {F s} S hs hB w0=>by
  refine mq w0 ?_;clear w0;intro hF i fV e;subst hF;refine cI (id fV) λ o ho hc hd=>?_;have hle:ds₀.length≤i:=by simpa using e.symm
  refine dc (wpAny_pyNext_list_end hh fV (hs.isList hx hl) (by rw[← hr.length]at hle;simpa using hle) λ h' he up=>⟨rfl,ExtBut.grow (tk:=s.toks) up.heap he ho (bW (by rw[hc];trivial)),ExtBut.br (tk:=s.toks) S up.heap he (hB I (.head _))⟩)
 self:= λ {A' F ds s} S w0=>by refine mq w0 ?_;clear w0;intro z i fV z;exact wpAny_pyIter_listiter fV ⟨rfl,rfl⟩
theorem Ib.list{tg:Expr}{ds:List D}:Ib c n tg (.lst ds) (· =ds):= λ A O s v R K r=>by
 refine bh.n7 r ?_;clear r;intro a vs ha hl r;have hl:=hl.isList;refine wpAny_pyIter_list hl ?_;have g:aB c [] [] s {s with heap:=s.heap.push {cls:=.type "list_iterator",data:=.fields #[.ref a,.int 0 0]}}:=aB.push (tk:=s.toks);have zz:a≠s.heap.objs.size:=let⟨o,ho,_⟩:=hl;dM (aI ho)
 refine⟨g,K.br.push (tk:=s.toks),ds,rfl,[s.heap.objs.size],[],λ b h=>?_,λ z=>nn,λ A' R'=>⟨_,nN.list (vs:=vs) (ds₀:=ds) (ax:=a) R'.handled (hl.push _) (λ h=>?_) ?_ (.head _) (by simp),rfl,0,⟨_,av _ rfl,rfl,rfl⟩,rfl⟩⟩
 ·rw[aj]at h;subst h;exact⟨az _,by rw[aW];exact aS _⟩
 ·rcases aC.mp h with h|h
  ·exact zz (aj.mp h)
  ·exact ha h
 ·exact g.fk (λ z=>nn) (λ b h=>(aC.mp h).elim (λ h=>.inr (by rw[aj]at h;exact h▸az _)) .inl) r
theorem nN.tuple{A:aK}{tg:Expr}{I ax:Addr}{k:Snap}{vs:List ag}{ds₀:List D}(hh:A.handled=none)(hl:lQ k.s.heap ax vs.toArray)(hx:ax∉k.O)(hr:a0 c.w k.O k.s.heap vs ds₀)(hI:I∈k.O)(hK:I∉k.K):
  nN c A tg (.ref I) k [] (λ F ds s=>F=[I]∧∃i,s.heap.IsTupleIter I ax i∧ds=ds₀.drop i) where
 det:= λ h h'=>h.1.trans h'.1.symm
 frame:=by
  rintro F V G' ds s s' ⟨rfl,i,⟨o,ho,hc,hd⟩,e⟩ x S hV _
  exact⟨rfl,i,⟨o,x.keep _ _ (λ h=>hV _ h (.head _)) ho (bW (by rw[hc];trivial)),hc,hd⟩,e⟩
 next:= λ {F ds d s} S hs hB w0=>by
  refine mq w0 ?_;clear w0;intro hF i fV e;subst hF;have e':ds₀[i]? =some d:=by
   have:(ds₀.drop i)[0]? =some d:=by rw[← e];rfl
   simpa using this
  refine c0 (hr.at e') λ v hv r=>?_;refine cI (id fV) λ o ho hc hd=>?_;refine wpAny_pyNext_tuple_item fV (hs.isTup hx hl) (by simpa using hv) λ h' mY eN=>⟨v,rfl,?_⟩;refine cI (id mY) λ o' nj G9 iQ=>?_;have g:aB c [I] [] s {s with heap:=h'}:=SameBut.grow (tk:=s.toks) eN ho (bW (by rw[hc];trivial));refine ib nj G9 (by decide) ⟨g,SameBut.br (tk:=s.toks) S eN (hB I (.head _)),[I],rW.refl _ _ _,(hs.step g λ a h=>by obtain rfl:=m1 h;exact⟨.inl hI,hK⟩).nice r,rfl,i+1,mY,?_⟩;have:ds=(ds₀.drop i).tail:=by rw[← e];rfl
  rw[this,qa]
 done:= λ {F s} S hs hB w0=>by
  refine mq w0 ?_;clear w0;intro hF i fV e;subst hF;refine cI (id fV) λ o ho hc hd=>?_;have hle:ds₀.length≤i:=by simpa using e.symm
  refine dc (wpAny_pyNext_tuple_end hh fV (hs.isTup hx hl) (by rw[← hr.length]at hle;simpa using hle) λ h' he up=>⟨rfl,ExtBut.grow (tk:=s.toks) up.heap he ho (bW (by rw[hc];trivial)),ExtBut.br (tk:=s.toks) S up.heap he (hB I (.head _))⟩)
 self:= λ {A' F ds s} S w0=>by refine mq w0 ?_;clear w0;intro z i fV z;exact wpAny_pyIter_tupleiter fV ⟨rfl,rfl⟩
theorem Ib.tuple{tg:Expr}{ds:List D}:Ib c n tg (.tup ds) (· =ds):= λ A O s v R K r=>by
 refine bh.ql r ?_;clear r;intro a vs ha hl r;refine wpAny_pyIter_tuple hl ?_;have g:aB c [] [] s {s with heap:=s.heap.push {cls:=.type "tuple_iterator",data:=.fields #[.ref a,.int 0 0]}}:=aB.push (tk:=s.toks);have zz:a≠s.heap.objs.size:=let⟨o,ho,_⟩:=hl;dM (aI ho)
 refine⟨g,K.br.push (tk:=s.toks),ds,rfl,[s.heap.objs.size],[],λ b h=>?_,λ z=>nn,λ A' R'=>⟨_,nN.tuple (vs:=vs) (ds₀:=ds) (ax:=a) R'.handled (hl.push _) (λ h=>?_) ?_ (.head _) (by simp),rfl,0,⟨_,av _ rfl,rfl,rfl⟩,rfl⟩⟩
 ·rw[aj]at h;subst h;exact⟨az _,by rw[aW];exact aS _⟩
 ·rcases aC.mp h with h|h
  ·exact zz (aj.mp h)
  ·exact ha h
 ·exact g.fk (λ z=>nn) (λ b h=>(aC.mp h).elim (λ h=>.inr (by rw[aj]at h;exact h▸az _)) .inl) r
noncomputable def qu(a b:Int):List Int:=(ay (b-a).toNat).map λ (i:Nat)=>a+(i:Int)
theorem wg{a b:Int}(h:a<b):qu a b=a::qu (a+1) b:=by
 obtain⟨m,rfl⟩:=Int.le.dest h;unfold qu;rw[show a+1+(m:Int) -a=((m+1:Nat):Int) by lia,show a+1+(m:Int) -(a+1)=m by lia,eT,eT,List.range_succ_eq_map,a_,bK];refine congr (congrArg _ (Int.add_zero a)) (ck λ i z=>?_);show a+((i+1:Nat):Int)=a+1+(i:Int);rw[x_,Int.add_assoc,oZ 1];rfl
theorem ER{a b:Int}(h:b≤a):qu a b=[]:=by
 unfold qu;rw[Int.toNat_of_nonpos (Int.sub_nonpos_of_le h)];rfl
theorem we{x b left:Int}(hl:left=b-x∨(left≤0∧b≤x))(h:x<b):left=b-x:=hl.elim id λ q=>absurd h (s5.mpr q.2)
theorem nN.range{A:aK}{tg:Expr}{I:Addr}{k:Snap}{b:Int}(hh:A.handled=none)(hI:I∈k.O)(hK:I∉k.K):
  nN c A tg (.ref I) k [] (λ F ds s=>F=[I]∧∃x left,IsRangeIter s.heap I x left 1∧(left=b-x∨(left≤0∧b≤x))∧ds=(qu x b).map D.int) where
 det:= λ h h'=>h.1.trans h'.1.symm
 frame:=by
  rintro F V G' ds s s' ⟨rfl,x,left,fV,hl,e⟩ g S hV _
  exact⟨rfl,x,left,g.keep _ _ (λ h=>hV _ h (.head _)) fV (bW (by simp)),hl,e⟩
 next:= λ {F ds d s} S hs hB w0=>by
  obtain⟨hF,x,left,fV,hl,e⟩:=w0;subst hF;have gE:x<b:=by
   rcases u7 x b with h|h
   ·exact h
   ·rw[ER h]at e;cases e
  rw[wg gE,a_]at e;injection e with e1 e2
  subst e1;refine wpAny_pyNext_range_item fV (we hl gE▸Int.sub_pos_of_lt gE) λ h' mY eN=>⟨_,rfl,?_⟩;have g:aB c [I] [] s {s with heap:=h',toks:=s.toks+1}:=SameBut.grow eN fV (bW (by simp));refine ib mY rfl (by decide) ⟨g,SameBut.br S eN (hB I (.head _)),[I],rW.refl _ _ _,λ O z z=>by exact⟨_,rfl⟩,rfl,x+1,left-1,mY,.inl (by rw[we hl gE,Int.sub_sub]),e2⟩
 done:= λ {F s} S hs hB w0=>by
  obtain⟨hF,x,left,fV,hl,e⟩:=w0;subst hF;have hle:b≤x:=by
   rcases u7 x b with h|h
   ·rw[wg h]at e;cases e
   ·exact h
  refine dc (wpAny_pyNext_range_end hh fV (hl.elim (λ e=>e▸Int.sub_nonpos_of_le hle) And.left) λ h' he up=>⟨rfl,ExtBut.grow (tk:=s.toks) up.heap he fV (bW (by simp)),ExtBut.br (tk:=s.toks) S up.heap he (hB I (.head _))⟩)
 self:= λ {A' F ds s} S w0=>by obtain⟨_,x,left,fV,_⟩:=w0;exact wpAny_pyIter_rangeiter fV ⟨rfl,rfl⟩
theorem sg{a b:Int}(ha: -1000≤a)(G_:a≤1000)(hb: -1000≤b)(wH:b≤1000):w5 a b 1=true:=by
 have h1:∀x:Int,-4000≤x→x≤4000→rd x=true:= λ x h1 h2=>by
  unfold rd;simp;lia
 have h2: -4000≤fG a b 1∧fG a b 1≤4000:=by
  unfold fG;simp
  split<;>lia
 unfold w5;simp only[h1 a (by lia) (by lia),h1 b (by lia) (by lia),h1 1 (by trivial) (by trivial),h1 _ h2.1 h2.2,h1 (b+(1-1)) (by lia) (by lia)];simp
theorem Ib.range{tg:Expr}{a b:Int}(ha: -1000≤a)(G_:a≤1000)(hb: -1000≤b)(wH:b≤1000):Ib c n tg (.D5 a b) (· =(qu a b).map D.int):= λ A O s v R K r=>by
 refine bh.ES r ?_;clear r;intro r t u t' hr ho;refine wpAny_pyIter_range ho (sg ha G_ hb wH) ?_;refine⟨aB.push (tk:=s.toks),K.br.push (tk:=s.toks),_,rfl,[s.heap.objs.size],[],λ b h=>?_,λ z=>nn,λ A' R'=>⟨_,nN.range (b:=b) R'.handled (.head _) (by simp),rfl,a,_,av _ rfl,?_,rfl⟩⟩
 ·rw[aj]at h;subst h;exact⟨az _,by rw[aW];exact aS _⟩
 ·unfold fG;simp
  split<;>omega
end
section
set_option backward.match.sparseCases false
noncomputable def xZ(c:Cx)(n:Nat)(E:VE)(ρ:List Sl)(e:Expr)(d:D):Prop:=
 ∀(A:aK) (β:dH) (O:List Addr) (ad:Nat→List Addr) (s:ae),Rm A n→Inv c E β O ad ρ s→wpAny (model c.prog c.w) A (eval e E.env)
  (λ v s'=>aB c [] [] s s'∧bF c s'∧∀O',(∀a∈O',a<s.heap.objs.size)→bh c.w O' s'.heap v d) aZ s
section
variable {c:Cx}{n:Nat}{E:VE}{ρ ρ':List Sl}{scope:iU}{tn:List Str}{ix:List Nat}{β:dH}{O O':List Addr}{ad:Nat→List Addr}{s s':ae}
theorem xZ.ev{e:Expr}{d:D}(h:xZ c n E ρ e d):Ev c n E ρ e d:= λ A β O ad s R I=>
 wm (h A β O ad s R I) λ v s' q=>⟨q.1,q.2.1,q.2.2 O I.lt⟩
noncomputable def D.flat:D→Bool
 |.none|.bool _|.int _|.str _=>true
 |_=>false
theorem bh.flat{w:a9}{O O':List Addr}{h:Heap}{v:ag}{d:D}(hd:d.flat=true)(r:bh w O h v d):bh w O' h v d:=by
 cases d<;>first|(exact r)|cases hd
theorem Ev.flat{e:Expr}{d:D}(h:Ev c n E ρ e d)(hd:d.flat=true):xZ c n E ρ e d:= λ A β O ad s R I=>
 wm (h A β O ad s R I) λ v s' q=>⟨q.1,q.2.1,λ O' z=>q.2.2.flat hd⟩
theorem bF.gen{g:Nat}{x:mh}(S:bF c s)(hx:x.bare=true):bF c (s.setGen g x):=by
 refine⟨S.ok,S.fZ,S.nolimit,S.g,S.b,S.mod,S.tab,λ y hy=>?_,S.size⟩;have hy:y∈s.gens.setIfInBounds g x:=hy
 rcases Array.mem_or_eq_of_mem_setIfInBounds hy with h|h
 ·exact S.bare y h
 ·subst h;exact hx
theorem aB.gen{g:Nat}{x:mh}:aB c [] [g] s (s.setGen g x):=
 ⟨az _,λ z z z e z=>e,λ z z e z=>.inl e,λ g' y hg e=>by
  have:g≠g':= λ h=>hg (by simp[h]);show(s.gens.setIfInBounds g x)[g']? =some y;rw[lP,if_neg this];exact e,by show s.gens.size≤(s.gens.setIfInBounds g x).size;simp,rfl⟩
structure Gx where
 elt:Expr
 tg:Expr
 iter:Expr
 ifs:List Expr
 scope:iU
 pos:Pos
noncomputable abbrev Gx.e(x:Gx):Expr:=.GeneratorExp x.elt [⟨x.tg,x.iter,x.ifs,0⟩] x.scope x.pos
noncomputable def yc(k:Snap)(el F:List Addr)(t:ae):Prop:=∀a∈F,(a∈el∨k.s.heap.objs.size≤a)∧a<t.heap.objs.size
noncomputable def gR(c:Cx)(C:Addr)(fF:List Addr→List D→ae→Prop)(g:Nat)(eA:List Nat):GenEnd:= λ n s₀ r au=>r=.ok .next∧(n=0∧(∀F ds,fF F ds s₀→aB c (C::F) (g::eA) s₀ au)∧bF c au)
noncomputable def IX(c:Cx)(k:Snap)(C:Addr)(F:List Addr)(eA:List Nat)(s k_:ae):Prop:=
 bF c k_∧cB c k k_∧∃V G',aB c V G' s k_∧(∀a∈V,a≠C∧a∉F)∧∀g'∈G',g'∉eA∧g'<s.gens.size∨s.gens.size≤g'
noncomputable def gY(c:Cx)(k:Snap)(C:Addr)(el:List Addr)(fF:List Addr→List D→ae→Prop)(g:Nat)(eA:List Nat)(eK:List D):Protocol:= λ m s₀ v au V8=>
 ∃d F',eK.reverse[m]? =some d∧(∃ds,fF F' ds au)∧yc k el F' au∧uZ c k (C::F') s₀ au v d∧(∀F ds,fF F ds s₀→aB c (C::F) (g::eA) s₀ au∧rW F F' s₀ au)∧bF c au∧∀k_,IX c k C F' eA au k_→V8 (.send .none) k_
structure pT(c:Cx)(n:Nat)(A:aK)(E:VE)(ρ:List Sl)(β:dH)(O:List Addr)(ad:Nat→List Addr)(s:ae)(x:Gx)(tn:List Str)(ix:List Nat)(dn:Env)(C:Addr)(it:ag)(k κ:Snap)(el:List Addr)(eA:List Nat)
  (fF:List Addr→List D→ae→Prop)(f:D→Option D)(ds:List D):Prop where
 I:Inv c E β O ad ρ s
 Vr:sH E.env E.vn x.scope tn ix
 env:DN E.env dn x.scope C
 R:Rm A (n+1)
 co:dn.scope.isCoroutine=false
 up:aB c [] [] s κ.s
 J3:aB c [] [] κ.s k.s
 hC:κ.s.heap.objs.size≤C∧C<k.s.heap.objs.size
 kO:∀a∈O,a∈k.O
 kF:∀a∈el,a∈k.O
 kC:C∈k.O
 kK:k.K=O
 kN:∀a∈k.O,a∈el++O∨(κ.s.heap.objs.size≤a∧a<k.s.heap.objs.size)
 QK:κ.O=el++O
 TV:κ.K=[]
 T:nN c (A.over (.compLoop x.e 0 it .none dn) []) x.tg it κ eA fF
 hF:∀a∈el,s.heap.objs.size≤a∧a<κ.s.heap.objs.size
 E:∀d∈ds,El c n (kL E dn tn ix) (oT ρ tn ix) x.tg x.ifs d (f d).isSome λ ρ'=>∀y,f d=some y→xZ c n (kL E dn tn ix) ρ' x.elt y
theorem Rm.over{A:aK}{e:Expr}{it:ag}{dn:Env}{gens:List Comprehension}{pos:Pos}{n:Nat}(R:Rm A (n+1)):Rm (A.over (.compLoop (.GeneratorExp e gens scope pos) 0 it .none dn) []) n:=
 ⟨R.handled,by have:=R.depth;show A.depth+1+n<_;exact GU this,uj (j:=3) (by decide) R.units⟩
section
variable {A:aK}{x:Gx}{dn:Env}{C:Addr}{it:ag}{k κ:Snap}{el F F':List Addr}{eA:List Nat}{fF:List Addr→List D→ae→Prop}{f:D→Option D}{ds:List D}{g:Nat}
theorem pT.since(H:pT c n A E ρ β O ad s x tn ix dn C it k κ el eA fF f ds){t:ae}(h:cB c k t):cB c κ t:=by
 refine ew h ?_;clear h;intro V G' y hV;refine⟨V,G',(H.J3.mono (λ z=>nn) λ z=>nn).trans y,λ a h=>⟨?_,by rw[H.TV];exact nn⟩⟩;rw[H.QK]
 rcases(hV a h).1 with h1|h1
 ·exact(H.kN a h1).imp id And.left
 ·exact .inr (af H.J3.size h1)
theorem pT.zs(H:pT c n A E ρ β O ad s x tn ix dn C it k κ el eA fF f ds):s.heap.objs.size≤k.s.heap.objs.size:=af H.up.size H.J3.size
theorem pT.low(H:pT c n A E ρ β O ad s x tn ix dn C it k κ el eA fF f ds){t:ae}(hF:yc k el F t):∀a∈F,c.B≤a:= λ a h=>af H.I.br.size ((hF a h).1.elim (λ h=>(H.hF a h).1) λ h=>af H.zs h)
theorem pT.M6(H:pT c n A E ρ β O ad s x tn ix dn C it k κ el eA fF f ds){t:ae}(hF:yc k el F t):C∉F:= λ h=>(hF C h).1.elim (λ h=>ak _ (ab (H.hF _ h).2 H.hC.1)) λ h=>ak _ (ab H.hC.2 h)
theorem pT.KG(H:pT c n A E ρ β O ad s x tn ix dn C it k κ el eA fF f ds){t:ae}(hF:yc k el F t):∀a∈C::F,(a∈k.O∨k.s.heap.objs.size≤a)∧a∉k.K:= λ a h=>by
 rw[H.kK]
 rcases mc h with rfl|h
 ·exact⟨.inl H.kC,λ ho=>ak _ (ab (H.I.lt _ ho) (af H.up.size H.hC.1))⟩
 ·rcases(hF a h).1 with h|h
  ·exact⟨.inl (H.kF a h),λ ho=>ak _ (ab (H.I.lt _ ho) (H.hF a h).1)⟩
  ·exact⟨.inr h,λ ho=>ak _ (ab (H.I.lt _ ho) (af H.zs h))⟩
theorem yc.step{t ma:ae}(h:yc k el F t)(hu:rW F F' t ma)(hk:k.s.heap.objs.size≤t.heap.objs.size)(hz:t.heap.objs.size≤ma.heap.objs.size):yc k el F' ma:= λ a ha=>(hu a ha).elim (λ ha=>⟨(h a ha).1,ab (h a ha).2 hz⟩) λ ha=>⟨.inr (af hk ha.1),ha.2⟩
theorem yc.later{t ma:ae}(h:yc k el F t)(hz:t.heap.objs.size≤ma.heap.objs.size):yc k el F ma:= λ a ha=>⟨(h a ha).1,ab (h a ha).2 hz⟩
theorem pT.block(H:pT c n A E ρ β O ad s x tn ix dn C it k κ el eA fF f ds){t:ae}(h:cB c k t)(S:bF c t)(hn:∃m,t.heap.Ns C m)(Ip:yc k el F t):
  ∃ad',Inv c (kL E dn tn ix) ⟨t,[],C::(F++O),[C],[]⟩ (C::(F++O)) ad' (oT ρ tn ix) t:=by
 refine ew h ?_;clear h;intro V G' y hV;have gE:k.s.heap.objs.size≤t.heap.objs.size:=y.size;have vk:s.heap.objs.size≤κ.s.heap.objs.size:=H.up.size;have RX:κ.s.heap.objs.size≤k.s.heap.objs.size:=H.J3.size;have g:aB c [] G' s t:=by
  refine(((H.up.trans H.J3).mono (O':=[]) (G':=G') (λ z=>nn) λ z=>nn)).comp y (λ a h=>.inr ?_) (λ g h=>.inl h)
  rcases(hV a h).1 with h1|h1
  ·rcases H.kN a h1 with h2|h2
   ·rcases aC.mp h2 with h2|h2
    ·exact(H.hF a h2).1
    ·exact absurd (H.kK▸h2) (hV a h).2
   ·exact af vk h2.1
  ·exact af vk (af RX h1)
 exact⟨_,H.I.block H.Vr g S H.env ⟨af vk H.hC.1,ab H.hC.2 gE⟩ (λ a h=>by
  rcases mc h with rfl|h
  ·exact .inr ⟨af vk H.hC.1,ab H.hC.2 gE⟩
  rcases aC.mp h with h|h
  ·exact .inr ⟨(Ip a h).1.elim (λ h=>(H.hF a h).1) λ h=>af H.zs h,(Ip a h).2⟩
  ·exact .inl h) (λ a h=>.tail _ (ao _ h)) (.head _) hn (.head _)⟩
theorem uZ.of{k:Snap}{F:List Addr}{s₀ au:ae}{v:ag}{d:D}{t:ae}(hz:s₀.heap.objs.size≤t.heap.objs.size)(hF:∀a∈F,a<t.heap.objs.size)(h:∀O',(∀a∈O',a<t.heap.objs.size)→bh c.w O' au.heap v d):uZ c k F s₀ au v d:=
 λ O z h2=>h O λ a ha=>(h2 a ha).elim (λ h=>ab h hz) (hF a)
theorem EK(H:pT c n A E ρ β O ad s x tn ix dn C it k κ el eA fF f ds)(hg:g∉eA):∀(oq pre zN:List D) (lW F:List Addr) (s₀ t:ae),zN++oq=ds→pre++oq.filterMap f=ds.filterMap f→bF c t→cB c k t→(∃m,t.heap.Ns C m)→fF F oq t→yc k el F t→(∃lK,fF lW lK s₀)→rW lW F s₀ t→aB c (C::lW) (g::eA) s₀ t→g<t.gens.size→
  Seg (model c.prog c.w) A (gR c C fF g eA) (gY c k C el fF g eA (ds.filterMap f)) (oq.filterMap f).length s₀ (.compLoop x.e 0 it .none dn) ((model c.prog c.w).den (.compLoop x.e 0 it .none dn)) [] t:=by
 have XR:dn.locals=C:=H.env.locals;intro oq
 induction oq with
 |nil=>
  intro pre zN lW F s₀ t hd Bh S hs hn p Ip Bi G8 hG K8;show Seg _ A _ _ _ s₀ _ ((compTurn (.GeneratorExp x.elt [⟨x.tg,x.iter,x.ifs,0⟩] x.scope x.pos) 0 it .none dn).onRaise (leaving dn)) [] t;rw[compTurn_gen,gc];refine dD (bS ?_);refine dD (wm (H.T.done S (H.since hs) (H.low Ip) p) λ r t' q=>?_);refine jH q ?_;clear q;intro z1 y S';subst z1;refine seg_end (.ok .next) ⟨rfl,rfl,λ P0 JH FU=>?_,S'⟩;refine xe Bi ?_;clear Bi;intro lK Bi;rw[H.T.det FU Bi];exact hG.comp y (λ a h=>(G8 a h).imp (λ h=>.tail _ h) And.left) λ g h=>.inl (.tail _ h)
 |cons d oq ih=>
  intro pre zN lW F s₀ t hd Bh S hs hn p Ip Bi G8 hG K8;show Seg _ A _ _ _ s₀ _ ((compTurn (.GeneratorExp x.elt [⟨x.tg,x.iter,x.ifs,0⟩] x.scope x.pos) 0 it .none dn).onRaise (leaving dn)) [] t;rw[compTurn_gen,gc];refine dD (bS ?_);refine dD (wm (H.T.next S (H.since hs) (H.low Ip) p) λ r er q=>?_);refine c0 q ?_;clear q;intro v z1 q;subst z1;refine dD (wm q λ j ma q=>?_);refine tG q ?_;clear q;intro y jy F' hu hv rt;have zF:yc k el F' ma:=Ip.step hu hs.size y.size;have mE:=hs.step y λ a h=>H.KG Ip a (.tail _ h);refine xe hn ?_;clear hn;intro m hn;have Cg:ma.heap.Ns C m:=y.ns (H.M6 Ip) hn;refine xe (H.block mE jy ⟨m,Cg⟩ zF) λ ad' cu=>?_;have Xb:d∈ds:=by rw[← hd];exact ao _ (.head _)
  refine eE ((H.E d Xb).ex) λ ρ' ht hw hi hk=>?_;have R2:bh c.w (C::(F'++O)) ma.heap v d:=by
   refine hv _ (λ a h=>?_) λ a h=>?_
   ·rw[H.QK]
    rcases mc h with rfl|h
    ·exact .inr H.hC.1
    rcases aC.mp h with h|h
    ·exact(zF a h).1.imp (λ h=>aF _ h) λ h=>af H.J3.size h
    ·exact .inl (ao _ h)
   ·have hz:=hs.size
    rcases mc h with rfl|h
    ·exact .inl (ab H.hC.2 hz)
    ·rcases aC.mp h with h|h
     ·exact .inr h
     ·exact .inl (ab (H.I.lt a h) (af H.zs hz))
  have R':Rm (A.over (.compLoop x.e 0 it .none dn) []) n:=H.R.over;refine dD (wm (ht _ _ _ _ ma v R' cu R2) λ j QS q=>?_);refine dj q ?_;clear q;intro zY W jT Vv hW;refine dD (wm (hi _ _ _ _ QS R' jT) λ b Hn q=>?_);refine jH q ?_;clear q;intro z1 QN xY;subst z1;have i5:=jT.fU QN xY;have F3:∀sO ou,Inv c (kL E dn tn ix) ⟨ma,[],C::(F'++O),[C],[]⟩ (C::(F'++O)) ou ρ' sO→cB c k sO∧(∃m,sO.heap.Ns C m)∧fF F' oq sO∧aB c (C::lW) (g::eA) s₀ sO∧g<sO.gens.size∧rW lW F' s₀ sO∧yc k el F' sO:=by
   intro sO ou jA;have Ig:s₀.heap.objs.size≤t.heap.objs.size:=hG.size;have RK:ma.heap.objs.size≤sO.heap.objs.size:=jA.grow.size;refine⟨mE.step jA.grow λ a h=>H.KG zF a (by obtain rfl:=m1 h;exact .head _),?_,H.T.frame rt jA.grow jA.br (λ a h=>by obtain rfl:=m1 h;exact H.M6 zF) (λ j=>nn),
    (hG.comp y (λ a h=>(G8 a h).imp (λ h=>.tail _ h) And.left) λ g h=>.inl (.tail _ h)).trans (jA.grow.mono (λ a h=>.inl (by obtain rfl:=m1 h;exact .head _)) λ j=>nn),ab K8 (af y.dv jA.grow.dv),λ a h=>?_,zF.later RK⟩
   ·have:=jA.ns;rw[show(kL E dn tn ix).env.locals=C from XR]at this;exact this
   ·rcases hu a h with h|h
    ·exact(G8 a h).imp id λ h=>⟨h.1,ab h.2 (af y.size RK)⟩
    ·exact .inr ⟨af Ig h.1,ab h.2 RK⟩
  cases hf:f d with
  |none=>
   rw[eI hf];simp only[Option.isSome_none,aR,if_false];refine cg (F3 Hn zY i5) λ h1 h2 h3 zh=>cg zh λ h4 h5 h6 h7=>?_;exact seg_again rfl (ih pre (zN++[d]) lW F' s₀ Hn (by rw[← hd];simp) (by rw[← Bh,eI hf]) xY h1 h2 h3 h7 Bi h6 h4 h5)
  |some yd=>
   rw[bz hf,aJ];simp only[Option.isSome_some,if_true];have SA:dn.scope.isCoroutine=false:=H.co;have hy:∀v,yieldOut dn v=yieldValue v:= λ v=>by simp only[yieldOut,SA,aR,if_false]
   simp only[hy];rw[fR,fR,iq,iq];refine seg_wrap (wm (hk (by rw[hf];rfl) yd hf _ _ _ _ Hn R' i5) λ u sO q=>?_);refine jH q ?_;clear q;intro QM Bz NS;refine cg (F3 sO zY (i5.fU QM Bz)) λ h1 h2 h3 zh=>cg zh λ h4 h5 h6 h7=>?_;refine cg (F3 Hn zY i5) λ j j j zh=>cg zh λ XU j j XT=>?_;refine seg_at (seg_yield rfl rfl rfl ⟨yd,F',?_,⟨_,h3⟩,h7,.of XU.size (λ a h=>?_) NS,λ P0 JH FU=>?_,Bz,λ k_ nk=>?_⟩)
   ·have hlen:(ds.filterMap f).length=pre.length+((oq.filterMap f).length+1):=by rw[← Bh,bz hf];simp
    rw[D3 (by lia),← Bh,bz hf];rw[dZ (by simp only[aY,aJ];exact Nh _ _)];simp
   ·rcases mc h with rfl|h
    ·exact ab H.hC.2 (af hs.size (af y.size i5.grow.size))
    ·exact(XT a h).2
   ·refine xe Bi ?_;clear Bi;intro lK Bi;rw[H.T.det FU Bi];exact⟨h4,h6⟩
   ·refine jH nk ?_;clear nk;intro Hd rI zh;refine dj zh ?_;clear zh;intro V G' z hV Ge;have QD:=H.T.frame h3 z Hd (λ a h=>(hV a h).2) Ge;refine seg_again rfl (ih (pre++[yd]) (zN++[d]) F' F' k_ k_ (by rw[← hd];simp) (by rw[← Bh,bz hf];simp) Hd rI ?_ QD (h7.later z.size) ⟨_,QD⟩ (rW.refl _ _ _) (.refl ..) (ab h5 z.dv));refine xe h2 ?_;clear h2;intro m hn;exact⟨m,z.ns (λ h=>(hV _ h).1 rfl) hn⟩
end
end
end
section
variable {c:Cx}{n:Nat}{E:VE}{ρ ρ':List Sl}{scope:iU}{tn:List Str}{ix:List Nat}{β:dH}{O O':List Addr}{ad:Nat→List Addr}{s s':ae}
section
variable {A:aK}{x:Gx}{dn:Env}{C:Addr}{it:ag}{k κ:Snap}{el:List Addr}{eA:List Nat}{fF:List Addr→List D→ae→Prop}{f:D→Option D}{ds:List D}{g:Nat}{a:Addr}
theorem CX(H:pT c n A E ρ β O ad s x tn ix dn C it k κ el eA fF f ds)(hg:g∉eA){F:List Addr}{t:ae}(S:bF c t)(hs:cB c k t)(hn:∃m,t.heap.Ns C m)(p:fF F ds t)(hF:yc k el F t)(K8:g<t.gens.size):
  Seg (model c.prog c.w) A (gR c C fF g eA) (gY c k C el fF g eA (ds.filterMap f)) (ds.filterMap f).length t (.compStart x.e 0 it .none dn) ((model c.prog c.w).den (.compStart x.e 0 it .none dn)) [] t:=by
 have loop:=EK H hg ds [] [] F F t t rfl rfl S hs hn p hF ⟨_,p⟩ (rW.refl _ _ _) (.refl ..) K8;show Seg _ A _ _ _ t _ ((compStart (.GeneratorExp x.elt [⟨x.tg,x.iter,x.ifs,0⟩] x.scope x.pos) 0 it .none dn).onRaise (leaving dn)) [] t;rw[gc];show Seg _ A _ _ _ t _ ((ask>>=_).wrap _ _ _ _) [] t;refine dD (cQ ?_);have self:wpAny (model c.prog c.w) (A.over (.compStart x.e 0 it .none dn) []) (pyIter it) (λ v s'=>v=it∧s'=t) aZ t:=H.T.self S p
 split
 ·exact seg_again rfl loop
 ·have fin:∀v s',v=it∧s'=t→Seg (model c.prog c.w) A (gR c C fF g eA) (gY c k C el fF g eA (ds.filterMap f)) (ds.filterMap f).length t (.compStart x.e 0 it .none dn) (.pure (.again (.compLoop x.e 0 v .none dn))) [] s':=by
   rintro v s' ⟨rfl,rfl⟩
   exact seg_again rfl loop
  first
   |exact dD (gq (dD (bS (dD (wm self fin)))))
   |(refine dD (gq ?_);show Seg _ A _ _ _ t _ ((standAt x.iter.pos>>=_).wrap _ _ _ _) [] t;exact dD (bS (dD (wm self fin))))
theorem aB.after{W:List Addr}{G:List Nat}{t ma:ae}{h':Heap}(y:aB c W G t ma)(hz:t.heap.objs.size≤h'.objs.size)(hk:∀b o,ma.heap.get? b=some o→h'.get? b=some o):aB c W G t {ma with heap:=h'}:=
 ⟨hz,λ b o hb e ht=>hk b o (y.keep b o hb e ht),λ b o e ht=>(y.tab b o e ht).imp (λ h=>hk b o h) λ w0=>by obtain⟨h1,vs,more,h2,h3⟩:=w0;exact⟨h1,vs,more,h2,hk _ _ h3⟩,y.gens,y.dv,y.os⟩
theorem bF.keep{ma:ae}{h':Heap}(S:bF c ma)(hz:c.B≤h'.objs.size)(hk:∀b o,ma.heap.get? b=some o→h'.get? b=some o):bF c {ma with heap:=h'}:=
 ⟨S.ok,λ a o e=>hk _ _ (S.fZ a o e),let⟨mc,hn,h0⟩:=S.nolimit; ⟨mc,hn.keeps hk,h0⟩,S.g.keeps hk,S.b.keeps hk,hk _ _ S.mod,λ p hp=>let⟨ps,h1,h2⟩:=S.tab p hp; ⟨ps,h1.keeps hk,h2.keeps hk⟩,S.bare,hz⟩
noncomputable def gP(c:Cx)(A:aK)(k:Snap)(C:Addr)(el:List Addr)(fF:List Addr→List D→ae→Prop)(g:Nat)(eA:List Nat)(a:Addr)(eK:List D):List Addr→List D→ae→Prop:= λ Fo ds t=>
 ∃F oq,Fo=a::C::F∧fF F oq t∧yc k el F t∧t.heap.IsGen a g∧(∃pre,eK=pre++ds)∧g<t.gens.size∧∃gs,t.gens[g]? =some gs∧∀t',IX c k C F eA t t'→gs.Goes (model c.prog c.w) A.in1 (gR c C fF g eA) (gY c k C el fF g eA eK) ds.length (.send .none) t'
theorem IX.refl{F:List Addr}{t:ae}(S:bF c t)(h:cB c k t):IX c k C F eA t t:=⟨S,h,[],[],.refl ..,λ z=>nn,λ z=>nn⟩
theorem IsGen.grow{W:List Addr}{G:List Nat}{t t':ae}(x:aB c W G t t')(ha:a∉W)(h:t.heap.IsGen a g):t'.heap.IsGen a g:=by
 refine c_ h ?_;clear h;intro o nm qn ho hc r;exact⟨o,nm,qn,x.keep a o ha ho (bW (by rw[hc];trivial)),hc,r⟩
structure Yb(c:Cx)(fF:List Addr→List D→ae→Prop)(eA:List Nat):Prop where
 det:∀{F F':List Addr} {ds lK:List D} {s:ae},fF F ds s→fF F' lK s→F=F'
 frame:∀{F V:List Addr} {G':List Nat} {ds:List D} {s s':ae},fF F ds s→aB c V G' s s'→bF c s'→(∀a∈V,a∉F)→(∀g∈G',g∉eA∧g<s.gens.size∨s.gens.size≤g)→fF F ds s'
theorem nN.gen{tg:Expr}{eK:List D}(N:Yb c fF eA)(R:Rm A 1)(hg:g∉eA)(SM:a≠C)(SK:a∉el)(Li:a<k.s.heap.objs.size)(hk:∀{F:List Addr} {t:ae},yc k el F t→∀b∈C::F,(b∈k.O∨k.s.heap.objs.size≤b)∧b∉k.K):
  nN c A tg (.ref a) k (g::eA) (gP c A k C el fF g eA a eK) where
 det:= λ w0 w1=>by refine dj w0 ?_;clear w0;intro F oq h1 h2 j;refine dj w1 ?_;clear w1;intro F' Vm Co wJ j;rw[h1,Co,N.det h2 wJ]
 frame:= λ {Fo V G' ds t t'} w0 y S hV hG=>by
  obtain⟨F,oq,Mm,hp,Ed,h1,h2,h3,gs,h4,h5⟩:=w0;subst Mm;have Qt:g∉G':= λ h=>(hG g h).elim (λ h=>h.1 (.head _)) λ h=>ak _ (ab h3 h);refine⟨F,oq,rfl,N.frame hp y S (λ b h hf=>hV b h (.tail _ (.tail _ hf))) (λ g' h=>(hG g' h).imp (λ h=>⟨λ hm=>h.1 (.tail _ hm),h.2⟩) id),Ed.later y.size,IsGen.grow y (λ h=>hV _ h (.head _)) h1,h2,ab h3 y.dv,gs,y.gens g gs Qt h4,λ QW nk=>jH nk λ Hd hs zh=>dj zh λ V2 G2 z Xu XJ=>h5 QW ⟨Hd,hs,V++V2,G'++G2,?_,λ b h=>?_,λ g' h=>?_⟩⟩
  ·exact(y.mono (λ b h=>.inl (aF _ h)) λ b h=>.inl (aF _ h)).trans (z.mono (λ b h=>.inl (ao _ h)) λ b h=>.inl (ao _ h))
  ·exact(aC.mp h).elim (λ h=>⟨λ e=>hV b h (e▸ .tail _ (.head _)),λ hf=>hV b h (.tail _ (.tail _ hf))⟩) (Xu b)
  ·rcases aC.mp h with h|h
   ·exact(hG g' h).imp (λ h=>⟨λ hm=>h.1 (.tail _ hm),h.2⟩) id
   ·rcases XJ g' h with⟨h6,h7⟩|h6
    ·by_cases h8:g'<t.gens.size
     ·exact .inl ⟨h6,h8⟩
     ·exact .inr (cw h8)
    ·exact .inr (af y.dv h6)
 next:= λ {Fo ds d t} S hs hB w0=>by
  obtain⟨F,oq,Mm,hp,Ed,h1,⟨pre,h2⟩,h3,gs,h4,h5⟩:=w0;subst Mm;have SJ:a∉F:= λ h=>(Ed a h).1.elim SK λ h=>ak _ (ab Li h);have Xs:a∉C::F:= λ h=>(aD.mp h).elim SM SJ;have g0:aB c [] [g] t (t.setGen g .running):=aB.gen;have OM:∀g'∈[g],g'∉eA∧g'<t.gens.size∨t.gens.size≤g':= λ g' h=>by obtain rfl:=m1 h;exact .inl ⟨hg,h3⟩
  have Bi:=N.frame hp g0 (S.gen rfl) (λ j=>nn) OM;have go:=h5 (t.setGen g .running) ⟨S.gen rfl,hs.step g0 λ j=>nn,[],[g],g0,λ j=>nn,OM⟩;refine wpAny_pyNext_genexpQ (P:= λ n s₀ au=>n=0∧(∀F ds,fF F ds s₀→aB c (C::F) (g::eA) s₀ au)∧bF c au) R.handled S.nolimit R.d0 h1 h4 go (λ v er Iy hb hv=>?_) (λ er hp h' vL=>?_)
  ·refine bO hv ?_;clear hv;intro d' F' iQ y1 Ov zh;refine cg zh ?_;clear zh;intro FQ Ot S1 K7;refine xe y1 ?_;clear y1;intro lK Aq;refine xa (Ot _ _ Bi) λ g1 G8=>?_;have:d'=d:=by
    subst h2;rw[aJ,jD,D3 (by simp only[aY,aJ];exact aG _ _),dZ (by simp only[aY,aJ];exact Nh _ _)]at iQ;simp only[aY,aJ]at iQ;rw[QL]at iQ;simpa using iQ.symm
   subst this;have Ln:g<er.gens.size:=ab (ab h3 g0.dv) g1.dv;have g2:aB c [] [g] er (er.setGen g Iy):=aB.gen;have lI:aB c (C::F) (g::eA) t (er.setGen g Iy):=((g0.mono (λ j=>nn) λ j h=>.inl (by rw[aj]at h;exact h▸ .head _)).trans g1).trans (g2.mono (λ j=>nn) λ j h=>.inl (by rw[aj]at h;exact h▸ .head _));have ij:(er.setGen g Iy).heap.IsGen a g:=IsGen.grow lI Xs h1;refine c_ (id ij) λ o nm qn ho hc r=>?_;have XK:∀g'∈[g],g'∉eA∧g'<er.gens.size∨er.gens.size≤g':= λ g' h=>by obtain rfl:=m1 h;exact .inl ⟨hg,Ln⟩
   refine⟨v,rfl,ib ho hc (by decide) ⟨lI.mono (λ b h=>.inl (.tail _ h)) (λ j h=>.inl h),S1.gen hb,a::C::F',λ b h=>?_,λ O' Co wJ=>FQ O' Co λ b hb=>?_,F',lK,rfl,N.frame Aq g2 (S1.gen hb) (λ j=>nn) XK,Ov,ij,⟨pre++[d'],by rw[h2];simp⟩,ab Ln g2.dv,Iy,?_,λ QW nk=>K7 QW ?_⟩⟩
   ·rcases mc h with rfl|h
    ·exact .inl (.head _)
    rcases mc h with rfl|h
    ·exact .inl (.tail _ (.head _))
    ·exact(G8 b h).imp (λ h=>.tail _ (.tail _ h)) id
   ·rcases wJ b hb with h|h
    ·exact .inl h
    ·rcases mc h with rfl|h
     ·exact .inl (ab Li hs.size)
     ·exact .inr h
   ·show(er.gens.setIfInBounds g Iy)[g]? =some Iy;rw[lP,if_pos rfl,if_pos Ln]
   ·refine jH nk ?_;clear nk;intro Hd rI zh;refine dj zh ?_;clear zh;intro V G' z hV Ge;have D_:(er.setGen g Iy).gens.size=er.gens.size:=by show(er.gens.setIfInBounds g Iy).size=_;simp
    refine⟨Hd,rI,V,g::G',(g2.mono (λ j=>nn) λ j h=>.inl (by rw[aj]at h;exact h▸ .head _)).trans (z.mono (λ j h=>.inl h) λ j h=>.inl (.tail _ h)),hV,λ g' h=>?_⟩
    rcases mc h with rfl|h
    ·exact .inl ⟨hg,Ln⟩
    ·rw[← D_];exact Ge g' h
  ·exact absurd hp.1 (by simp)
 done:= λ {Fo t} S hs hB w0=>by
  obtain⟨F,oq,Mm,hp,Ed,h1,⟨pre,h2⟩,h3,gs,h4,h5⟩:=w0;subst Mm;have g0:aB c [] [g] t (t.setGen g .running):=aB.gen;have Jx:cB c k (t.setGen g .running):=hs.step g0 λ j=>nn;have OM:∀g'∈[g],g'∉eA∧g'<t.gens.size∨t.gens.size≤g':= λ g' h=>by obtain rfl:=m1 h;exact .inl ⟨hg,h3⟩
  have Bi:=N.frame hp g0 (S.gen rfl) (λ j=>nn) OM;have go:=h5 (t.setGen g .running) ⟨S.gen rfl,Jx,[],[g],g0,λ j=>nn,OM⟩;refine dc (wpAny_pyNext_genexpQ (P:= λ n s₀ au=>n=0∧(∀F ds,fF F ds s₀→aB c (C::F) (g::eA) s₀ au)∧bF c au) R.handled S.nolimit R.d0 h1 h4 go (λ v er Iy hb hv=>?_) (λ er hp h' vL up=>?_))
  ·refine bO hv ?_;clear hv;intro d' F' iQ j Ov zh;refine cg zh ?_;clear zh;intro FQ Ot S1 K7;exact(K7 er (.refl S1 (Jx.step (Ot _ _ Bi).1 (hk Ed)))).elim
  ·refine jH hp ?_;clear hp;intro j Ot S1;have g1:=Ot _ _ Bi;have g2:aB c [] [g] er (er.setGen g .finished):=aB.gen;have S2:bF c (er.setGen g .finished):=S1.gen rfl;have lI:aB c (C::F) (g::eA) t (er.setGen g .finished):=((g0.mono (λ j=>nn) λ j h=>.inl (by rw[aj]at h;exact h▸ .head _)).trans g1).trans (g2.mono (λ j=>nn) λ j h=>.inl (by rw[aj]at h;exact h▸ .head _));exact⟨rfl,(lI.mono (O':=a::C::F) (G':=g::eA) (λ b h=>.inl (.tail _ h)) (λ j h=>.inl h)).after up.heap vL,S2.keep (af S.size up.heap) vL⟩
 self:= λ {A' Fo ds t} S w0=>ew w0 λ F oq Mm zh=>cg zh λ hp Ed h1 j=>wpAny_pyIter_gen h1 ⟨rfl,rfl⟩
end
theorem bF.row{h':Heap}{tk:Nat}{cd P:Addr}{ps C8:Array ag}(S:bF c s)(hp:(cd,P)∈c.tabs)(ht:s.heap.TableAt cd P ps)(hz:s.heap.objs.size≤h'.objs.size)(hk:∀b o,b≠P→s.heap.get? b=some o→h'.get? b=some o)(hn:h'.get? P=some (tabObj (ps++C8)))(Wo:TriplesOk (ps++C8).toList):bF c {s with heap:=h',toks:=tk}∧aB c [] [] s {s with heap:=h',toks:=tk}:=by
 have i9:∀a o,qE o=false→s.heap.get? a=some o→h'.get? a=some o:= λ a o hT e=>hk a o (λ h=>by
  subst h;rw[ht.2]at e;cases e;cases hT) e
 have Oc:∀a m,s.heap.Ns a m→h'.Ns a m:= λ a m w0=>c_ w0 λ o es ep ho hd r=>⟨o,es,ep,i9 a o (cP hd) ho,hd,r⟩;refine⟨⟨S.ok,λ a o e=>i9 a o (S.ok.VW a o e) (S.fZ a o e),let⟨mc,hn,h0⟩:=S.nolimit; ⟨mc,Oc _ _ hn,h0⟩,Oc _ _ S.g,Oc _ _ S.b,i9 _ _ (bW (by rw[S.ok.M5];trivial)) S.mod,λ p Aq=>?_,S.bare,af S.size hz⟩,hz,
  λ a o z e hT=>i9 a o hT e,λ a o e hT=>?_,λ z z z e=>e,az _,rfl⟩
 ·refine cI (S.tab p Aq) λ BZ y1 y2 f5=>?_;refine xe y1 ?_;clear y1;intro o zh;refine iu zh ?_;clear zh;intro vs file tf zh;refine iu zh ?_;clear zh;intro flags tg NG zh;refine lB zh ?_;clear zh;intro text tt op e1 zh;refine cg zh ?_;clear zh;intro e2 e3 e4 zh;refine cg zh ?_;clear zh;intro e5 e6 e7 zh;refine cg zh ?_;clear zh;intro e8 e9 Tu Tt;refine bO y2 ?_;clear y2;intro o' i7 f1 f2 f3 f4;have k1:h'.get? p.1=some o':=i9 _ _ (bW (by rw[f2];trivial)) f1;have X5:o=o':=by rw[f1]at e1;cases e1;rfl
  subst X5
  by_cases hP:p.2=P
  ·have:BZ=ps:=by
    rw[hP,ht.2]at f5;injection f5 with f5;injection f5 with _ _ f5;injection f5 with f5;exact f5.symm
   subst this;refine⟨BZ++C8,⟨o,vs,file,tf,flags,tg,NG,text,tt,tabObj (BZ++C8),k1,e2,e3,e4,e5,e6,e7,?_,rfl,Wo,Tt⟩,⟨⟨o,i7,k1,f2,f3,f4⟩,?_⟩⟩
   ·rw[hP];exact hn
   ·rw[hP];exact hn
  ·exact⟨BZ,⟨o,vs,file,tf,flags,tg,NG,text,tt,op,k1,e2,e3,e4,e5,e6,e7,hk _ _ hP e8,e9,Tu,Tt⟩,⟨⟨o,i7,k1,f2,f3,f4⟩,hk _ _ hP f5⟩⟩
 ·by_cases hP:a=P
  ·subst hP;rw[ht.2]at e;cases e;exact .inr ⟨⟨_,hp,rfl⟩,ps,C8,rfl,hn⟩
  ·exact .inl (hk a o hP e)
theorem tL{A:aK}{env:Env}{pos:Pos}{q:Str}{p:Addr×Addr}(S:bF c s)(hp:p∈c.tabs)(hc:env.code=.ref p.1):
  wpAny (model c.prog c.w) A (genexprCode env pos q scope) (λ code s'=>aB c [] [] s s'∧bF c s') aZ s:=by
 refine c0 (S.tab p hp) λ ps h1 h2=>?_;cases hf:codeAmong pos ps.toList with
 |some c'=>exact wpAny_genexprCode_hit hc h1 hf ⟨.refl ..,S⟩
 |none=>
  refine dc (wpAny_genexprCodeX hc h1 h2 hf λ c' h' tk hs z z UP z Wr z up=>?_);refine xe UP ?_;clear UP;intro o zh;refine iu zh ?_;clear zh;intro vs file tf zh;refine iu zh ?_;clear zh;intro flags tg NG zh;refine lB zh ?_;clear zh;intro text tt op e1 zh;refine cg zh ?_;clear zh;intro e2 e3 e4 zh;refine cg zh ?_;clear zh;intro e5 e6 e7 zh;refine cg zh ?_;clear zh;intro e8 e9 Tu Tt;exact(S.row (tk:=tk) (ps:=ps) hp h2 up.heap (λ b o hb e=>hs b o hb e) Wr.2 Tu).symm
noncomputable def Hf(c:Cx)(n:Nat)(E:VE)(ρ:List Sl)(e:Expr)(tg:Expr)(Ds:List D→Prop):Prop:=
 ∀(A:aK) (β:dH) (O:List Addr) (ad:Nat→List Addr) (s:ae),Rm A n→Inv c E β O ad ρ s→wpAny (model c.prog c.w) A (eval e E.env)
  (λ v s'=>aB c [] [] s s'∧bF c s'∧(∃a,v=.ref a∧∃g,s'.heap.IsGen a g)∧∃ds,Ds ds∧iK c n tg O O s ds v s') aZ s
noncomputable abbrev PZ(E:VE)(scope:iU)(tn:List Str)(ix:List Nat)(C:Addr)(code:ag):VE:=kL E (genEnv scope (eR E.env.cells scope.names []) C code builtinsNs E.env) tn ix
theorem Hf.mk(k:sD E.env E.vn scope tn ix=true)(h0:scope.names.lookup (".0":Str)=some NameKind.local){elt tg iter EC:Expr}{ifs:List Expr}{pos:Pos}{p:Addr×Addr}(f:D→Option D){Ds:List D→Prop}(hi:kd c n E ρ iter tg Ds)(hp:p∈c.tabs)(hc:E.env.code=.ref p.1)(hE:∀ds,Ds ds→∀C code,∀d∈ds,El c n (PZ E scope tn ix C code) (oT ρ tn ix) tg ifs d (f d).isSome λ ρ'=>∀y,f d=some y→xZ c n (PZ E scope tn ix C code) ρ' elt y)(hs:∀x,genFold iter E.env x=pure x:=by intro j;rfl):Hf c (n+2) E ρ (.GeneratorExp elt [⟨tg,iter,ifs,0⟩] scope pos) EC (λ eK=>∃ds,Ds ds∧eK=ds.filterMap f):= λ A β O ad s R I=>by
 have k':=uR k;refine wpAny_GeneratorExp_make k'.co (pO λ x hx hf=>(k'.cells I.ok x hx hf).2.2) k'.E_ h0 k'.kind R.d0 (wm (hi A β O ad s (R.le (by exact cE _ _)) I) λ xv au ct=>wk ct λ it aH cM=>?_) hs;refine nP cM ?_;clear cM;intro cF jy ds Mg zh;refine dj zh ?_;clear zh;intro el eA hF hG fV;refine⟨jy.nolimit,wm (tL jy hp hc) λ code cq q=>?_⟩;refine xa q ?_;clear q;intro qe m7;rw[I.ok.glob];refine wpAny_builtinsFor m7.g m7.ok.bm m7.ok.bne m7.mod m7.ok.M5 m7.ok.M3 m7.ok.M4 ?_;intro h' K0 eN;have lb:h'.objs.size=cq.heap.objs.size+1:=by rw[eN.1,aW]
 have Nt:∀b o,cq.heap.get? b=some o→h'.get? b=some o:= λ b o e=>eN.extBut b o (dM (aI e)) (aA _ e);generalize Sp:({cq with
   gens:=cq.gens.push (.fresh (.compStart (.GeneratorExp elt [⟨tg,iter,ifs,0⟩] scope pos) 0 it .none (genEnv scope (eR E.env.cells scope.names []) cq.heap.objs.size code builtinsNs E.env))),
   toks:=cq.toks+1+1+1,
   heap:=h'.push {cls:=.type "generator",data:=.fields #[.int cq.gens.size 0,.str "<genexpr>" (cq.toks+1),.str (E.env.qual++"<genexpr>") (cq.toks+1+1)]}}:ae)=s₅
 have JC:s₅.heap=h'.push {cls:=.type "generator",data:=.fields #[.int cq.gens.size 0,.str "<genexpr>" (cq.toks+1),.str (E.env.qual++"<genexpr>") (cq.toks+1+1)]}:=by rw[← Sp]
 have Hb:s₅.gens=cq.gens.push (.fresh (.compStart (.GeneratorExp elt [⟨tg,iter,ifs,0⟩] scope pos) 0 it .none (genEnv scope (eR E.env.cells scope.names []) cq.heap.objs.size code builtinsNs E.env))):=by rw[← Sp]
 have eG:∀b o,cq.heap.get? b=some o→s₅.heap.get? b=some o:= λ b o e=>by rw[JC];exact aA _ (Nt b o e)
 have iJ:s₅.heap.objs.size=cq.heap.objs.size+2:=by rw[JC,aW,lb]
 have AG:aB c [] [] cq s₅:=⟨by exact iJ▸cE _ _,λ a o j e j=>eG a o e,λ a o e j=>.inl (eG a o e),λ g y j e=>by
  rw[Hb,BM (rL e)];rw[mM (rL e)]at e;exact e,by rw[Hb,hY];exact bq _,by rw[← Sp]⟩
 have Bz:bF c s₅:=by
  refine⟨m7.ok,λ a o e=>eG _ _ (m7.fZ a o e),let⟨mc,hn,h0⟩:=m7.nolimit; ⟨mc,hn.keeps eG,h0⟩,m7.g.keeps eG,m7.b.keeps eG,eG _ _ m7.mod,λ p hp=>let⟨ps,h1,h2⟩:=m7.tab p hp; ⟨ps,h1.keeps eG,h2.keeps eG⟩,?_,by have:=m7.size;lia⟩;rw[Hb];exact m7.bare.push rfl
 have hx:s.heap.objs.size≤aH.heap.objs.size:=cF.size;have L9:aH.heap.objs.size≤cq.heap.objs.size:=qe.size;have ij:s₅.heap.IsGen h'.objs.size cq.gens.size:=by rw[JC];exact⟨_,_,_,av _ rfl,rfl,rfl,rfl⟩
 have WM:s₅.heap.Ns cq.heap.objs.size (λ y=>if y=".0" then some it else none):=by rw[JC];exact K0.push _
 have zt:s₅.gens.size=cq.gens.size+1:=by rw[Hb,hY]
 have JA:cq.gens.size∉eA:= λ h=>ak _ (ab (hG _ h).2 qe.dv);have SM:h'.objs.size≠cq.heap.objs.size:=by rw[lb];exact vV _
 have QA:∀b∈el,b<cq.heap.objs.size:= λ b h=>ab (hF b h).2 L9;have SK:h'.objs.size∉el:= λ h=>by have:=QA _ h;rw[lb]at this;exact ak _ (kr this)
 have U_:cq.heap.objs.size∉el:= λ h=>ak _ (QA _ h);refine⟨(cF.trans qe).trans AG,Bz,⟨_,rfl,_,ij⟩,_,⟨ds,Mg,rfl⟩,h'.objs.size::cq.heap.objs.size::el,cq.gens.size::eA,λ b h=>?_,λ g h=>?_,λ A' R'=>?_⟩
 ·rcases mc h with rfl|h
  ·exact⟨by rw[lb];exact af hx (af L9 (bq _)),by rw[lb,iJ];exact aS _⟩
  rcases mc h with rfl|h
  ·exact⟨af hx L9,by rw[iJ];exact cx (aS _)⟩
  ·exact⟨(hF b h).1,by rw[iJ];exact cx (cx (QA b h))⟩
 ·rcases mc h with rfl|h
  ·exact⟨af cF.dv qe.dv,by rw[zt];exact aS _⟩
  ·exact⟨(hG g h).1,by rw[zt];exact cx (ab (hG g h).2 qe.dv)⟩
 have Vt:Rm A'.in1 (n+1):=Rm.in1 (A:=A') (n:=n+1) R';refine c0 (fV (A'.in1.over (.compLoop (.GeneratorExp elt [⟨tg,iter,ifs,0⟩] scope pos) 0 it .none (genEnv scope (eR E.env.cells scope.names []) cq.heap.objs.size code builtinsNs E.env)) []) Vt.over) λ fF T Kr=>?_;have H:pT c n A'.in1 E ρ β O ad s ⟨elt,tg,iter,ifs,scope,pos⟩ tn ix (genEnv scope (eR E.env.cells scope.names []) cq.heap.objs.size code builtinsNs E.env) cq.heap.objs.size it
   ⟨s₅,(h'.objs.size::cq.heap.objs.size::el)++O,O⟩ ⟨aH,el++O,[]⟩ el eA fF f ds:=
  {I:=I,Vr:=k',env:=.gen I.ok k' _ _,R:=Vt,co:=k'.co,up:=cF,J3:=qe.trans AG
   hC:=⟨L9,by rw[iJ];exact cx (aS _)⟩
   kO:= λ b h=>ao _ h
   kF:= λ b h=>aF _ (.tail _ (.tail _ h))
   kC:=.tail _ (.head _)
   kK:=rfl
   kN:= λ b h=>by
    rcases aC.mp h with h|h
    ·rcases mc h with rfl|h
     ·exact .inr ⟨by rw[lb];exact eS L9,by rw[lb,iJ];exact aS _⟩
     rcases mc h with rfl|h
     ·exact .inr ⟨L9,by rw[iJ];exact cx (aS _)⟩
     ·exact .inl (aF _ h)
    ·exact .inl (ao _ h)
   QK:=rfl
   TV:=rfl
   T:=T
   hF:=hF
   E:= λ d hd=>hE ds Mg _ _ d hd}
 have p5:fF el ds s₅:=T.frame (T.frame Kr qe m7 (λ j=>nn) λ j=>nn) AG Bz (λ j=>nn) λ j=>nn;have Ed:yc ⟨s₅,(h'.objs.size::cq.heap.objs.size::el)++O,O⟩ el el s₅:= λ b h=>⟨.inl h,by rw[iJ];exact cx (cx (QA b h))⟩;refine⟨gP c A' ⟨s₅,(h'.objs.size::cq.heap.objs.size::el)++O,O⟩ cq.heap.objs.size el fF cq.gens.size eA h'.objs.size (ds.filterMap f),nN.gen ⟨T.det,T.frame⟩ (R'.le (by exact bB _)) JA SM SK (by rw[lb,iJ];exact aS _) H.KG,el,ds,rfl,p5,Ed,ij,⟨[],rfl⟩,by rw[zt];exact aS _,_,by rw[Hb];exact Al ..,λ t' nk=>?_⟩;refine jH nk ?_;clear nk;intro S' eN zh;refine dj zh ?_;clear zh;intro V G' z hV Ge;refine⟨rfl,CX H JA S' eN ⟨_,z.ns (λ h=>(hV _ h).1 rfl) WM⟩ (T.frame p5 z S' (λ b h=>(hV b h).2) Ge) (Ed.later z.size) (ab (by rw[zt];exact aS _) z.dv)⟩
end
structure nG(c:Cx)(a:Addr)(fd:FuncData)(body:List Stmt):Prop where
 at_:∃o,c.K.lookup a=some o∧o.data=.func fd
 code:∃q o vs t,fd.code=.ref q∧c.K.lookup q=some o∧o.data=.fields vs∧vs[1]? =some (.str fd.qualname t)
 body:fd.body=.stmts body
 glob:fd.globals=mainGlobals
 blt:fd.builtins=builtinsNs
 Vq:fd.closure=[]
 kind:fd.scope.kind=.function
 co:fd.scope.isCoroutine=false
noncomputable def rN(fd:FuncData)(vn:List Str)(np:Nat):Bool:=
 ud vn&&ud ((fd.scope.names.filter λ x=>x.2==.cell).map (·.1))&&vn.all (λ x=>(fd.scope.names.lookup x==some .local||fd.scope.names.lookup x==some .cell)&& !(x==("__debug__":Str))&& !(x==("__classdict__":Str)))&&decide (np≤vn.length)
structure P1(fd:FuncData)(vn:List Str)(np:Nat):Prop where
 nodup:vn.Nodup
 kinds:∀x∈vn,(fd.scope.names.lookup x=some .local∨fd.scope.names.lookup x=some .cell)∧(x==("__debug__":Str))=false∧(x==("__classdict__":Str))=false
 np:np≤vn.length
 X8:((fd.scope.names.filter λ x=>x.2==.cell).map (·.1)).Nodup
theorem IA{fd:FuncData}{vn:List Str}{np:Nat}(h:rN fd vn np=true):P1 fd vn np:=by
 simp only[rN,bg,bD,Bool.or_eq_true,decide_eq_true_eq,j6]at h;refine⟨rz h.1.1.1,λ x hx=>?_,h.2,rz h.1.1.2⟩;have:=h.1.2 x hx;exact⟨by simpa using this.1.1,this.1.2,this.2⟩
noncomputable abbrev mO(fd:FuncData)(L a:Addr)(vn:List Str):VE:=⟨callEnvC fd L a,vn,vn.length⟩
theorem jX:∀{names:List (Str×gQ)} {n:Nat} {acc:List (Str×Addr)} {x:Str},(x∈acc.map (·.1)∨(x,kl)∈names)→x∈(cellsFrom n names acc).map (·.1)
 |[],n,acc,x,h=>by
  rcases h with h|h
  ·exact h
  ·exact nn h
 |(y,k)::r,n,acc,x,h=>by
  unfold cellsFrom
  split
  ·rename_i hk;refine jX ?_
   rcases h with h|h
   ·exact .inl (by simp only[a_,aD];exact .inr h)
   ·rcases aD.mp h with e|h
    ·cases e;exact .inl (by exact .head _)
    ·exact .inr h
  ·rename_i hk;refine jX ?_
   rcases h with h|h
   ·exact .inl h
   ·rcases aD.mp h with e|h
    ·cases e;trivial
    ·exact .inr h
theorem lL:∀{names:List (Str×gQ)} {n:Nat} {acc:List (Str×Addr)},(cellsFrom n names acc).map (·.1)=((names.filter λ x=>x.2==.cell).map (·.1)).reverse++acc.map (·.1)
 |[],n,acc=>by rfl
 |(y,k)::r,n,acc=>by
  unfold cellsFrom;cases hk:k==kl with
  |true=>rw[if_pos rfl,lL];simp[List.filter_cons,hk]
  |false=>rw[if_neg (by decide),lL];simp[List.filter_cons,hk]
theorem nh:∀{l:List (Str×Addr)},(l.map (·.1)).Nodup→∀p∈l,l.lookup p.1=some p.2
 |q::l,h,p,hp=>by
  simp only[a_,ej]at h
  rcases aD.mp hp with rfl|hp
  ·rw[show(p::l)=(p.1,p.2)::l from rfl,aX];simp
  ·have ku:¬p.1=q.1:= λ e=>h.1 (e▸aL.mpr ⟨p,hp,rfl⟩);rw[show(q::l)=(q.1,q.2)::l from rfl,aX,show(p.1==q.1)=false by simpa using ku];exact nh h.2 p hp
theorem n9{l:List (Str×Addr)}{x:Str}(h:x∈l.map (·.1)):∃a,l.lookup x=some a:=by
 cases e:l.lookup x with
 |some a=>exact⟨a,rfl⟩
 |none=>
  exfalso;obtain⟨p,hp,rfl⟩:=aL.mp h;have:=BI.mp e p hp;simp at this
section
variable {c:Cx}{n:Nat}{β:dH}{O:List Addr}{s s':ae}
theorem zU{k:Str→Option gQ}:∀{bs:List (Str×ag)} {m:Str→Option ag} {x:Str},x∉bs.map (·.1)→bindL k bs m x=m x
 |[],_,_,_=>rfl
 |(y,v)::r,m,x,h=>by
  simp only[a_,aD,not_or]at h;unfold bindL;rw[zU h.2]
  split
  ·show(if x=y then some v else m x)=m x;rw[if_neg h.1]
  ·rfl
theorem zV{k:Str→Option gQ}{bs:List (Str×ag)}{x:Str}{v:ag}(hk:k x=some .local):∀{m:Str→Option ag},(bs.map (·.1)).Nodup→(x,v)∈bs→bindL k bs m x=some v:=by
 induction bs with
 |nil=>intro m z h;exact nn h
 |cons p r ih=>
  intro m hd h;have hd:=ej.mp hd
  rcases mc h with rfl|h
  ·show bindL k r _ x=some v;rw[zU hd.1,if_pos hk];simp
  ·exact ih hd.2 h
theorem zW{k:Str→Option gQ}:∀{bs:List (Str×ag)} {m:Str→Option ag} {x:Str},x∉bs.map (·.1)→bindC k bs m x=m x
 |[],_,_,_=>rfl
 |(y,v)::r,m,x,h=>by
  simp only[a_,aD,not_or]at h;unfold bindC;rw[zW h.2]
  split
  ·rfl
  ·show(if x=y then some v else m x)=m x;rw[if_neg h.1]
theorem GH{k:Str→Option gQ}{bs:List (Str×ag)}{x:Str}{v:ag}(hk:k x≠some .local):∀{m:Str→Option ag},(bs.map (·.1)).Nodup→(x,v)∈bs→bindC k bs m x=some v:=by
 induction bs with
 |nil=>intro m z h;exact nn h
 |cons p r ih=>
  intro m hd h;have hd:=ej.mp hd
  rcases mc h with rfl|h
  ·show bindC k r _ x=some v;rw[zW hd.1,if_neg hk];simp
  ·exact ih hd.2 h
noncomputable def P5(c:Cx)(O:List Addr)(s:ae):Sl→ag→List Addr→Prop
 |.no,_,fp=>fp=[]
 |.val d,v,fp=>fp=[]∧bh c.w O s.heap v d
 |.own _ q,v,fp=>cT c O s.heap v q fp
noncomputable def PM(fp:List Addr):Nat→List Addr:=Nat.rec fp λ z z=>[]
theorem Cz{fp:List Addr}{i:Nat}{a:Addr}(h:a∈PM fp i):a∈fp:=by
 cases i with
 |zero=>exact h
 |succ=>exact nn h
structure Au(c:Cx)(O:List Addr)(s₀ s:ae)(W:List Addr)(G:List Nat)(sls:List Sl)(vs:List ag)(fp:List Addr):Prop where
 grow:aB c W G s₀ s
 br:bF c s
 hO:∀b∈O,b<s₀.heap.objs.size∧c.B≤b
 hB:c.B≤s₀.heap.objs.size
 hf:∀b∈fp,s₀.heap.objs.size≤b∧b<s.heap.objs.size
 len:sls.length=vs.length
 args:∀i,P5 c (fp++O) s (sls.getD i .no) (vs.getD i .none) (PM fp i)
theorem a0.args{vs:List ag}{ds:List D}(r:a0 c.w O s.heap vs ds):(ds.map Sl.val).length=vs.length∧∀i,P5 c O s ((ds.map Sl.val).getD i .no) (vs.getD i .none) []:=
 r.ind ⟨rfl,λ z=>by rfl⟩ λ v vs d ds q z ih=>⟨congrArg u4 ih.1,λ i=>by
  cases i with
  |zero=>exact⟨rfl,q⟩
  |succ i=>exact ih.2 i⟩
theorem Au.fk{W:List Addr}{G:List Nat}{vs:List ag}{ds:List D}(K:Ok c O s)(r:a0 c.w O s.heap vs ds):Au c O s s W G (ds.map Sl.val) vs []:=
 ⟨.refl ..,K.br,λ b hb=>⟨K.lt b hb,K.low b hb⟩,K.br.size,λ z=>nn,r.args.1,λ i=>by
  rw[show PM [] i=[] by cases i<;>rfl];exact r.args.2 i⟩
theorem Au.no{s₀:ae}{W:List Addr}{G:List Nat}{sls:List Sl}{vs:List ag}{fp:List Addr}(T:Au c O s₀ s W G sls vs fp){i:Nat}(h:vs.length≤i):sls.getD i .no=.no∧PM fp i=[]:=by
 have e:sls.getD i .no=.no:=by rw[ai,bk (by rw[T.len];exact h)];rfl
 have r:=T.args i;rw[e]at r;exact⟨e,r⟩
theorem Inv.entry{s₀ s au:ae}{a:Addr}{fd:FuncData}{body:List Stmt}{vn:List Str}{np:Nat}{vs:List ag}{sls:List Sl}{fp:List Addr}{W:List Addr}{G:List Nat}(F:nG c a fd body)(k:P1 fd vn np)(T:Au c O s₀ s W G sls vs fp)(hlen:vs.length=np)(x:InCallC s (callEnvC fd s.heap.objs.size a).locals (bindL (callEnvC fd s.heap.objs.size a).kindOf ((vn.take np).zip vs) λ z=>none) (callEnvC fd s.heap.objs.size a).cells (bindC (callEnvC fd s.heap.objs.size a).kindOf ((vn.take np).zip vs) λ z=>none) au):
  ∃ad,Inv c (mO fd s.heap.objs.size a vn) ⟨s₀,O,O,W,G⟩ ((callEnvC fd s.heap.objs.size a).locals::((callEnvC fd s.heap.objs.size a).cells.map (·.2)++(fp++O))) ad sls au:=by
 refine ew x.done λ ct tk he hk=>?_;have Ml:=x.toInCall.ns;have zE:=Ml.lt;have hz:s.heap.objs.size≤au.heap.objs.size:=af x.toInCall.fresh (bX zE);have vL:∀b o,s.heap.get? b=some o→au.heap.get? b=some o:=x.toInCall.keep;have g:aB c [] [] s au:=by
  rw[he]at hz vL⊢;exact .step hz vL
 have lM:bF c au:=by
  rw[he]at hz vL⊢;exact T.br.step hz vL
 have FO:s₀.heap.objs.size≤s.heap.objs.size:=T.grow.size;have Lk:s.heap.objs.size≤(callEnvC fd s.heap.objs.size a).locals:=x.toInCall.fresh;have Gb:∀p∈(callEnvC fd s.heap.objs.size a).cells,s.heap.objs.size≤p.2∧p.2<au.heap.objs.size:= λ p hp=>by
  refine⟨af Lk (bX (x.above p.1 p.2 hp)),?_⟩;have xI:((callEnvC fd s.heap.objs.size a).cells.map (·.1)).Nodup:=by
   show((cellsFrom (s.heap.objs.size+1) fd.scope.names []).map (·.1)).Nodup;rw[lL,jY,bM];exact List.pairwise_reverse.mpr (k.X8.imp Ne.symm)
  exact(x.cell p.1 p.2 (nh xI p hp)).lt
 have WL:=k.np;have SS:∀b∈(callEnvC fd s.heap.objs.size a).locals::((callEnvC fd s.heap.objs.size a).cells.map (·.2)++(fp++O)),b∈O∨(s₀.heap.objs.size≤b∧b<au.heap.objs.size):=by
  intro b hb
  rcases mc hb with rfl|hb
  ·exact .inr ⟨af FO Lk,zE⟩
  rcases aC.mp hb with hb|hb
  ·refine c0 (aL.mp hb) λ p hp z1=>?_;subst z1;exact .inr ⟨af FO (Gb p hp).1,(Gb p hp).2⟩
  rcases aC.mp hb with hb|hb
  ·exact .inr ⟨(T.hf b hb).1,ab (T.hf b hb).2 hz⟩
  ·exact .inl hb
 have qI:∀y∈vn,(callEnvC fd s.heap.objs.size a).kindOf y=some .local∨((callEnvC fd s.heap.objs.size a).kindOf y=some .cell∧∃b,(callEnvC fd s.heap.objs.size a).cells.lookup y=some b):= λ y hy=>by
  rcases(k.kinds y hy).1 with h|h
  ·exact .inl h
  ·exact .inr ⟨h,n9 (jX (.inr (bu h)))⟩
 have NL:∀i y,vn[i]? =some y→i<np→∃v,vs[i]? =some v∧(y,v)∈(vn.take np).zip vs:= λ i y hy hi=>by
  have Uo:i<vs.length:=by exact D9 hlen hi
  refine⟨vs[i],aq Uo,?_⟩;have:((vn.take np).zip vs)[i]? =some (y,vs[i]):=by
   rw[List.getElem?_zip_eq_some];exact⟨by rw[List.getElem?_take_of_lt hi];exact hy,aq Uo⟩
  exact bw this
 have Wd:((vn.take np).zip vs).map (·.1)=vn.take np:=by
  rw[List.map_fst_zip];simp;lia
 have NK:(((vn.take np).zip vs).map (·.1)).Nodup:=by rw[Wd];exact k.nodup.sublist (List.take_sublist _ _)
 have hbound:∀i y v,vn[i]? =some y→i<np→vs[i]? =some v→Bound au.heap (callEnvC fd s.heap.objs.size a) y v:= λ i y v hy hi hv=>by
  refine c0 (NL i y hy hi) λ v' FQ hm=>?_;rw[hv]at FQ;cases FQ;refine⟨λ hl=>⟨_,Ml,zV hl NK hm⟩,λ hl=>?_⟩
  rcases qI y (bw hy)with h|⟨h,b,hb⟩
  ·exact absurd h hl
  ·exact⟨b,hb,(GH hl NK hm)▸x.cell y b hb⟩
 refine⟨PM fp,⟨F.kind,F.glob,F.blt,k.nodup,λ y hy=>(qI y hy).imp id λ w0=>by obtain⟨h,b,hb⟩:=w0;exact⟨.inl h,b,hb⟩,λ i y hi hy=>?_,x.apart,λ p hp e=>?_,λ y hy=>(k.kinds y hy).2⟩,lM,T.grow.trans (g.mono (λ z=>nn) λ z=>nn),λ b hb=>?_,λ b hb=>?_,λ b hb=>?_,λ b hb=>(T.hO b hb).1,
  λ b hb=>(SS b hb).imp id And.left,⟨_,Ml⟩,λ y hy hl=>?_,.head _,λ p hp=>?_,.inr (af FO Lk),λ i y b hi hy hl hb=>.inr (af FO (Gb _ (bu hb)).1),λ i y hy=>?_,λ i j rJ b hb wH=>?_,λ i hi=>?_⟩
 ·rcases qI y (bw hy)with h|⟨h,_⟩
  ·show(callEnvC fd s.heap.objs.size a).kindOf y≠_;rw[h];trivial
  ·show(callEnvC fd s.heap.objs.size a).kindOf y≠_;rw[h];trivial
 ·exact ak _ (e▸x.above p.1 p.2 hp)
 ·exact(SS b hb).elim (λ h=>ab (T.hO b h).1 (af FO hz)) And.right
 ·exact(SS b hb).elim (λ h=>(T.hO b h).2) λ h=>af T.hB h.1
 ·exact .tail _ (ao _ (ao _ hb))
 ·rcases qI y hy with h|⟨h,b,hb⟩
  ·exact absurd h hl
  ·exact⟨b,_,hb,x.cell y b hb⟩
 ·exact .tail _ (aF _ (aL.mpr ⟨p,hp,rfl⟩))
 ·have vk:nM (fp++O) ((callEnvC fd s.heap.objs.size a).locals::((callEnvC fd s.heap.objs.size a).cells.map (·.2)++(fp++O))) s:= λ b hb=>by
   rcases mc hb with rfl|hb
   ·exact .inr Lk
   rcases aC.mp hb with hb|hb
   ·refine c0 (aL.mp hb) λ p hp z1=>?_;subst z1;exact .inr (Gb p hp).1
   ·exact .inl hb
  have Ii:vn[i]? =some y:=hy;have Ju:=T.args i
  by_cases hi:i<np
  ·refine c0 (NL i y Ii hi) λ u hu z=>?_;rw[ai (l:=vs),hu]at Ju;have hb:=hbound i y u Ii hi hu;cases ni:sls.getD i .no with
   |no=>rw[ni]at Ju;exact Ju
   |val d=>
    rw[ni]at Ju;exact⟨Ju.1,u,hb,g.rep (λ z=>nn) vk Ju.2⟩
   |own m q=>
    rw[ni]at Ju;refine⟨u,hb,g.own (λ z=>nn) vk (λ z z=>nn) (λ b hb o e=>.inr (vL b o e)) Ju,λ b hb=>?_⟩;have hf:=T.hf b (Cz hb);exact⟨.tail _ (ao _ (aF _ (Cz hb))),λ e=>ak _ (ab hf.2 (e▸Lk)),λ p hp e=>ak _ (ab hf.2 (e▸ (Gb p hp).1)),λ z=>.inr hf.1,λ h=>ak _ (ab (T.hO b h).1 hf.1),ab hf.2 hz⟩
  ·have e:=T.no (af (dg hlen) (cw hi));rw[e.1];exact e.2
 ·cases i with
  |zero=>cases j with
   |zero=>exact rJ rfl
   |succ=>exact nn wH
  |succ=>exact nn hb
 ·exact(T.no (af (dg hlen) (af WL hi))).2
theorem nG.Cv{a:Addr}{fd:FuncData}{body:List Stmt}(F:nG c a fd body)(S:bF c s):s.heap.CodeRec fd.code fd.qualname:=by
 refine xe F.code λ q zh=>cJ zh λ o vs t h1 h2 h3 h4=>?_;exact⟨q,o,vs,t,h1,S.fZ _ _ h2,h3,h4⟩
theorem m6{A:aK}{a:Addr}{fd:FuncData}{body:List Stmt}{vn:List Str}{np:Nat}{args vs:List ag}{ks:List (Str×ag)}{s₀:ae}{sls:List Sl}{fp:List Addr}{W:List Addr}{G:List Nat}{Q:ag→ae→Prop}(F:nG c a fd body)(k:rN fd vn np=true)(ij:fd.scope.isGenerator=false)(R:Rm A (n+1))(T:Au c O s₀ s W G sls vs fp)(hlen:vs.length=np)(hb:iy s fd ⟨args,ks⟩ ((vn.take np).zip vs))(h:∀O' ad au,aB c [] [] s au→Inv c (mO fd s.heap.objs.size a vn) ⟨s₀,O,O,W,G⟩ O' ad sls au→(∀b∈fp++O,b∈O')→s.heap.objs.size≤(callEnvC fd s.heap.objs.size a).locals→(∀p∈(callEnvC fd s.heap.objs.size a).cells,s.heap.objs.size≤p.2)→
   wpAny (model c.prog c.w) (A.deeper (callEnvC fd s.heap.objs.size a)) (execs body (callEnvC fd s.heap.objs.size a)) (λ f s'=>Q (match f with|.ret v=>v|_=>.none) s') aZ au):codeAny (model c.prog c.w) A (.call (.ref a) ⟨args,ks⟩) (λ r s'=>match r with|.ok (.ret v)=>Q v s'|_=>False) s:=by
 refine c0 F.at_ λ o ho hd=>?_;have k':=IA k;refine codeAny_call_function R.d0 (T.br.fZ _ _ ho) hd F.co ij F.body (F.Cv T.br) (hb _ _ _ _ ?_);rw[F.Vq];refine DX F.kind (λ y hy=>?_) λ env he au x=>?_
 ·have KV:y.1∈vn:=qb (js hy).1
  rcases(k'.kinds y.1 KV).1 with h|h
  ·exact .inl h
  ·refine xe (n9 (jX (n:=s.heap.objs.size+1) (acc:=[]) (.inr (bu h)))) λ b hb=>?_;exact .inr ⟨h,by rw[hb];rfl⟩
 ·have K9:env=callEnvC fd s.heap.objs.size a:=he;subst K9;refine xe (Inv.entry F k' T hlen x) λ ad I=>?_;have hz:s.heap.objs.size≤au.heap.objs.size:=af x.toInCall.fresh (bX x.toInCall.ns.lt);have g:aB c [] [] s au:=by
   refine ew x.done λ ct tk he z=>?_;have hk:=x.toInCall.keep;rw[he]at hz hk⊢;exact .step hz hk
  refine⟨T.br.nolimit.keeps x.toInCall.keep,codeAny_func ?_⟩;refine wm (h _ ad au g I (λ b hb=>.tail _ (ao _ hb)) x.toInCall.fresh λ p hp=>af x.toInCall.fresh (bX (x.above p.1 p.2 hp))) λ f s' q=>q
theorem nQ{A:aK}{a:Addr}{fd:FuncData}{body:List Stmt}{vn:List Str}{np:Nat}{args vs:List ag}{ks:List (Str×ag)}{s₀:ae}{sls:List Sl}{fp:List Addr}{W:List Addr}{G:List Nat}{Q:ag→ae→Prop}(F:nG c a fd body)(k:rN fd vn np=true)(ij:fd.scope.isGenerator=false)(R:Rm A (n+1))(T:Au c O s₀ s W G sls vs fp)(hlen:vs.length=np)(hb:iy s fd ⟨args,ks⟩ ((vn.take np).zip vs))(h:∀O' ad au,aB c [] [] s au→Inv c (mO fd s.heap.objs.size a vn) ⟨s₀,O,O,W,G⟩ O' ad sls au→(∀b∈fp++O,b∈O')→s.heap.objs.size≤(callEnvC fd s.heap.objs.size a).locals→(∀p∈(callEnvC fd s.heap.objs.size a).cells,s.heap.objs.size≤p.2)→
   wpAny (model c.prog c.w) (A.deeper (callEnvC fd s.heap.objs.size a)) (execs body (callEnvC fd s.heap.objs.size a)) (λ f s'=>Q (match f with|.ret v=>v|_=>.none) s') aZ au):wpAny (model c.prog c.w) A (call (.ref a) args ks) Q aZ s:=
 kg (a7 (m6 F k ij R T hlen hb h) λ r s' q=>by
  rcases r with e|(v|_|_|_)<;>first|exact q|exact q.elim)
theorem AH{A:aK}{a:Addr}{fd:FuncData}{body:List Stmt}{vn:List Str}{np:Nat}{args vs:List ag}{ks:List (Str×ag)}{s₀:ae}{sls:List Sl}{fp:List Addr}{W:List Addr}{G:List Nat}{out:Out}(F:nG c a fd body)(k:rN fd vn np=true)(ij:fd.scope.isGenerator=false)(R:Rm A (n+1))(T:Au c O s₀ s W G sls vs fp)(hlen:vs.length=np)(hb:iy s fd ⟨args,ks⟩ ((vn.take np).zip vs))(h:Ex c n (mO fd s.heap.objs.size a vn) sls body out){Q:ag→ae→Prop}(hQ:∀f s',mH c (mO fd s.heap.objs.size a vn) ⟨s₀,O,O,W,G⟩ out f s'→Q (match f with|.ret v=>v|_=>.none) s'):wpAny (model c.prog c.w) A (call (.ref a) args ks) Q aZ s:=
 nQ F k ij R T hlen hb λ O' ad au g I z z z=>wm (h _ _ au R.deeper ⟨O',ad,I⟩) λ f s' q=>hQ f s' q
end
inductive Src where
 |pos (i:Nat)
 |kw (i:Nat)
 |dN
 |dB (b:Bool)
 |dI (i:Int) (t:Tok)
noncomputable def Src.val(vs:List ag)(ks:List (Str×ag)):Src→ag
 |.pos i=>vs.getD i .none
 |.kw i=>(ks.map (·.2)).getD i .none
 |.dN=>.none
 |.dB b=>.bool b
 |.dI i t=>.int i t
noncomputable def Src.dat(ds:List D)(kws:List (Str×D)):Src→D
 |.pos i=>ds.getD i .none
 |.kw i=>(kws.map (·.2)).getD i .none
 |.dN=>.none
 |.dB b=>.bool b
 |.dI i _=>.int i
noncomputable def Src.Ku(a b:Nat):Src→Bool
 |.pos i=>decide (i<a)
 |.kw i=>decide (i<b)
 |_=>true
noncomputable def mI(c:Cx)(n:Nat)(f:ag)(ds:List D)(kws:List (Str×D))(q:OD):Prop:=
 ∀(A:aK) (O:List Addr) (s:ae) (vs:List ag) (ks:List (Str×ag)),Rm A n→Ok c O s→a0 c.w O s.heap vs ds→ez c.w O s.heap ks kws→wpAny (model c.prog c.w) A (call f vs ks)
  (λ v s'=>∃fp,aB c [] [] s s'∧bF c s'∧cT c (fp++O) s'.heap v q fp∧∀a∈fp,s.heap.objs.size≤a∧a<s'.heap.objs.size) aZ s
noncomputable def P2(c:Cx)(n:Nat)(f:ag)(ds:List D)(kws:List (Str×D))(d:D):Prop:=
 ∀(A:aK) (O:List Addr) (s:ae) (vs:List ag) (ks:List (Str×ag)),Rm A n→Ok c O s→a0 c.w O s.heap vs ds→ez c.w O s.heap ks kws→wpAny (model c.prog c.w) A (call f vs ks)
  (λ v s'=>aB c [] [] s s'∧bF c s'∧∀O',(∀a∈O',a<s.heap.objs.size)→bh c.w O' s'.heap v d) aZ s
section
variable {c:Cx}{n:Nat}{E:VE}{ρ ρ':List Sl}{β:dH}{O O':List Addr}{ad:Nat→List Addr}{s s':ae}
theorem mI.fn{f:ag}{ds:List D}{kws:List (Str×D)}{q:OD}{d:D}(h:mI c n f ds kws q)(hq:q.Bm=some d):Fn c n f ds kws d:= λ A O s vs ks R K r r'=>
 wm (h A O s vs ks R K r r') λ v s' w0=>eE w0 λ fp g S o hf=>⟨g,S,o.Bm hq (λ a ha hO=>ak _ (ab (K.lt a hO) (hf a ha).1)) λ a h=>ao _ h⟩
theorem a0.getD{w:a9}{h:Heap}:∀{vs:List ag} {ds:List D},a0 w O h vs ds→∀i,i<ds.length→bh w O h (vs.getD i .none) (ds.getD i .none):= λ r i hi=>by
 refine c0 (r.at (aq hi)) λ v hv r'=>?_;rw[ai,ai,hv,aq hi];exact r'
theorem ez.fk{w:a9}{h:Heap}{ks:List (Str×ag)}{kws:List (Str×D)}(r:ez w O h ks kws):a0 w O h (ks.map (·.2)) (kws.map (·.2))∧ks.map (·.1)=kws.map (·.1):=
 r.ind ⟨trivial,rfl⟩ λ x v vs d ds q z ih=>⟨⟨q,ih.1⟩,congrArg (x:: ·) ih.2⟩
theorem ez.zip{w:a9}{h:Heap}:∀{ks:List ag} {kws:List (Str×D)},a0 w O h ks (kws.map (·.2))→ez w O h ((kws.map (·.1)).zip ks) kws
 |[],[],_=>by trivial
 |k::ks,d::ds,r=>⟨rfl,r.1,ez.zip r.2⟩
 |[],_::_,r=>r.elim
 |_::_,[],r=>r.elim
theorem Src.rep{w:a9}{h:Heap}{vs:List ag}{ks:List (Str×ag)}{ds:List D}{kws:List (Str×D)}(r:a0 w O h vs ds)(r':ez w O h ks kws){x:Src}(hx:x.Ku ds.length kws.length=true):bh w O h (x.val vs ks) (x.dat ds kws):=by
 cases x with
 |pos i=>exact r.getD i (of_decide_eq_true hx)
 |kw i=>exact r'.fk.1.getD i (by rw[aE];exact of_decide_eq_true hx)
 |dN=>exact(by show bh w O h .none .none;rfl)
 |dB b=>exact(by show bh w O h (.bool b) (.bool b);rfl)
 |dI i t=>exact(by show bh w O h (.int i t) (.int i);exact⟨t,rfl⟩)
theorem Src.fk{w:a9}{h:Heap}{vs:List ag}{ks:List (Str×ag)}{ds:List D}{kws:List (Str×D)}(r:a0 w O h vs ds)(r':ez w O h ks kws):∀{src:List Src},src.all (·.Ku ds.length kws.length)=true→a0 w O h (src.map (·.val vs ks)) (src.map (·.dat ds kws)):= λ {src} hx=>by
 induction src with
 |nil=>trivial
 |cons x l ih=>
  have hx:=aP.mp hx;exact⟨Src.rep r r' hx.1,ih hx.2⟩
theorem Inv.pad{m:Nat}(I:Inv c E β O ad ρ s):Inv c E β O ad (ρ++al m .no) s:=by
 have e:∀i,(ρ++al m Sl.no).getD i .no=ρ.getD i .no:= λ i=>by
  rw[ai,ai]
  by_cases h:i<ρ.length
  ·rw[mR h]
  ·rw[dZ (by lia),bk (l:=ρ) (by lia),BJ]
   split<;>rfl
 exact⟨I.ok,I.br,I.grow,I.lt,I.low,I.sub,I.n8,I.new,I.ns,I.cells,I.uG,I.tu,I.CG,I.CH,λ i x hx=>by rw[e];exact I.vars i x hx,I.mG,I.out⟩
theorem xW{A:aK}{a:Addr}{fd:FuncData}{body:List Stmt}{vn:List Str}{np:Nat}{ds:List D}{kws:List (Str×D)}(src:List Src){vs:List ag}{ks:List (Str×ag)}{out:Out}(F:nG c a fd body)(k:rN fd vn np=true)(ij:fd.scope.isGenerator=false)(hlen:src.length=np)(Dq:src.all (·.Ku ds.length kws.length)=true)(hb:∀s vs ks,bF c s→vs.length=ds.length→ks.map (·.1)=kws.map (·.1)→iy s fd ⟨vs,ks⟩ ((vn.take np).zip (src.map (·.val vs ks))))(h:∀L,Ex c n (mO fd L a vn) ((src.map (·.dat ds kws)).map Sl.val++al (vn.length-np) .no) body out)(R:Rm A (n+1))(K:Ok c O s)(r:a0 c.w O s.heap vs ds)(r':ez c.w O s.heap ks kws){Q:ag→ae→Prop}(hQ:∀E f s',mH c E ⟨s,O,O,[],[]⟩ out f s'→Q (match f with|.ret v=>v|_=>.none) s'):wpAny (model c.prog c.w) A (call (.ref a) vs ks) Q aZ s:=by
 refine AH (vs:=src.map (·.val vs ks)) (W:=[]) (G:=[]) F k ij R (.fk K (Src.fk r r' Dq)) (by rw[aE];exact hlen) (hb s vs ks K.br r.length r'.fk.2) ?_ λ f s' q=>hQ _ f s' q;intro A' jV au R' ⟨TP,PO,I⟩;exact h _ A' jV au R' ⟨TP,PO,I.pad⟩
theorem Fn.of{a:Addr}{fd:FuncData}{body:List Stmt}{vn:List Str}{np:Nat}{ds:List D}{kws:List (Str×D)}(src:List Src){d:D}(F:nG c a fd body)(k:rN fd vn np=true)(ij:fd.scope.isGenerator=false)(hlen:src.length=np)(Dq:src.all (·.Ku ds.length kws.length)=true)(hb:∀s vs ks,bF c s→vs.length=ds.length→ks.map (·.1)=kws.map (·.1)→iy s fd ⟨vs,ks⟩ ((vn.take np).zip (src.map (·.val vs ks))))(h:∀L,Ex c n (mO fd L a vn) ((src.map (·.dat ds kws)).map Sl.val++al (vn.length-np) .no) body (.ret d)):Fn c (n+1) (.ref a) ds kws d:= λ A O s vs ks R K r r'=>
 xW src F k ij hlen Dq hb h R K r r' λ E f s' q=>by
  refine eE q ?_;clear q;intro v z1 g S r;subst z1;exact⟨g,S,r⟩
theorem mI.of{a:Addr}{fd:FuncData}{body:List Stmt}{vn:List Str}{np:Nat}{ds:List D}{kws:List (Str×D)}(src:List Src){q:OD}(F:nG c a fd body)(k:rN fd vn np=true)(ij:fd.scope.isGenerator=false)(hlen:src.length=np)(Dq:src.all (·.Ku ds.length kws.length)=true)(hb:∀s vs ks,bF c s→vs.length=ds.length→ks.map (·.1)=kws.map (·.1)→iy s fd ⟨vs,ks⟩ ((vn.take np).zip (src.map (·.val vs ks))))(h:∀L,Ex c n (mO fd L a vn) ((src.map (·.dat ds kws)).map Sl.val++al (vn.length-np) .no) body (.qv q)):mI c (n+1) (.ref a) ds kws q:= λ A O s vs ks R K r r'=>
 xW src F k ij hlen Dq hb h R K r r' λ E f s' q=>by
  refine ew q ?_;clear q;intro v fp z1 zh;refine cg zh ?_;clear zh;intro g S r hf;subst z1;exact⟨fp,g,S,r,λ a h=>⟨(hf a h).1.elim (nn) id,(hf a h).2⟩⟩
theorem Fn.of_next{a:Addr}{fd:FuncData}{body:List Stmt}{vn:List Str}{np:Nat}{ds:List D}{kws:List (Str×D)}(src:List Src){ρ₁:List Sl}(F:nG c a fd body)(k:rN fd vn np=true)(ij:fd.scope.isGenerator=false)(hlen:src.length=np)(Dq:src.all (·.Ku ds.length kws.length)=true)(hb:∀s vs ks,bF c s→vs.length=ds.length→ks.map (·.1)=kws.map (·.1)→iy s fd ⟨vs,ks⟩ ((vn.take np).zip (src.map (·.val vs ks))))(h:∀L,Ex c n (mO fd L a vn) ((src.map (·.dat ds kws)).map Sl.val++al (vn.length-np) .no) body (.next ρ₁)):Fn c (n+1) (.ref a) ds kws .none:= λ A O s vs ks R K r r'=>
 xW src F k ij hlen Dq hb h R K r r' λ E f s' q=>by
  refine En q ?_;clear q;intro z1 O' ad I;subst z1;exact⟨I.grow,I.br,by rfl⟩
noncomputable def jz(c:Cx):ag→Prop
 |.builtin _=>True
 |.type _=>True
 |v=>keepIn c.K v=true
theorem jz.Fm{M:qU}{f:ag}(h:jz c f){t:Heap}(X:c.K.In t):∃k,(k=Keeper.frame∨k=Keeper.machine∨k=Keeper.boundFrame)∧As M t (keeperOf f) k:=by
 cases f<;>first|exact⟨.machine,.inr (.inl rfl),z_ rfl⟩|exact keeps_K h t X
noncomputable def ov(c:Cx)(n:Nat)(E:VE)(ρ:List Sl)(kws:List dT)(kwds:List (Str×D)):Prop:=
 kws.map (·.arg)=kwds.map (λ p=>some p.1)∧∀(A:aK) (β:dH) (O:List Addr) (ad:Nat→List Addr) (s:ae) (pos:Pos),Rm A n→Inv c E β O ad ρ s→
  wpAny (model c.prog c.w) A (evalAll ((backToKw pos (keywordEach kws E.env)).map (·.2))) (λ ks s'=>aB c [] [] s s'∧bF c s'∧a0 c.w O s'.heap ks (kwds.map (·.2))) aZ s
theorem ov.nil:ov c n E ρ [] []:=⟨rfl,λ A β O ad s pos R I=>x5 ⟨.refl ..,I.br,by rw[jY];trivial⟩⟩
theorem ov.cons{x:Str}{e:Expr}{p:Pos}{kws:List dT}{d:D}{kwds:List (Str×D)}(h:Ev c n E ρ e d)(t:ov c n E ρ kws kwds):ov c n E ρ (⟨some x,e,p⟩::kws) ((x,d)::kwds):=
 ⟨by rw[a_,a_,t.1],λ A β O ad s pos R I=>by
  show wpAny _ A (evalAll ((do let v ← eval e E.env;standAt pos;pure v)::(backToKw pos (keywordEach kws E.env)).map (·.2))) _ _ s;refine wpAny_evalAll_cons (aa (h.go R I λ v au cZ bj r=>aa (bS (ah (wm (t.2 A β O ad au pos R bj) λ ks aH q=>?_)))));refine⟨cZ.trans q.1,q.2.1,?_⟩;rw[a_];exact⟨q.1.rep0 r,q.2.2⟩⟩
theorem um:∀{kws:List dT} {kwds:List (Str×D)} {pos:Pos} {env:Env},kws.map (·.arg)=kwds.map (λ p=>some p.1)→(backToKw pos (keywordEach kws env)).filterMap (·.1)=kwds.map (·.1)∧(backToKw pos (keywordEach kws env)).all (·.1.isSome)=true∧(backToKw pos (keywordEach kws env)).any (·.1.isNone)=false
 |[],[],_,_,_=>⟨rfl,rfl,rfl⟩
 |⟨a,v,p⟩::kws,q::kwds,pos,env,h=>by
  rw[a_,a_]at h;injection h with h1 h2
  have ih:=um (pos:=pos) (env:=env) h2;have h1:a=some q.1:=h1;subst h1;refine⟨?_,?_,?_⟩
  ·show yf _ ((some q.1,_)::backToKw pos (keywordEach kws env))=_;rw[bz (f:= λ x:Option Str×Sem ag=>x.1) (b:=q.1) rfl,ih.1];rfl
  ·show List.all ((some q.1,_)::backToKw pos (keywordEach kws env)) _=_;rw[List.all_cons,ih.2.1];rfl
  ·show List.any ((some q.1,_)::backToKw pos (keywordEach kws env)) _=_;rw[nu,ih.2.2];rfl
 |[],_::_,_,_,h=>by trivial
 |_::_,[],_,_,h=>by trivial
theorem ym{A:aK}{f:ag}{args:List Expr}{kws:List dT}{pos:Pos}{ds:List D}{kwds:List (Str×D)}(R:Rm A n)(I:Inv c E β O ad ρ s)(ha:cn c n E ρ args ds)(hk:ov c n E ρ kws kwds)(hp:(starEach args E.env).any (·.1)=false):
  wpAny (model c.prog c.w) A (evalArgs f true (backTo pos (starEach args E.env)) (backToKw pos (keywordEach kws E.env))) (λ a s'=>aB c [] [] s s'∧bF c s'∧a0 c.w O s'.heap a.pos ds∧ez c.w O s'.heap a.kw kwds) aZ s:=by
 refine jH (um (pos:=pos) (env:=E.env) hk.1) λ h1 h2 h3=>?_;have tail:∀vs au,aB c [] [] s au→bF c au→a0 c.w O au.heap vs ds→wpAny (model c.prog c.w) A (evalAll ((backToKw pos (keywordEach kws E.env)).map (·.2)))
   (λ ks aH=>aB c [] [] s aH∧bF c aH∧a0 c.w O aH.heap vs ds∧ez c.w O aH.heap (((backToKw pos (keywordEach kws E.env)).filterMap (·.1)).zip ks) kwds) aZ au:= λ vs au cZ lM bC=>
  wm (hk.2 A β O ad au pos R (I.fU cZ lM)) λ ks aH q=>⟨cZ.trans q.1,q.2.1,q.1.j_ bC,by rw[h1];exact ez.zip q.2.2⟩
 cases args with
 |nil=>
  refine evalArgs_kw2_nil h2 (tail [] s (.refl ..) I.br ?_);cases ds with
  |nil=>trivial
  |cons d ds=>
   have:=ha.1;trivial
 |cons e rest=>
  refine evalArgs_kw2 h2 (wm (ha.2 A β O ad s pos R I) λ vs au q=>tail vs au q.1 q.2.1 q.2.2) ?_;cases e<;>first|rfl|exact bE (show true=false from hp)
end
noncomputable def cX(c:Cx)(x:Str)(v:ag):Prop:=c.mg x=some v∨(c.mg x=none∧c.mb x=some v)
noncomputable def yb(c:Cx)(n m:Nat)(f:ag)(tg:Expr)(eK:List D)(d:D):Prop:=
 ∀(A:aK) (O:List Addr) (s₀ s:ae) (a:Addr) (g:Nat),Rm A n→Ok c O s₀→aB c [] [] s₀ s→bF c s→s.heap.IsGen a g→iK c m tg O O s₀ eK (.ref a) s→wpAny (model c.prog c.w) A (call f [.ref a] [])
  (λ v s'=>aB c [] [] s₀ s'∧bF c s'∧bh c.w O s'.heap v d) aZ s
section
variable {c:Cx}{n:Nat}{E:VE}{ρ ρ':List Sl}{β:dH}{O O':List Addr}{ad:Nat→List Addr}{s s':ae}
theorem iN{A:aK}{x:Str}{pos:Pos}{v:ag}{Q:ag→ae→Prop}{X:ag→ae→Prop}(I:Inv c E β O ad ρ s)(hk:E.env.kindOf x=some .globalImplicit)(hg:cX c x v)(hd:(x==("__debug__":Str))=false)(h:Q v s):wpAny (model c.prog c.w) A (eval (.Name x pos) E.env) Q X s:=by
 refine Name_function_global I.ok.kind hk ?_ hd;have S:=I.br
 rcases hg with hg|⟨hg,hb⟩
 ·exact loadGlobal_global (by rw[I.ok.glob];exact S.g) hg h
 ·exact loadGlobal_builtin (by rw[I.ok.glob];exact S.g) hg (by rw[I.ok.blt];exact S.b) hb h
theorem fT{A:aK}{f:ag}{first:List ag}{args:List Expr}{kws:List dT}{pos:Pos}{ds:List D}{kwds:List (Str×D)}(R:Rm A n)(I:Inv c E β O ad ρ s)(hf:jz c f)(ha:cn c n E ρ args ds)(hk:ov c n E ρ kws kwds)(hp:(starEach args E.env).any (·.1)=false){Q:ag→ae→Prop}(h:∀vs ks s',aB c [] [] s s'→Inv c E β O ad ρ s'→a0 c.w O s'.heap vs ds→ez c.w O s'.heap ks kwds→wpAny (model c.prog c.w) A (call f (first++vs) ks) Q aZ s'):
  wpAny (model c.prog c.w) A (callWith pos f first (backTo pos (starEach args E.env)) (backToKw pos (keywordEach kws E.env))) Q aZ s:=by
 refine jH (um (pos:=pos) (env:=E.env) hk.1) λ h1 h2 h3=>?_;refine callWith_of (P:=c.K.In) ?_ (λ t X=>hf.Fm X) (wm (ym R I ha hk hp) λ a s' q=>⟨q.2.1.fZ,h a.pos a.kw s' q.1 (I.fU q.1 q.2.1) q.2.2.1 q.2.2.2⟩);rw[h3,Bool.or_false];have:∀l:List (Bool×Sem ag),l.any (·.1)=false→(backTo pos l).any (·.1)=false:=by
  intro l
  induction l with
  |nil=>intro z;rfl
  |cons a l ih=>
   intro h;rw[nu,Bool.or_eq_false_iff]at h;show List.any ((a.1,_)::backTo pos l) _=false;rw[nu,h.1,ih h.2];rfl
 exact this _ hp
theorem Ev.call{x:Str}{p pos:Pos}{args:List Expr}{kws:List dT}{v:ag}{ds:List D}{kwds:List (Str×D)}{d:D}(hx:E.env.kindOf x=some .globalImplicit)(hg:cX c x v)(keep:jz c v)(ha:cn c n E ρ args ds)(hk:ov c n E ρ kws kwds)(hf:Fn c n v ds kwds d)(hd:autoParam ((x==("__debug__":Str))=false) rf)(hp:autoParam ((starEach args E.env).any (·.1)=false) rf):Ev c n E ρ (.Call (.Name x p) args kws pos) d:= λ A β O ad s R I=>
 fL (iN I hx hg hd (fT R I keep ha hk hp λ vs ks au cZ bj r r'=>wm (hf A O au vs ks R bj.o r r') λ z z q=>q.after cZ))
theorem gF.call{x:Str}{p pos:Pos}{args:List Expr}{kws:List dT}{v:ag}{ds:List D}{kwds:List (Str×D)}{q:OD}(hx:E.env.kindOf x=some .globalImplicit)(hg:cX c x v)(keep:jz c v)(ha:cn c n E ρ args ds)(hk:ov c n E ρ kws kwds)(hf:mI c n v ds kwds q)(hd:autoParam ((x==("__debug__":Str))=false) rf)(hp:autoParam ((starEach args E.env).any (·.1)=false) rf):gF c n E ρ (.Call (.Name x p) args kws pos) q:= λ A β O ad s R I=>
 fL (iN I hx hg hd (fT R I keep ha hk hp λ vs ks au cZ bj r r'=>wm (hf A O au vs ks R bj.o r r') λ v aH w0=>eE w0 λ fp g S o jx=>⟨fp,cZ.trans g,S,o,λ a h=>⟨af cZ.size (jx a h).1,(jx a h).2⟩⟩))
theorem xZ.call{x:Str}{p pos:Pos}{args:List Expr}{kws:List dT}{v:ag}{ds:List D}{kwds:List (Str×D)}{d:D}(hx:E.env.kindOf x=some .globalImplicit)(hg:cX c x v)(keep:jz c v)(ha:cn c n E ρ args ds)(hk:ov c n E ρ kws kwds)(hf:P2 c n v ds kwds d)(hd:autoParam ((x==("__debug__":Str))=false) rf)(hp:autoParam ((starEach args E.env).any (·.1)=false) rf):xZ c n E ρ (.Call (.Name x p) args kws pos) d:= λ A β O ad s R I=>
 fL (iN I hx hg hd (fT R I keep ha hk hp λ vs ks au cZ bj r r'=>wm (hf A O au vs ks R bj.o r r') λ v aH q=>⟨cZ.trans q.1,q.2.1,λ O' h=>q.2.2 O' λ a ha=>ab (h a ha) cZ.size⟩))
theorem Ev.zT{m:Nat}{x:Str}{p pos:Pos}{elt EC iter:Expr}{ifs:List Expr}{scope:iU}{uE:Pos}{v:ag}{tg:Expr}{Ds:List D→Prop}{d:D}(hx:E.env.kindOf x=some .globalImplicit)(hg:cX c x v)(keep:jz c v)(ha:Hf c m E ρ (.GeneratorExp elt [⟨EC,iter,ifs,0⟩] scope uE) tg Ds)(hm:m≤n)(hf:∀eK,Ds eK→yb c n m v tg eK d)(hd:autoParam ((x==("__debug__":Str))=false) rf):Ev c n E ρ (.Call (.Name x p) [.GeneratorExp elt [⟨EC,iter,ifs,0⟩] scope uE] [] pos) d:= λ A β O ad s R I=>by
 refine fL (iN I hx hg hd ?_);show wpAny _ A (callWith pos v [] (backTo pos (starEach [.GeneratorExp elt [⟨EC,iter,ifs,0⟩] scope uE] E.env)) (backToKw pos (keywordEach [] E.env))) _ _ s;refine callWith_of (P:=c.K.In) rfl (λ t X=>keep.Fm X) (evalArgs_kw2 rfl (z5 (wm (ha A β O ad s (R.le hm) I) λ u au q=>BF (x5 ?_)) rfl) rfl);refine rg q ?_;clear q;intro cZ lM y1 eK Mg fV;refine Mq y1 ?_;clear y1;intro a z2 g ij;subst z2;exact⟨lM.fZ,wm (hf eK Mg A O s au a g R I.o cZ lM ij fV) λ z z q=>q⟩
end
section
variable {c:Cx}{n:Nat}{E:VE}{ρ ρ':List Sl}{β:dH}{O O':List Addr}{ad:Nat→List Addr}{s s':ae}
theorem LI.go{A:aK}{tg:Expr}{it:ag}{k:Snap}{F:List Addr}{G:List Nat}{P:List Addr→List D→ae→Prop}{ds:List D}(T:nN c A tg it k G P)(L:LI c E β k F G O ad ρ s)(p:P F ds s):
  ∃jV,jV.s=s∧JR c β jV∧Inv c E jV O ad ρ s∧∀ρ'' d7,z0 c E jV ρ'' d7→∃O' pR,LI c E β k F G O' pR ρ'' d7∧P F ds d7:=by
 refine eE (L.I.anchor L.hF L.hL L.hC λ i z=>L.hV i) λ jV G4 u I' zh=>cg zh λ hW hG hF hN=>?_;refine⟨jV,G4,u,I',?_⟩;subst G4
 rintro ρ'' d7 ⟨O',pR,i5⟩
 have hz:k.s.heap.objs.size≤jV.s.heap.objs.size:=let⟨_,_,g,_⟩:=L.hS;g.size
 refine⟨O',pR,⟨u.up i5,λ a h=>i5.sub a (hF a h),L.hL,L.hC,λ i a ha hf=>(i5.small i a ha).2.2.2.2 (hF a hf),L.hW,L.hG,λ g h=>ab (L.Ge g h) i5.grow.dv,L.hS.step i5.grow λ a h=>⟨L.hN a (hW a h).2,λ hk=>(hW a h).1 (ao _ hk)⟩,λ a h=>?_,L.hK⟩,?_⟩
 ·exact(i5.new a h).elim (λ h=>L.hN a (hN a h)) λ h=>.inr (af hz h)
 ·exact T.frame p i5.grow i5.br (λ a h hf=>(hW a h).1 (aF _ hf)) (λ g h=>by rw[hG]at h;exact nn h)
noncomputable def IZ(c:Cx)(n:Nat)(E:VE)(ρ:List Sl)(tg:Expr)(it:ag)(ds:List D)(ss:List Stmt)(out:Out):Prop:=
 ∀(A:aK) (β:dH) (O:List Addr) (ad:Nat→List Addr) (s:ae) (k:Snap) (F:List Addr) (G:List Nat) (P:List Addr→List D→ae→Prop),Rm A n→nN c A tg it k G P→LI c E β k F G O ad ρ s→P F ds s→
  wpAny (model c.prog c.w) A (execs ss E.env) (mH c E β out) aZ s
theorem IZ.seq{tg:Expr}{it:ag}{ds:List D}{st:Stmt}{ss:List Stmt}{out:Out}(h:bc c n E ρ st (.next ρ'))(t:IZ c n E ρ' tg it ds ss out):IZ c n E ρ tg it ds (st::ss) out:= λ A β O ad s k F G P R T L p=>by
 refine eE (L.go T p) λ jV G4 u I' key=>?_;refine lX (wm (h A jV s R ⟨O,ad,I'⟩) λ f au q=>?_);refine xa q ?_;clear q;intro z1 q;subst z1;refine ew (key _ _ q) λ O' ad' L' p'=>?_;exact t A β O' ad' au k F G P R T L' p'
theorem IZ.for{tg iter:Expr}{it:ag}{ds:List D}{body:List Stmt}{pos:Pos}{ss:List Stmt}{out:Out}(h:Ev c n E ρ iter (.lit it))(l:Lp c n E ρ tg body ds (.next ρ'))(t:Ex c n E ρ' ss out)(hf:∀x,foldedSetIterable iter E.env x=pure x:=by intro z;rfl):
  IZ c n E ρ tg it ds (.For tg iter body [] pos::ss) out:= λ A β O ad s k F G P R T L p=>by
 obtain⟨jV,G4,u,I',key⟩:=L.go T p;refine lX (wpAny_For (h.go R I' λ v au cZ bj r=>?_) hf);subst r;obtain⟨O',ad',L',p'⟩:=key _ _ ⟨O,ad,bj⟩;refine wm (T.self L'.I.br p') λ w aH q=>?_;obtain⟨rfl,rfl⟩:=q;refine a7 (l A β O' ad' aH w k F G P R T L' p') λ r cq q=>?_;cases r with
 |error e=>exact q.elim
 |ok f=>
  obtain⟨rfl,q⟩:=q;exact t A β cq R q
theorem yb.of{m:Nat}{a:Addr}{fd:FuncData}{body:List Stmt}{vn:List Str}{tg:Expr}{eK:List D}{d:D}(F:nG c a fd body)(k:rN fd vn 1=true)(ij:fd.scope.isGenerator=false)(hb:∀s v,bF c s→iy s fd ⟨[v],[]⟩ ((vn.take 1).zip [v]))(hm:m≤n)(h:∀L it,IZ c n (mO fd L a vn) (.val (.lit it)::al (vn.length-1) .no) tg it eK body (.ret d)):yb c (n+1) m (.ref a) tg eK d:= λ A O s₀ s b g R K fW S Im fV=>by
 refine dj fV ?_;clear fV;intro F' G hF hG fV;have hz:=fW.size;have ON:∀e∈F'++O,e<s.heap.objs.size∧c.B≤e:= λ e he=>(aC.mp he).elim (λ h=>⟨(hF e h).2,af K.br.size (hF e h).1⟩) λ h=>⟨ab (K.lt e h) hz,K.low e h⟩;refine nQ (O:=F'++O) (vs:=[.ref b]) (W:=F') (G:=G) F k ij R (Au.fk (ds:=[.lit (.ref b)]) ⟨S,λ e he=>(ON e he).1,λ e he=>(ON e he).2⟩ ⟨rfl,trivial⟩) rfl (hb s _ S) λ O' ad au qJ I gz hL hC=>?_;refine c0 (fV (A.deeper (callEnvC fd s.heap.objs.size a)) (R.deeper.le hm)) λ P T p=>?_;have N2:∀e∈F'++O,e∈O':= λ e he=>gz e (by trivial);have L:LI c (mO fd s.heap.objs.size a vn) ⟨s,F'++O,F'++O,F',G⟩ ⟨s,F'++O,O⟩ F' G O' ad (.val (.lit (.ref b))::al (vn.length-1) .no) au:=by
  refine⟨I.pad (m:=vn.length-1),N2,λ h=>?_,λ q hq h=>?_,λ i e he h=>(I.small i e he).2.2.2.2 h,λ e h=>⟨.inl h,.inl (aF _ h),λ hO=>?_⟩,λ g h=>.inl h,λ g h=>ab (hG g h).2 qJ.dv,(cB.refl (c:=c) (k:=⟨s,F'++O,O⟩)).JE qJ,λ e h=>I.new e h,λ e h=>(ON e (ao _ h)).1⟩
  ·exact ak _ (ab (ON _ h).1 hL)
  ·exact ak _ (ab (ON _ h).1 (hC q hq))
  ·exact ak _ (ab (K.lt e hO) (hF e h).1)
 have nB:P F' eK au:=T.frame p qJ I.br (λ z=>nn) λ z=>nn;refine wm (h _ _ _ _ _ _ au _ F' G P R.deeper T L nB) λ f s' q=>?_;refine eE q ?_;clear q;intro v z1 gr S' r;subst z1;refine⟨fW.comp gr (λ e h=>.inr (hF e h).1) λ g h=>.inr (hG g h).1,S',bh.kept (.refl _ _) (λ e h=>.inl (ao _ h)) r⟩
end
section
set_option backward.match.sparseCases false
noncomputable def attrOk(K:Frag)(C:Addr)(name:Str):Bool:=plainGet K C name&&hasDictIn K C&&(match findIn K (.ref C) name with|some a=>noGet K a|none=>false)
noncomputable def jS(K:Frag)(C:Addr)(name:Str)(f:Addr):Bool:=plainGet K C name&&(findIn K (.ref C) name==some (some (.ref f)))&&isFn K (.ref f)&&fnIn K f&&keepIn K (.ref f)
noncomputable def fh(K:Frag)(C:Addr)(name:Str):Bool:=findIn K (.ref C) "__setattr__"==some (some (.builtin "object.__setattr__"))&&plainOver K C&&takerIn K C name==some none&&hasDictIn K C
noncomputable def zR(K:Frag)(C:Addr)(name:Str)(a:ag):Bool:=plainGet K C name&&hasDictIn K C&&findIn K (.ref C) name==some (some a)&&specialIn K a "__get__"==some none&&handedIn a&& !copiedNames.contains name
section
variable {c:Cx}{n:Nat}{E:VE}{ρ ρ':List Sl}{β:dH}{O O':List Addr}{ad:Nat→List Addr}{s s':ae}
theorem iI{h:Heap}{a dx C:Addr}{es:List cV}{m:Nat}(h1:h.get? a=some (ig C dx))(h2:h.get? dx=some (dictOf es m)):InstAt h a (ig C dx) C (some (dictOf es m)):=⟨h1,rfl,rfl,h2⟩
theorem jP{A:aK}{a dx C:Addr}{es:List cV}{m:Nat}{name:Str}{v:ag}{expr:Bool}{Q:ag→ae→Prop}{X:ag→ae→Prop}(S:bF c s)(h1:s.heap.get? a=some (ig C dx))(h2:s.heap.get? dx=some (dictOf es m))(hA:attrOk c.K C name=true)(hl:getL name es=some (some v))(hv:handedIn v=true)(h:Q v {s with toks:=s.toks+1}):wpAny (model c.prog c.w) A (getAttr (.ref a) name expr) Q X s:=by
 unfold attrOk at hA;rw[bg,bg]at hA;refine xa hA ?_;clear hA;intro y1 ha;refine xa y1 ?_;clear y1;intro hg hh;cases hf:findIn c.K (.ref C) name with
 |none=>rw[hf]at ha;cases ha
 |some at'=>
  rw[hf]at ha;exact get_value S.fZ (iI h1 h2) (oM hg).1 (findObj_own hh hf ha hl) hv h
noncomputable def D.seen:D→Bool
 |.lit _|.any=>false
 |_=>true
set_option tactic.hygienic true in
theorem bh.handed{w:a9}{h:Heap}{v:ag}{d:D}(hd:d.seen=true)(r:bh w O h v d):handedIn v=true:=by
 cases d
 case none=>subst r;rfl
 case bool b=>subst r;rfl
 case int i=>exact bh.ef r λ t=>rfl
 case str x=>exact bh.ri r λ t=>rfl
 case tup ds=>exact bh.ql r λ a z z z z=>rfl
 case lst ds=>exact bh.n7 r λ a z z z z=>rfl
 case dm xs=>exact bh.sm r λ a z z z z z z=>rfl
 case k8 k st=>exact bh.yq r λ a z z z z z z=>rfl
 case inst C fs=>exact bh.qH r λ a z z z z z z z z z z=>rfl
 case dJ sQ=>exact bh.Cd r λ a z z z z z z=>rfl
 case D5 x y=>exact bh.ES r λ a z z z z z=>rfl
 case lit=>exact absurd hd eu
 case any=>exact absurd hd eu
theorem ez.lookup{w:a9}{h:Heap}{ps:List (Str×ag)}{fs:List (Str×D)}{x:Str}{d:D}(r:ez w O h ps fs):fs.lookup x=some d→∃v,ps.lookup x=some v∧bh w O h v d:=
 r.ind (λ e=>by cases e) λ y v vs d ds q z ih e=>by
  rw[aX]at e⊢;cases hx:x==y with
  |true=>rw[hx]at e;cases e;exact⟨_,rfl,q⟩
  |false=>rw[hx]at e;exact ih e
theorem Ev.attr{x name:Str}{p pos:Pos}{C:Addr}{fs:List (Str×D)}{d:D}(h:Ev c n E ρ (.Name x p) (.inst C fs))(hA:attrOk c.K C name=true)(hf:fs.lookup name=some d)(hd:autoParam (d.seen=true) rf):Ev c n E ρ (.Attribute (.Name x p) name pos) d:= λ A β O ad s R I=>
 hJ (h.go R I λ v au cZ bj r=>by
  refine bh.qH r ?_;clear r;intro a dx es m ps ha hx h1 h2 hg r;refine c0 (r.lookup hf) λ v hv r=>?_;exact jP bj.br h1 h2 hA (by rw[hg,hv]) (r.handed hd) ⟨cZ.toks,bj.br.toks,r⟩)
theorem Ev.Py(i:Nat){x name:Str}{p pos:Pos}{C:Addr}{u:Option Addr}{m:Bool}{fs:List (Str×D)}{d:D}(hx:E.vn[i]? =some x)(dP:ρ[i]? =some (Sl.own m (.inst u C fs)))(hA:attrOk c.K C name=true)(hf:fs.lookup name=some d)(hd:autoParam (d.seen=true) rf):Ev c n E ρ (.Attribute (.Name x p) name pos) d:= λ A β O ad s R I=>by
 have h1:=I.vars i x hx;rw[show ρ.getD i .no=.own m (.inst u C fs) by rw[ai,dP];rfl]at h1;refine cI h1 ?_;clear h1;intro v b r k;refine iB r ?_;clear r;intro a dx zh;refine c_ zh ?_;clear zh;intro es m ps z1 jx zh;refine cg zh ?_;clear zh;intro hu ku h1 zh;refine cg zh ?_;clear zh;intro h2 hz hg r;subst z1;refine c0 (r.lookup hf) λ v hv r=>?_;have hm:=bw hx;refine hJ (vS ?_ (I.ok.JI x hm).1);have fin:wpAny (model c.prog c.w) A (getAttr (.ref a) name true) (Res c O s d) aZ s:=jP I.br h1 h2 hA (by rw[hg,hv]) (r.handed hd) ⟨(aB.refl ..).toks,I.br.toks,r⟩
 rcases I.ok.var x hm with hl|⟨hl,_⟩
 ·refine c0 (b.1 hl) λ m hn e=>?_;exact f7 I.ok.kind hl hn e fin
 ·have ku:E.env.kindOf x≠some .local:=by rcases hl with h|h<;>rw[h]<;>trivial
  refine c0 (b.2 ku) λ a' e hc=>?_
  rcases hl with hl|hl
  ·exact mQ I.ok.kind hl e hc fin
  ·exact mP I.ok.kind hl e hc fin (I.ok.JI x hm).2
theorem CL{A:aK}{a dx C:Addr}{es:List cV}{m:Nat}{name:Str}{v:ag}{expr:Bool}{Q:ag→ae→Prop}{X:ag→ae→Prop}(S:bF c s)(h1:s.heap.get? a=some (ig C dx))(h2:s.heap.get? dx=some (dictOf es m))(hA:zR c.K C name v=true)(hl:getL name es=some none)(h:Q v {s with toks:=s.toks+1}):wpAny (model c.prog c.w) A (getAttr (.ref a) name expr) Q X s:=by
 unfold zR at hA;simp only[bg,beq_iff_eq,j6]at hA;refine xa hA ?_;clear hA;intro y1 hc;refine xa y1 ?_;clear y1;intro y2 hv;refine xa y2 ?_;clear y2;intro y3 hn;refine xa y3 ?_;clear y3;intro y4 ha;refine xa y4 ?_;clear y4;intro hg hh;exact get_value S.fZ (iI h1 h2) (oM hg).1 (findObj_cls hh ha hn hv hc hl) hv h
theorem Inv.read{A:aK}{i:Nat}{x:Str}{pos:Pos}{v:ag}{Q:ag→ae→Prop}{X:ag→ae→Prop}(I:Inv c E β O ad ρ s)(hx:E.vn[i]? =some x)(b:Bound s.heap E.env x v)(h:Q v s):wpAny (model c.prog c.w) A (eval (.Name x pos) E.env) Q X s:=by
 have hm:=bw hx;refine vS ?_ (I.ok.JI x hm).1
 rcases I.ok.var x hm with hl|⟨hl,_⟩
 ·refine c0 (b.1 hl) λ m hn e=>?_;exact f7 I.ok.kind hl hn e h
 ·have ku:E.env.kindOf x≠some .local:=by rcases hl with h|h<;>rw[h]<;>trivial
  refine c0 (b.2 ku) λ a' e hc=>?_
  rcases hl with hl|hl
  ·exact mQ I.ok.kind hl e hc h
  ·exact mP I.ok.kind hl e hc h (I.ok.JI x hm).2
theorem Inv.slot{i:Nat}{x:Str}{m:Bool}{q:OD}(I:Inv c E β O ad ρ s)(hx:E.vn[i]? =some x)(dP:ρ[i]? =some (Sl.own m q)):∃v,Bound s.heap E.env x v∧cT c O s.heap v q (ad i)∧∀a∈ad i,a∈O∧a≠E.env.locals∧(∀p∈E.env.cells,p.2≠a)∧(m=true→BD β a)∧a∉β.O∧a<s.heap.objs.size:=by
 have h1:=I.vars i x hx;rw[show ρ.getD i .no=.own m q by rw[ai,dP];rfl]at h1;exact h1
theorem Ev.PA(i:Nat){x name:Str}{p pos:Pos}{C:Addr}{u:Option Addr}{m:Bool}{fs:List (Str×D)}{v:ag}{d:D}(hx:E.vn[i]? =some x)(dP:ρ[i]? =some (Sl.own m (.inst u C fs)))(hA:zR c.K C name v=true)(hf:fs.lookup name=none)(hv:∀O s,Ok c O s→bh c.w O s.heap v d):
  Ev c n E ρ (.Attribute (.Name x p) name pos) d:= λ A β O ad s R I=>by
 refine cI (I.slot hx dP) λ u' b r k=>?_;refine iB r ?_;clear r;intro a dx zh;refine c_ zh ?_;clear zh;intro es m ps z1 jx zh;refine cg zh ?_;clear zh;intro hu ku h1 zh;refine cg zh ?_;clear zh;intro h2 hz hg r;subst z1;have hn:ps.lookup name=none:=by
  have:∀{ps:List (Str×ag)} {fs:List (Str×D)},ez c.w O s.heap ps fs→fs.lookup name=none→ps.lookup name=none:=by
   intro ps
   induction ps with
   |nil=>intro z z z;rfl
   |cons p ps ih=>
    intro fs r e;cases fs with
    |nil=>exact r.elim
    |cons q fs=>
     rw[show q::fs=(q.1,q.2)::fs from rfl,aX]at e;rw[show p::ps=(p.1,p.2)::ps from rfl,aX,r.1];cases hx:name==q.1 with
     |true=>rw[hx]at e;cases e
     |false=>rw[hx]at e;exact ih r.2.2 e
  exact this r hf
 exact hJ (I.read hx b (CL I.br h1 h2 hA (by rw[hg,hn]) ⟨(aB.refl ..).toks,I.br.toks,hv O _ ⟨I.br.toks,I.lt,I.low⟩⟩))
theorem Be{v:ag}{x y:Str}(h:v.isStr x=true)(h':v.isStr y=true):x=y:=by
 cases v<;>first|exact bE h|exact(eq_of_beq h).symm.trans (eq_of_beq h')
theorem Gm{x y:Str}{hsh:Int}{tk:Tok}{v:ag}{es:List cV}:(putL x hsh (.str x tk) v es).find? (·.key.isStr y)=if y=x then some (match es.find? (·.key.isStr x)with|some e=>⟨e.hash,e.key,v⟩|none=>⟨hsh,.str x tk,v⟩)else es.find? (·.key.isStr y):=by
 have hs:(Value.str x tk).isStr y=(x==y):=rfl
 induction es with
 |nil=>
  by_cases h:y=x
  ·subst h;rw[if_pos rfl];exact gL (hs.trans (beq_self_eq_true y))
  ·rw[if_neg h];exact fc λ e=>h (eq_of_beq (hs.symm.trans e)).symm
 |cons e r ih=>
  unfold putL;cases hx:e.key.isStr x with
  |true=>
   rw[if_pos rfl,gL (p:= λ z:cV=>z.key.isStr x) hx]
   by_cases h:y=x
   ·rw[if_pos h,gL (p:= λ z:cV=>z.key.isStr y) (by subst h;exact hx)]
   ·have k:¬e.key.isStr y=true:= λ hy=>h (Be hy hx);rw[if_neg h,fc (p:= λ z:cV=>z.key.isStr y) (a:=e) k,fc (p:= λ z:cV=>z.key.isStr y) (a:=⟨e.hash,e.key,v⟩) k]
  |false=>
   have kx:¬e.key.isStr x=true:=by rw[hx];exact bE
   rw[if_neg bE,fc (p:= λ z:cV=>z.key.isStr x) kx]
   by_cases hy:e.key.isStr y=true
   ·rw[gL (p:= λ z:cV=>z.key.isStr y) hy,gL (p:= λ z:cV=>z.key.isStr y) hy,if_neg λ e'=>kx (by subst e';exact hy)]
   ·rw[fc (p:= λ z:cV=>z.key.isStr y) hy,fc (p:= λ z:cV=>z.key.isStr y) hy,ih]
theorem any_put{x:Str}{hsh:Int}{tk:Tok}{v:ag}(R4:(⟨hsh,.str x tk,v⟩:cV).refKey=false):∀{es:List cV},(putL x hsh (.str x tk) v es).any (·.refKey)=es.any (·.refKey)
 |[]=>by rfl
 |e::r=>by
  unfold putL;cases hx:e.key.isStr x with
  |true=>simp only[if_true,nu];rfl
  |false=>simp only[aR,if_false,nu,any_put R4]
theorem zH{x y:Str}{hsh:Int}{tk:Tok}{v:ag}{es:List cV}{o:Option ag}(hy:getL y es=some o):getL y (putL x hsh (.str x tk) v es)=some (if y=x then some v else o):=by
 unfold getL at hy⊢;rw[Gm,any_put rfl]
 by_cases h:y=x
 ·subst h;simp only[if_true];cases es.find? (λ z=>z.key.isStr y)<;>rfl
 ·simp only[h,if_false];exact hy
theorem n4{x:Str}{hsh:Int}{key v:ag}:∀(es:List cV),(putL x hsh key v es).length≤es.length+1:=by
 intro w
 induction w with
 |nil=>
  exact az _
 |cons e r ih=>
  unfold putL
  split
  ·simp
  ·have:=ih;simp only[aJ];exact cY this
set_option tactic.hygienic true in
theorem tH{A:aK}{a dx C:Addr}{es:List cV}{m:Nat}{name:Str}{v:ag}{Q:Unit→ae→Prop}{X:ag→ae→Prop}(S:bF c s)(h1:s.heap.get? a=some (ig C dx))(h2:s.heap.get? dx=some (dictOf es m))(hA:fh c.K C name=true)(hl:(getL name es).isSome=true)(hz:es.length≤900)(h:∀h' m' tk,h'.get? dx=some (dictOf (putL name (jN c.w.params name) (.str name (s.toks+1)) v es) m')→c9 dx s.heap h'→Q () {s with heap:=h',toks:=tk}):wpAny (model c.prog c.w) A (setAttr (.ref a) name v) Q X s:=by
 unfold fh at hA;simp only[bg,beq_iff_eq]at hA;refine xa hA ?_;clear hA;intro y1 hh;refine xa y1 ?_;clear y1;intro y2 ht;refine xa y2 ?_;clear y2;intro hs hp;refine set_plain S.fZ (iI h1 h2) hs ?_;have S':bF c {s with toks:=s.toks+1}:=S.toks;refine osa_open (s:={s with toks:=s.toks+1}) S.fZ (iI h1 h2) hp ht λ b=>?_;refine c0 (any_some hh) λ cd hc iQ=>?_;refine aa (ah (aa (aa (wpAny_loadPart h1 (aa ((looks_clsIn (h:=Shared.heap {s with toks:=s.toks+1}) S'.fZ hc).here ?_))))));rw[iQ];refine ah (a:=some dx) (aa (ah (aa ?_)));refine aa (aa (cQ (ah (aa (wpAny_mkText (aa (wpAny_loadPart h2 ?_)))))));dsimp only;have cc:(!es.toArray.any (·.key.isStr name)&&es.toArray.any (·.refKey))=false:=by
  rw[← Array.any_toList,← Array.any_toList];unfold getL at hl
  split at hl
  ·rename_i en he;rw[iW.mpr ⟨en,List.mem_of_find?_eq_some he,List.find?_some he⟩];rfl
  ·split at hl
   ·cases hl
   ·rename_i z;rw[Bool.not_eq_true]at z;rw[z,Bool.and_false]
 rw[aRefKeyMayBeTheName_at,cc];refine wpAny_updatePart h2 ?_;have eN:=bA s.heap dx (Obj.putName name (jN c.w.params name) (.str name (s.toks+1)) v);have hg:=b7 (h:=s.heap) (Obj.putName name (jN c.w.params name) (.str name (s.toks+1)) v) h2 (by rw[putName_dict];rfl);rw[putName_dict]at hg;refine aa (wpAny_lookBehind hg (pastItsLine_dict (by have:=n4 (x:=name) (hsh:=jN c.w.params name) (key:=.str name (s.toks+1)) (v:=v) es;rw[ba,cH];lia)) ?_);exact ah (h _ _ _ hg eN)
end
end
section
variable {c:Cx}{n:Nat}{E:VE}{ρ ρ':List Sl}{β:dH}{O O' W N:List Addr}{G:List Nat}{ad:Nat→List Addr}{s s':ae}
theorem Inv.jj(I:Inv c E β O ad ρ s){i:Nat}{x:Str}{q q':OD}{v:ag}{fp:List Addr}(hx:E.vn[i]? =some x)(dP:ρ[i]? =some (.own true q))(y:aB c W [] s s')(S:bF c s')(hW:∀a∈W,a∈ad i)(b:Bound s.heap E.env x v)(r:cT c (N++O) s'.heap v q' fp)(hN:∀a∈N,s.heap.objs.size≤a∧a<s'.heap.objs.size)(jx:∀a∈fp,a∈ad i∨a∈N):Inv c E β (N++O) (λ j=>if j=i then fp else ad j) (ρ.set i (.own true q')) s':=by
 have hl:i<ρ.length:=(aw.mp dP).1;have Il:i<E.vn.length:=(aw.mp hx).1;refine cI (I.slot hx dP) λ QQ LH ec k=>?_;have US:∀sl:Sl,(ρ.set i sl).getD i .no=sl:= λ sl=>by rw[ai,bp hl];rfl
 have So:∀(sl:Sl) j,j≠i→(ρ.set i sl).getD j .no=ρ.getD j .no:= λ sl j hj=>by rw[ai,aQ (Ne.symm hj),← ai]
 have TQ:Inv c E β O (λ j=>if j=i then []else ad j) (ρ.set i .no) s:=by
  refine⟨I.ok,I.br,I.grow,I.lt,I.low,I.sub,I.n8,I.new,I.ns,I.cells,I.uG,I.tu,I.CG,I.CH,λ j z hz=>?_,λ j j' Qp a ha=>?_,λ j hj=>?_⟩
  ·by_cases hj:j=i
   ·subst hj;rw[US,if_pos rfl];rfl
   ·rw[So _ _ hj,if_neg hj];exact I.vars j z hz
  ·have ha:a∈(if j=i then []else ad j):=ha;show a∉ (if j'=i then []else ad j')
   split at ha
   ·exact nn ha
   ·split
    ·simp
    ·exact I.mG j j' Qp a ha
  ·show(if j=i then []else ad j)=[];rw[if_neg (by lia)];exact I.out j hj
 have bj:Inv c E β (N++O) (λ j=>if j=i then []else ad j) (ρ.set i .no) s':=TQ.apart y S (λ a h=>.inl (k a (hW a h)).1) (λ a h=>(k a (hW a h)).2.2.2.1 rfl) (λ u=>nn) (λ h=>(k _ (hW _ h)).2.1 rfl) (λ p hp h=>(k _ (hW _ h)).2.2.1 p hp rfl)
  (λ j u a ha h=>by
   have ha:a∈(if j=i then []else ad j):=ha
   split at ha
   ·exact nn ha
   ·rename_i hj;exact I.mG j i hj a ha (hW a h)) (λ a h=>(aC.mp h).elim (λ h=>.inr (hN a h)) .inl) λ a h=>ao _ h
 have hb:Bound s'.heap E.env x v:=y.bound (λ h=>(k _ (hW _ h)).2.1 rfl) (λ p hp h=>(k _ (hW _ h)).2.2.1 p hp rfl) b;refine{bj with vars:= λ j z hz=>?_,mG:= λ j j' Qp a ha=>?_,out:= λ j hj=>?_}
 ·by_cases hj:j=i
  ·subst hj;rw[US,if_pos rfl];rw[hx]at hz;cases hz;refine⟨v,hb,r,λ a ha=>?_⟩
   rcases jx a ha with h|h
   ·refine jH (k a h) λ k1 k2 zh=>cg zh λ k3 k4 k5 k6=>?_;exact⟨ao _ k1,k2,k3,k4,k5,ab k6 y.size⟩
   ·have h1:=hN a h;refine⟨aF _ h,λ e=>?_,λ p hp e=>?_,λ u=>.inr (af I.grow.size h1.1),λ ho=>?_,h1.2⟩
    ·exact ak _ (ab (I.lt _ I.uG) (e▸h1.1))
    ·exact ak _ (ab (I.lt _ (I.tu p hp)) (e▸h1.1))
    ·exact ak _ (ab (I.n8 a ho) (af I.grow.size h1.1))
  ·have:=bj.vars j z hz;rw[So _ _ hj,if_neg hj]at this;rw[So _ _ hj,if_neg hj];exact this
 ·have ha:a∈(if j=i then fp else ad j):=ha;show a∉ (if j'=i then fp else ad j');have zq:∀j,a∈N→a∉ad j:= λ j h h'=>ak _ (ab (I.small j a h').2.1 (hN a h).1)
  split at ha<;>split
  ·rename_i h1 h2;exact absurd (h1.trans h2.symm) Qp
  ·rename_i h1 h2;exact λ h'=>(jx a ha).elim (λ h=>I.mG i j' (by lia) a h h') λ h=>zq j' h h'
  ·rename_i h1 h2;exact λ h'=>(jx a h').elim (λ h=>I.mG j i (by exact h1) a ha h) λ h=>zq j h ha
  ·exact I.mG j j' Qp a ha
 ·show(if j=i then fp else ad j)=[];rw[if_neg (by lia)];exact I.out j hj
theorem bc.put(i:Nat){x name:Str}{p p' pos:Pos}{e:Expr}{C:Addr}{u:Option Addr}{fs:List (Str×D)}{d:D}(h:Ev c n E ρ e d)(hx:E.vn[i]? =some x)(dP:ρ[i]? =some (Sl.own true (.inst u C fs)))(hA:fh c.K C name=true)(zv:fs.length≤900)(hs:autoParam (swapsWith e (some (.Attribute (.Name x p) name p')) pos.line E.env=pure false) rf):bc c n E ρ (.Assign [.Attribute (.Name x p) name p'] e pos) (.next (ρ.set i (.own true (.inst u C ((name,d)::fs))))):= λ A β s R w0=>iB w0 λ O ad I=>
 yg (h.go R I λ v au cZ bj r=>by
  refine cI (bj.slot hx dP) λ u' b o k=>?_;refine iB o ?_;clear o;intro a dx zh;refine c_ zh ?_;clear zh;intro es m ps z1 jx zh;refine cg zh ?_;clear zh;intro hu ku h1 zh;refine cg zh ?_;clear zh;intro h2 hz hg rf;subst z1;refine bj.read hx b ?_;refine tH bj.br h1 h2 hA (by rw[hg];rfl) (by exact af hz zv) λ h' m' tk hd Ap=>?_;have kz:dx∈ad i:=by rw[jx];exact .tail _ (.head _)
  have g:aB c [dx] [] au {au with heap:=h',toks:=tk}:=SameBut.grow Ap h2 (cP rfl);have S:bF c {au with heap:=h',toks:=tk}:=SameBut.br bj.br Ap (bj.low _ (k _ kz).1);have mj:tC [dx] O au:= λ b hb=>by obtain rfl:=m1 hb;exact .inl (k _ kz).1
  refine⟨rfl,[]++O,_,bj.jj (N:=[]) (fp:=ad i) hx dP g S (λ b hb=>by obtain rfl:=m1 hb;exact kz) b ⟨a,dx,_,m',(name,v)::ps,rfl,jx,hu,ku,Ap.extBut _ _ ku h1,hd,?_,λ y=>?_,?_⟩ (λ z=>nn) λ b hb=>.inl hb⟩
  ·have:=n4 (x:=name) (hsh:=jN c.w.params name) (key:=.str name (au.toks+1)) (v:=v) es;simp only[aJ];lia
  ·rw[zH (hg y),aX]
   by_cases hy:y=name
   ·subst hy;simp
   ·rw[if_neg hy,show(y==name)=false by simpa using hy]
  ·exact⟨rfl,g.rep mj (.refl O au) r,g.yM mj (.refl O au) rf⟩) hs
end
theorem Rm.make{A:aK}{n:Nat}{C:Addr}{rest:List ag}{kw:List (Str×ag)}(R:Rm A (n+1)):Rm (A.under (.builtin "type.__call__" ⟨.ref C::rest,kw⟩)) n:=by
 have hw:(Code.builtin "type.__call__" ⟨.ref C::rest,kw⟩).weight=1:=by
  have:guardIds.contains "type.__call__"=false:=by decide +kernel
  show 0+1+(if guardIds.contains "type.__call__"=true then 1 else 0)+0=1;rw[this];rfl
 refine⟨R.handled,?_,?_⟩
 ·have:=R.depth;show A.depth+(Code.builtin "type.__call__" ⟨.ref C::rest,kw⟩).weight+n<_;rw[hw];exact GU this
 ·have:=R.units;show A.units+(1+3*0)+20*n<_;lia
section
variable {c:Cx}{n:Nat}{E:VE}{ρ ρ':List Sl}{β:dH}{O O' W N:List Addr}{G:List Nat}{ad:Nat→List Addr}{s s':ae}
theorem cT.less{s:ae}{v:ag}{q:OD}{fp:List Addr}(r:cT c O s.heap v q fp)(hO:∀a∈O',a∈O):cT c O' s.heap v q fp:=
 (aB.refl c [] [] s).own (λ z=>nn) (λ a h=>.inl (hO a h)) (λ z z=>nn) (λ a z o e=>.inr e) r
theorem cT.qG{h:Heap}{v:ag}{u C:Addr}{fs:List (Str×D)}{fp:List Addr}(r:cT c O h v (.inst (some u) C fs) fp):v=.ref u∧cT c O h v (.inst none C fs) fp:=by
 refine iB r ?_;clear r;intro a dx zh;refine cJ zh ?_;clear zh;intro es n ps z1 jx hu r;subst z1;exact⟨by rw[hu u rfl],a,dx,es,n,ps,rfl,jx,λ b h=>(nomatch h),r⟩
theorem cT.Cb{h:Heap}{v:ag}{u C:Addr}{fs:List (Str×D)}{y:Str}{ds:List D}{fp:List Addr}(r:cT c O h v (.ka (some u) C fs y ds) fp):v=.ref u∧cT c O h v (.ka none C fs y ds) fp:=by
 refine xe r ?_;clear r;intro a zh;refine iu zh ?_;clear zh;intro dx l es zh;refine cJ zh ?_;clear zh;intro n ps vs z1 jx hu r;subst z1;exact⟨by rw[hu u rfl],a,dx,l,es,n,ps,vs,rfl,jx,λ b h=>(nomatch h),r⟩
theorem mI.make{C f:Addr}{fd:FuncData}{body:List Stmt}{vn:List Str}{np:Nat}{ds:List D}{kws:List (Str×D)}(src:List Src){q:OD}{ρ₁:Addr→List Sl}(hm:makesIn c.K C=true)(hi:findIn c.K (.ref C) "__init__"=some (some (.ref f)))(hf:typeIn c.K (.ref f)=some (.type "function"))(F:nG c f fd body)(k:rN fd vn (np+1)=true)(ij:fd.scope.isGenerator=false)(hlen:src.length=np)(Dq:src.all (·.Ku ds.length kws.length)=true)(hb:∀s u vs ks,bF c s→vs.length=ds.length→ks.map (·.1)=kws.map (·.1)→iy s fd ⟨u::vs,ks⟩ ((vn.take (np+1)).zip (u::src.map (·.val vs ks))))(h:∀L u,Ex c n (mO fd L f vn) (.own true (.inst (some u) C [])::((src.map (·.dat ds kws)).map Sl.val++al (vn.length-(np+1)) .no)) body (.next (ρ₁ u)))(hq:∀u,∃q',(ρ₁ u)[0]? =some (.own true q')∧∀O h v fp,cT c O h v q' fp→v=.ref u∧cT c O h v q fp)(Jv:∃x,vn[0]? =some x):mI c (n+2) (.ref C) ds kws q:= λ A O s vs ks R K r r'=>by
 obtain⟨hp,g,d,t,os⟩:=s;have S:=K.br;have Rb:Rm A (n+1+1):=R;refine kg (make_core (makes_of S.fZ hm) (jr S.fZ hi) (λ self=>bind_fn S.fZ self hf) (.inl rfl) ?_);have Ce:((hp.push emptyDict).push (instObj C hp.objs.size)).objs.size=hp.objs.size+2:=by rw[aW,aW]
 have keep:∀b o,hp.get? b=some o→((hp.push emptyDict).push (instObj C hp.objs.size)).get? b=some o:= λ b o e=>aA _ (aA _ e);have fW:aB c [] [] ⟨hp,g,d,t,os⟩ ⟨(hp.push emptyDict).push (instObj C hp.objs.size),g,d,t,os⟩:=aB.step (s:=⟨hp,g,d,t,os⟩) (tk:=t) (by rw[Ce];exact cE _ _) keep;have jy:bF c ⟨(hp.push emptyDict).push (instObj C hp.objs.size),g,d,t,os⟩:=bF.step (s:=⟨hp,g,d,t,os⟩) (tk:=t) S (by rw[Ce];exact cE _ _) keep;have Oz:((hp.push emptyDict).push (instObj C hp.objs.size)).get? hp.objs.size=some emptyDict:=aA _ (av _ rfl);have hx:((hp.push emptyDict).push (instObj C hp.objs.size)).get? (hp.objs.size+1)=some (instObj C hp.objs.size):=by
  have:=av (hp.push emptyDict) (o:=instObj C hp.objs.size) rfl;rwa[aW]at this
 have vk:nM O ([hp.objs.size+1,hp.objs.size]++O) ⟨hp,g,d,t,os⟩:= λ b hb=>(aC.mp hb).elim (λ h=>.inr (by
  rcases mc h with rfl|h
  ·exact bq _
  ·rw[m1 h];exact az _)) .inl
 have ar:=a0.args (s:=⟨(hp.push emptyDict).push (instObj C hp.objs.size),g,d,t,os⟩) (aB.fk fW (λ j h=>nn h) vk (Src.fk r r' Dq));refine xe Jv ?_;clear Jv;intro nm Mc;have SF:∀b∈[hp.objs.size+1,hp.objs.size],hp.objs.size≤b∧b<((hp.push emptyDict).push (instObj C hp.objs.size)).objs.size:= λ b hb=>by
  rw[Ce]
  rcases mc hb with rfl|hb
  ·exact⟨bq _,aS _⟩
  ·rw[aj]at hb;subst hb;exact⟨az _,cx (aS _)⟩
 refine a7 (m6 (O:=O) (vs:=.ref (hp.objs.size+1)::src.map (·.val vs ks)) (s₀:=⟨hp,g,d,t,os⟩) (W:=[]) (G:=[]) (sls:=.own true (.inst (some (hp.objs.size+1)) C [])::(src.map (·.dat ds kws)).map Sl.val)
  (fp:=[hp.objs.size+1,hp.objs.size])
  (Q:= λ v s'=>v=.none∧∃fp,aB c [] [] ⟨hp,g,d,t,os⟩ s'∧bF c s'∧cT c (fp++O) s'.heap (.ref (hp.objs.size+1)) q fp∧∀a∈fp,hp.objs.size≤a∧a<s'.heap.objs.size)
  F k ij (Rm.make Rb) ⟨fW,jy,λ b hb=>⟨K.lt b hb,K.low b hb⟩,S.size,SF,congrArg u4 ar.1,λ i=>?_⟩ (by simp[hlen]) (hb _ _ vs ks jy r.length r'.fk.2) λ O' ad au qJ I gz hL hC=>?_) λ r s' z=>?_
 ·cases i with
  |zero=>exact⟨_,_,[],_,[],rfl,rfl,λ b hb=>by cases hb;rfl,vV _,hx,Oz,bV _,λ j=>rfl,by trivial⟩
  |succ i=>exact ar.2 i
 ·have R8:=I.pad (m:=vn.length-(np+1));refine wm (h _ (hp.objs.size+1) _ _ au (Rm.make (n:=n+1) Rb).deeper ⟨O',ad,R8⟩) λ fl s' z=>?_;refine En z ?_;clear z;intro z1 BB PN cu;subst z1;refine⟨rfl,?_⟩;refine c0 (hq (hp.objs.size+1)) λ q' WC WB=>?_;refine cI (cu.slot (i:=0) (x:=nm) Mc WC) λ v b o kk=>?_;refine xa (WB _ _ _ _ o) λ z1 o=>?_;subst z1;refine⟨PN 0,cu.grow,cu.br,o.less λ b hb=>(aC.mp hb).elim (λ h=>(kk b h).1) λ h=>cu.sub b h,λ b hb=>⟨?_,(kk b hb).2.2.2.2.2⟩⟩;exact((kk b hb).2.2.2.1 rfl).elim (nn) id
 ·rcases r with e|(v|_|_|_)<;>first|exact z.elim|exact z
end
section
variable {c:Cx}{n:Nat}{O:List Addr}{s:ae}{A:aK}{Q:ag→ae→Prop}{C f x dx:Addr}{es:List cV}{k:Nat}{nm T:String}
noncomputable def qy(K:Frag)(C:Addr)(name:Str)(f:Addr):Bool:=findIn K (.ref C) name==some (some (.ref f))&&isFn K (.ref f)&&selfFirst K C
theorem zK(h:selfFirst c.K C=true):∃cd rest,clsIn c.K C=some cd∧cd.mro=.ref C::rest:=by
 refine c0 (any_some h) λ cd Dw hm=>?_;cases q:cd.mro with
 |nil=>rw[q]at hm;cases hm
 |cons a r=>rw[q,List.head?_cons]at hm;cases (beq_iff_eq.mp hm);exact⟨cd,r,Dw,q⟩
theorem FE{op:CmpOp}{b tb:ag}{X:ag→ae→Prop}(hu:A.units<cLine)(S:bF c s)(h1:s.heap.get? x=some (ig C dx))(h2:s.heap.get? dx=some (dictOf es k))(hb:As (model c.prog c.w) s.heap (typeOf b) tb)(hn:notFirst c.K C tb=true)(hs:findIn c.K (.ref C) (cmpInfo op).2.1=some (some (.ref f)))(hf:isFn c.K (.ref f)=true)(h:wpAny (model c.prog c.w) A (call (.ref f) [.ref x,b]) (lr Q) X s):wpAny (model c.prog c.w) A (richCompare op (.ref x) b) Q X s:=by
 have I:=iI h1 h2;have one:wpAny (model c.prog c.w) A (tryCompare (.ref x) (cmpInfo op).2.1 b) (λ r s'=>∃v,r=some v∧Q v s') X s:=by
  refine aa (ifBound_K S.fZ I hs hf (wk h λ v s' hv=>?_));cases v<;>first|exact hv.elim|exact ah ⟨_,rfl,hv⟩
 refine aV (aa (wpAny_cRoomFor hu ?_));refine aa (I.type.here (aa (hb.here ?_)));refine wI (λ q=>?_) λ _=>?_
 ·have e:subIn c.K tb (.ref C)=some false:=by
   rcases Bool.or_eq_true_iff.mp hn with e|e
   ·rw[beq_iff_eq.mp e]at q;simp at q
   ·exact beq_iff_eq.mp e
  refine aa ((looks_subIn S.fZ e).here ?_);refine wF ?_;refine LX one λ r s' z=>?_;obtain⟨v,rfl,hq⟩:=z;exact ah hq
 ·refine v5 ?_;refine wF ?_;refine LX one λ r s' z=>?_;obtain⟨v,rfl,hq⟩:=z;exact ah hq
theorem ze{X:ag→ae→Prop}{name:Str}{b:ag}(S:bF c s)(h1:s.heap.get? x=some (ig C dx))(h2:s.heap.get? dx=some (dictOf es k))(hs:findIn c.K (.ref C) name=some (some (.ref f)))(hf:isFn c.K (.ref f)=true)(h:wpAny (model c.prog c.w) A (call (.ref f) [.ref x,b]) (lr Q) X s):wpAny (model c.prog c.w) A (tryMethod (.ref x) name b) (λ r s'=>∃v,r=some v∧Q v s') X s:=by
 refine aa (special_fn S.fZ (iI h1 h2) hs (beq_iff_eq.mp hf) (wk h λ v s' hv=>?_));cases v<;>first|exact hv.elim|exact ah ⟨_,rfl,hv⟩
theorem BO{op:mf}{a b:ag}{X:ag→ae→Prop}(h:wpAny (model c.prog c.w) A (binaryOp1 op.info.2 a b) (λ r s'=>∃v,r=some v∧Q v s') X s):wpAny (model c.prog c.w) A (binaryOp op a b) Q X s:=by
 refine aV (LX h λ r s' z=>?_);obtain⟨v,rfl,hq⟩:=z;exact ah hq
theorem FF{op:mf}{b:ag}{X:ag→ae→Prop}(S:bF c s)(h1:s.heap.get? x=some (ig C dx))(h2:s.heap.get? dx=some (dictOf es k))(hb:As (model c.prog c.w) s.heap (typeOf b) (.ref C))(hc:selfFirst c.K C=true)(hs:findIn c.K (.ref C) (dY op.info.2)=some (some (.ref f)))(hf:isFn c.K (.ref f)=true)(h:wpAny (model c.prog c.w) A (call (.ref f) [.ref x,b]) (lr Q) X s):wpAny (model c.prog c.w) A (binaryOp op (.ref x) b) Q X s:=by
 refine ew (zK hc) λ cd rest Dw hm=>BO ?_;have I:=iI h1 h2;refine aa (I.type.here (aa (hb.here (aa ((fills_K S.fZ Dw hm hs).here (wP (beq_self_eq_true _) (v5 (wF (wF (wF (v5 (wF (wT ?_)))))))))))));refine LX (ze S h1 h2 hs hf h) λ r s' z=>?_;obtain⟨v,rfl,hq⟩:=z;exact ah ⟨v,rfl,hq⟩
theorem Bo{h:Heap}{fo ro:Option ag}(Xk:c.K.In h)(h1:findIn c.K (.type T) (dY nm)=some fo)(h2:findIn c.K (.type T) (dunderR nm)=some ro):
  As (model c.prog c.w) h (fillsNumberSlot (.type T) nm) ((fo.isSome&& !isSeqSlot fo)||(ro.isSome&& !isSeqSlot ro)):=by
 intro A Q E s k q;obtain⟨hh,g,d,tt,os⟩:=s;have X':c.K.In hh:=Xk.keeps k;have L1:As (model c.prog c.w) hh (typeLookup (.type T) (dY nm)) fo:=jr X' h1;have L2:As (model c.prog c.w) hh (typeLookup (.type T) (dunderR nm)) ro:=jr X' h2
 repeat lk
 exact q
theorem FJ{h:Heap}{rc:Option ag}(Xk:c.K.In h)(hs:findIn c.K (.ref C) (dY nm)=some (some (.ref f)))(hr:findIn c.K (.ref C) (dunderR nm)=some rc)(hp:rc=none∨∃g:Addr,rc=some (.ref g)):
  As (model c.prog c.w) h (numberSlotInPython (.ref C) nm) true:=by
 intro A Q E s k q;obtain⟨hh,g,d,tt,os⟩:=s;have X':c.K.In hh:=Xk.keeps k;have L1:As (model c.prog c.w) hh (typeLookup (.ref C) (dY nm)) (some (.ref f)):=jr X' hs;have L2:As (model c.prog c.w) hh (typeLookup (.ref C) (dunderR nm)) rc:=jr X' hr
 rcases hp with rfl|⟨g',rfl⟩
 ·repeat lk
  exact q
 ·repeat lk
  exact q
theorem Dm{op:mf}{b:ag}{fo ro rc:Option ag}{X:ag→ae→Prop}(S:bF c s)(h1:s.heap.get? x=some (ig C dx))(h2:s.heap.get? dx=some (dictOf es k))(hb:typeOf b=pure (.type T))(hc:selfFirst c.K C=true)(hs:findIn c.K (.ref C) (dY op.info.2)=some (some (.ref f)))(hf:isFn c.K (.ref f)=true)(hr:findIn c.K (.ref C) (dunderR op.info.2)=some rc)(hp:rc=none∨∃g:Addr,rc=some (.ref g))(h3:findIn c.K (.type T) (dY op.info.2)=some fo)(h4:findIn c.K (.type T) (dunderR op.info.2)=some ro)(gz:subIn c.K (.type T) (.ref C)=some false)(h:wpAny (model c.prog c.w) A (call (.ref f) [.ref x,b]) (lr Q) X s):wpAny (model c.prog c.w) A (binaryOp op (.ref x) b) Q X s:=by
 refine ew (zK hc) λ cd rest Dw hm=>BO ?_;have one:wpAny (model c.prog c.w) A (tryMethod (.ref x) (dY op.info.2) b) _ X s:=ze S h1 h2 hs hf h;have Xk:=S.fZ;refine aa ((iI h1 h2).type.here (aa ((z_ hb).here (aa ((fills_K Xk Dw hm hs).here (wN (by simp) (aa ((Bo Xk h3 h4).here ?_))))))));generalize ((fo.isSome&& !isSeqSlot fo)||(ro.isSome&& !isSeqSlot ro))=right;cases right with
 |false=>
  refine wF (wF (wF (v5 (wF (wT (LX one λ r s' z=>?_))))));obtain⟨v,rfl,hq⟩:=z;exact ah ⟨v,rfl,hq⟩
 |true=>
  refine wT (aa ((looks_subIn Xk gz).here (wF (wF (wT (aa ((FJ Xk hs hr hp).here (wT (aa ((z_ (r:=false) rfl).here (wT (aa ((jr Xk h4).here (wT (LX one λ r s' z=>?_)))))))))))))));obtain⟨v,rfl,hq⟩:=z;exact ah ⟨v,rfl,hq⟩
end
section
set_option backward.match.sparseCases false
section
variable {c:Cx}{n:Nat}{O:List Addr}{s:ae}{a b:Int}
theorem ft{w:a9}{h:Heap}{i:Int}{t:Tok}:bh w O h (.int i t) (.int i):=by exact⟨t,rfl⟩
theorem cO{w:a9}{h:Heap}{b:Bool}:bh w O h (.bool b) (.bool b):=rfl
theorem qw{w:a9}{h:Heap}{x:Str}{t:Tok}:bh w O h (.str x t) (.str x):=by exact⟨t,rfl⟩
theorem gH.rT:gH c n .Add (.int a) (.int b) (.int (a+b)):= λ A O s eQ eO R K bC bx=>by
 refine bh.ef bC λ t=>bh.ef bx λ u=>?_;exact wpAny_add_int (Res.tok K.br ft)
theorem gH.J_:gH c n .Sub (.int a) (.int b) (.int (a-b)):= λ A O s eQ eO R K bC bx=>by
 refine bh.ef bC λ t=>bh.ef bx λ u=>?_;exact sub_int' (Res.tok K.br ft)
theorem gH.nD(hb: -2^64<b)(wH:b<2^64):gH c n .Mult (.int a) (.int b) (.int (a*b)):= λ A O s eQ eO R K bC bx=>by
 refine bh.ef bC λ t=>bh.ef bx λ u=>?_;exact mul_int (Res.tok K.br ft) (IntMulOk.of_right (intBits_le_64 hb wH))
theorem gH.Ly(h0:b≠0)(hb:b.natAbs<1073741824):gH c n .FloorDiv (.int a) (.int b) (.int (a.fdiv b)):= λ A O s eQ eO R K bC bx=>by
 refine bh.ef bC λ t=>bh.ef bx λ u=>?_;exact floordiv_int h0 (Res.tok K.br ft) (.inl (PyProof.noPylong_small hb))
theorem gH.xx(h0:b≠0):gH c n .Mod (.int a) (.int b) (.int (a.fmod b)):= λ A O s eQ eO R K bC bx=>by
 refine bh.ef bC λ t=>bh.ef bx λ u=>?_;exact mod_int' h0 (Res.tok K.br ft)
theorem gH.QZ(h0:0≤b):gH c n .RShift (.int a) (.int b) (.int (a.fdiv (2^b.toNat))):= λ A O s eQ eO R K bC bx=>by
 refine bh.ef bC λ t=>bh.ef bx λ u=>?_;exact rshift_int h0 (Res.tok K.br ft)
theorem gH.TJ:gH c n .BitAnd (.int a) (.int b) (.int (vY a b)):= λ A O s eQ eO R K bC bx=>by
 refine bh.ef bC λ t=>bh.ef bx λ u=>?_;exact and_int (Res.tok K.br ft)
theorem cC.Eg:cC c n .Eq (.int a) (.int b) (a==b):= λ A O s eQ eO R K bC bx=>by
 refine bh.ef bC λ t=>bh.ef bx λ u=>?_;exact eq_int (Res.here K.br cO)
theorem cC.KC:cC c n .NotEq (.int a) (.int b) (a !=b):= λ A O s eQ eO R K bC bx=>by
 refine bh.ef bC λ t=>bh.ef bx λ u=>?_;exact ne_int (Res.here K.br cO)
theorem cC.ltI:cC c n .Lt (.int a) (.int b) (decide (a<b)):= λ A O s eQ eO R K bC bx=>by
 refine bh.ef bC λ t=>bh.ef bx λ u=>?_;exact lt_int (Res.here K.br cO)
theorem cC.Ro:cC c n .LtE (.int a) (.int b) (decide (a≤b)):= λ A O s eQ eO R K bC bx=>by
 refine bh.ef bC λ t=>bh.ef bx λ u=>?_;exact le_int (Res.here K.br cO)
theorem cC.Mn:cC c n .Gt (.int a) (.int b) (decide (b<a)):= λ A O s eQ eO R K bC bx=>by
 refine bh.ef bC λ t=>bh.ef bx λ u=>?_;exact gt_int (Res.here K.br cO)
theorem cC.Vc:cC c n .GtE (.int a) (.int b) (decide (b≤a)):= λ A O s eQ eO R K bC bx=>by
 refine bh.ef bC λ t=>bh.ef bx λ u=>?_;exact ge_int (Res.here K.br cO)
theorem cC.Mo{x y:Str}:cC c n .Eq (.str x) (.str y) (x==y):= λ A O s eQ eO R K bC bx=>by
 refine bh.ri bC λ t=>bh.ri bx λ u=>?_;exact PyProof.Rows.eq_str (Res.here K.br cO)
theorem cC.T9{x y:Str}:cC c n .NotEq (.str x) (.str y) (x !=y):= λ A O s eQ eO R K bC bx=>by
 refine bh.ri bC λ t=>bh.ri bx λ u=>?_;exact PyProof.Rows.ne_str (Res.here K.br cO)
noncomputable def D.isNone:D→Bool
 |.none=>true
 |_=>false
set_option tactic.hygienic true in
theorem bh.B1{w:a9}{h:Heap}{v:ag}{d:D}(hd:d.seen=true)(r:bh w O h v d):(v==.none)=d.isNone:=by
 cases d
 case none=>subst r;rfl
 case bool b=>subst r;rfl
 case int i=>exact bh.ef r λ t=>rfl
 case str x=>exact bh.ri r λ t=>rfl
 case tup ds=>exact bh.ql r λ a z z z z=>rfl
 case lst ds=>exact bh.n7 r λ a z z z z=>rfl
 case dm xs=>exact bh.sm r λ a z z z z z z=>rfl
 case k8 k st=>exact bh.yq r λ a z z z z z z=>rfl
 case inst C fs=>exact bh.qH r λ a z z z z z z z z z z=>rfl
 case dJ sQ=>exact bh.Cd r λ a z z z z z z=>rfl
 case D5 x y=>exact bh.ES r λ a z z z z z=>rfl
 case lit=>exact absurd hd eu
 case any=>exact absurd hd eu
theorem cC.Ny{d:D}(hd:autoParam (d.seen=true) rf):cC c n .Is d .none d.isNone:= λ A O s eQ eO R K bC bx=>by
 have e:=bC.B1 hd;subst bx;exact is_none (by rw[e];exact Res.here K.br cO)
theorem cC.vK{d:D}(hd:autoParam (d.seen=true) rf):cC c n .IsNot d .none (!d.isNone):= λ A O s eQ eO R K bC bx=>by
 have e:=bC.B1 hd;subst bx;exact isNot_none (by rw[e];exact Res.here K.br cO)
theorem kA.int:kA c n (.int a) (a !=0):= λ A O s v R K r=>by
 refine bh.ef r λ t=>?_;exact PyProof.Rows.truthy_int ⟨rfl,.refl ..,K.br⟩
theorem kA.bool{b:Bool}:kA c n (.bool b) b:= λ A O s v R K r=>by
 subst r;exact iV ⟨rfl,.refl ..,K.br⟩
theorem kA.list{ds:List D}(hl:ds.length≤1000):kA c n (.lst ds) (!ds.isEmpty):= λ A O s v R K r=>by
 refine bh.n7 r ?_;clear r;intro a vs ha h r;have e:=r.length;refine wpAny_truthy_list h.isList (by simp only[ba];lia) ⟨?_,(aB.refl ..).toks,K.br.toks⟩;cases vs<;>cases ds<;>simp at e⊢
end
end
noncomputable def D.Q(n:Nat)(d:D)(p:PyData):Prop:=(∀w O h v,bh w O h v d→∃as,Reads h v p as)∧p.canLay0=true∧p.depth≤n
noncomputable def D.Qs(n:Nat)(ds:List D)(ps:List PyData):Prop:=(∀w O h vs,a0 w O h vs ds→∃as,ReadsAll h vs ps as)∧PyData.canLayAll0 ps=true∧PyData.depthAll ps≤n
section
variable {n:Nat}{d:D}{p:PyData}{ds:List D}{ps:List PyData}
theorem D.Q.int{i:Int}:D.Q n (.int i) (.int i):=⟨λ z z z z r=>bh.ef r λ t=>⟨_,.int i t⟩,rfl,bV _⟩
theorem D.Q.bool{b:Bool}:D.Q n (.bool b) (.bool b):=⟨λ z z z z r=>⟨_,Eq.symm (show _=Value.bool b from r)▸Reads.bool b⟩,rfl,bV _⟩
theorem D.Q.str{x:Str}(h:jM x=true):D.Q n (.str x) (.str x):=⟨λ z z z z r=>bh.ri r λ t=>⟨_,.str x t⟩,h,bV _⟩
theorem D.Qs.nil:D.Qs n [] []:=⟨λ z z z vs r=>by
 cases vs with
 |nil=>exact⟨_,.nil⟩
 |cons=>exact r.elim,rfl,bV _⟩
theorem D.Qs.cons(q:D.Q n d p)(t:D.Qs n ds ps):D.Qs n (d::ds) (p::ps):=⟨λ w O h vs r=>by
 cases vs with
 |nil=>exact r.elim
 |cons v vs=>exact xe (q.1 w O h v r.1) λ z h1=>xe (t.1 w O h vs r.2) λ z h2=>⟨_,.cons h1 h2⟩,aP.mpr ⟨q.2.1,t.2.1⟩,Nat.max_le.mpr ⟨q.2.2,t.2.2⟩⟩
theorem D.Qs.lst(t:D.Qs n ds ps):D.Q (n+1) (.lst ds) (.list ps):=⟨λ w O h v r=>by
 refine bh.n7 r λ a vs ha y2 r=>?_;refine bO y2 λ o m ho hc z hd=>?_;exact xe (t.1 w O h vs r) λ as q=>⟨_,.list ho hc hd q⟩,t.2.1,cY t.2.2⟩
theorem D.Qs.tup(t:D.Qs n ds ps):D.Q (n+1) (.tup ds) (.tuple ps):=⟨λ w O h v r=>by
 refine bO r λ a vs e ha y2 r'=>?_;subst e;refine nO y2 λ o ho hc m hd=>?_;exact xe (t.1 w O h vs r') λ as q=>⟨_,.tuple ho hc hd q⟩,t.2.1,cY t.2.2⟩
theorem D.Qs.map{α:Type}{f:α→D}{g:α→PyData}{xs:List α}(h:∀x∈xs,D.Q n (f x) (g x)):D.Qs n (xs.map f) (xs.map g):=by
 induction xs with
 |nil=>exact .nil
 |cons x xs ih=>exact .cons (h x (.head _)) (ih λ y hy=>h y (.tail _ hy))
end
section
variable {α:Type}[DecidableEq α]{g:α→PyData}(h:∀x y,(g x).eqv (g y)=decide (x=y))
include h
theorem Pf:∀xs ys:List α,PyData.eqvAll (xs.map g) (ys.map g)=decide (xs=ys):= λ xs=>by
 induction xs with
 |nil=>intro ys;cases ys<;>rfl
 |cons x xs ih=>
  intro ys;cases ys with
  |nil=>rfl
  |cons y ys=>
   show((g x).eqv (g y)&&PyData.eqvAll (xs.map g) (ys.map g))=_;rw[h,ih,← Bool.decide_and];exact decide_eq_decide.mpr List.cons_eq_cons.symm
theorem Bx(x:α)(xs:List α):((xs.map g).any λ y=>y.eqv (g x))=decide (x∈xs):=by
 rw[List.any_map];exact o6.mpr ⟨λ e=>c0 (iW.mp e) λ y hy e=>decide_eq_true (of_decide_eq_true ((h y x).symm.trans e)▸hy),λ e=>iW.mpr ⟨x,of_decide_eq_true e,(h x x).trans (decide_eq_true rfl)⟩⟩
theorem LB(x:α)(xs:List α):((xs.map g).countP λ y=>y.eqv (g x))=xs.countP λ y=>decide (y=x):=by
 rw[List.countP_map];exact congrArg (λ f=>List.countP f xs) (funext λ y=>h y x)
end
section
variable {c:Cx}{n:Nat}
section
variable {d₁ d₂:D}{nB rt:PyData}{ds:List D}{ps:List PyData}
theorem cC.Vj(ct:d₁.Q 8 nB)(cM:d₂.Q 8 rt)(hn:1≤n):cC c n .Eq d₁ d₂ (nB.eqv rt):= λ A O s eQ eO R K bC bx=>
 xe (ct.1 _ _ _ _ bC) λ as mx=>xe (cM.1 _ _ _ _ bx) λ bs mV=>SeqAt.compareEq_reads mx mV ct.2.1 cM.2.1 (Vn hn ct.2.2 R.units) (Res.here K.br cO)
theorem cC.T_(ct:d₁.Q 8 nB)(cM:d₂.Q 8 rt)(hn:1≤n):cC c n .NotEq d₁ d₂ (!nB.eqv rt):= λ A O s eQ eO R K bC bx=>
 xe (ct.1 _ _ _ _ bC) λ as mx=>xe (cM.1 _ _ _ _ bx) λ bs mV=>SeqAt.compareNe_reads mx mV ct.2.1 cM.2.1 (Vn hn ct.2.2 R.units) (Res.here K.br cO)
theorem cC.Uj(ct:d₁.Q 8 nB)(cM:D.Qs 7 ds ps)(hn:1≤n):cC c n .In d₁ (.lst ds) (ps.any λ y=>y.eqv nB):= λ A O s eQ eO R K bC bx=>
 xe (ct.1 _ _ _ _ bC) λ as mx=>xe (cM.lst.1 _ _ _ _ bx) λ bs mV=>SeqAt.in_list_reads mV mx cM.2.1 ct.2.1 (Pj hn ct.2.2 R.units) (Res.here K.br cO)
theorem cC.Na(ct:d₁.Q 8 nB)(cM:D.Qs 7 ds ps)(hn:1≤n):cC c n .NotIn d₁ (.lst ds) (!ps.any λ y=>y.eqv nB):= λ A O s eQ eO R K bC bx=>
 xe (ct.1 _ _ _ _ bC) λ as mx=>xe (cM.lst.1 _ _ _ _ bx) λ bs mV=>SeqAt.notIn_list_reads mV mx cM.2.1 ct.2.1 (Pj hn ct.2.2 R.units) (Res.here K.br cO)
theorem cC.V_(ct:d₁.Q 8 nB)(cM:D.Qs 7 ds ps)(hn:1≤n):cC c n .In d₁ (.tup ds) (ps.any λ y=>y.eqv nB):= λ A O s eQ eO R K bC bx=>
 xe (ct.1 _ _ _ _ bC) λ as mx=>xe (cM.tup.1 _ _ _ _ bx) λ bs mV=>SeqAt.in_tuple_reads mV mx cM.2.1 ct.2.1 (Pj hn ct.2.2 R.units) (Res.here K.br cO)
theorem cC.Kv(ct:d₁.Q 8 nB)(cM:D.Qs 7 ds ps)(hn:1≤n):cC c n .NotIn d₁ (.tup ds) (!ps.any λ y=>y.eqv nB):= λ A O s eQ eO R K bC bx=>
 xe (ct.1 _ _ _ _ bC) λ as mx=>xe (cM.tup.1 _ _ _ _ bx) λ bs mV=>SeqAt.notIn_tuple_reads mV mx cM.2.1 ct.2.1 (Pj hn ct.2.2 R.units) (Res.here K.br cO)
end
noncomputable def D.ints(xs:List Int):List D:=xs.map D.int
noncomputable abbrev P7(xs:List Int):PyData:=.list (xs.map .int)
theorem Go(x y:Int):(PyData.int x).eqv (.int y)=decide (x=y):=rfl
theorem zM(x y:List Int):(P7 x).eqv (P7 y)=decide (x=y):=Pf Go x y
theorem og{xs:List Int}:D.Qs n (D.ints xs) (xs.map .int):=.map λ z z=>.int
noncomputable def D.jl(xs:List (List Int)):List D:=xs.map λ l=>.lst (D.ints l)
theorem xF{xs:List (List Int)}:D.Qs (n+1) (D.jl xs) (xs.map P7):=.map λ z z=>og.lst
theorem cC.Tn{xs ys:List Int}(hn:1≤n):cC c n .Eq (.lst (D.ints xs)) (.lst (D.ints ys)) (decide (xs=ys)):=zM xs ys▸cC.Vj og.lst og.lst hn
theorem cC.KB{xs ys:List Int}(hn:1≤n):cC c n .NotEq (.lst (D.ints xs)) (.lst (D.ints ys)) (!decide (xs=ys)):=zM xs ys▸cC.T_ og.lst og.lst hn
theorem cC.Nb{xs ys:List (List Int)}(hn:1≤n):cC c n .NotEq (.lst (D.jl xs)) (.lst (D.jl ys)) (!decide (xs=ys)):=Pf zM xs ys▸cC.T_ xF.lst xF.lst hn
theorem cC.RF{x:Int}{xs:List Int}(hn:1≤n):cC c n .In (.int x) (.lst (D.ints xs)) (decide (x∈xs)):=Bx Go x xs▸cC.Uj .int og hn
theorem cC.M_{x:Int}{xs:List Int}(hn:1≤n):cC c n .NotIn (.int x) (.lst (D.ints xs)) (!decide (x∈xs)):=Bx Go x xs▸cC.Na .int og hn
theorem cC.RD{x:Int}{xs:List Int}(hn:1≤n):cC c n .In (.int x) (.tup (D.ints xs)) (decide (x∈xs)):=Bx Go x xs▸cC.V_ .int og hn
theorem cC.M9{x:Int}{xs:List Int}(hn:1≤n):cC c n .NotIn (.int x) (.tup (D.ints xs)) (!decide (x∈xs)):=Bx Go x xs▸cC.Kv .int og hn
theorem cC.Kx{x:List Int}{xs:List (List Int)}(hn:1≤n):cC c n .NotIn (.lst (D.ints x)) (.lst (D.jl xs)) (!decide (x∈xs)):=((Bx zM x xs).trans (decide_eq_decide.mpr Iff.rfl):_=decide (x∈xs))▸cC.Na og.lst xF hn
theorem Jb{xs:List Str}(h:xs.all jM=true):D.Qs n (xs.map .str) (xs.map .str):=.map λ x hx=>.str (bD.mp h x hx)
theorem Pg(x y:Str):(PyData.str x).eqv (.str y)=decide (x=y):=rfl
theorem cC.RE{x:Str}{xs:List Str}(h1:jM x=true)(h2:xs.all jM=true)(hn:1≤n):cC c n .In (.str x) (.lst (xs.map .str)) (decide (x∈xs)):=Bx Pg x xs▸cC.Uj (.str h1) (Jb h2) hn
theorem cC.M7{x:Str}{xs:List Str}(h1:jM x=true)(h2:xs.all jM=true)(hn:1≤n):cC c n .NotIn (.str x) (.tup (xs.map .str)) (!decide (x∈xs)):=Bx Pg x xs▸cC.Kv (.str h1) (Jb h2) hn
end
section
variable {c:Cx}{n:Nat}{E:VE}{ρ:List Sl}{O:List Addr}{s:ae}
theorem a0.app{w:a9}{h:Heap}{vs:List ag}{ds:List D}{us:List ag}{es:List D}(q:a0 w O h vs ds)(r:a0 w O h us es):a0 w O h (vs++us) (ds++es):=
 q.ind r λ z z z z q z ih=>⟨q,ih⟩
theorem yO{vs:List ag}{ds:List D}{tk:Nat}(K:Ok c O s)(r:a0 c.w O s.heap vs ds):Res c O s (.lst ds) (.ref s.heap.objs.size) {s with heap:=s.heap.push {cls:=.type "list",data:=.seq vs.toArray 0},toks:=tk}:=
 ⟨aB.push,K.br.push,by
  exact⟨_,vs,rfl,K.next,⟨_,0,av _ rfl,rfl,rfl,rfl⟩,(aB.push (c:=c) (G:=[]) (tk:=tk)).j_ r⟩⟩
theorem t7{vs:List ag}{ds:List D}{tk:Nat}(K:Ok c O s)(r:a0 c.w O s.heap vs ds):Res c O s (.tup ds) (.ref s.heap.objs.size) {s with heap:=s.heap.push {cls:=.type "tuple",data:=.seq vs.toArray 0},toks:=tk}:=
 ⟨aB.push,K.br.push,by
  exact⟨_,vs,rfl,K.next,⟨_,av _ rfl,rfl,0,rfl⟩,(aB.push (c:=c) (G:=[]) (tk:=tk)).j_ r⟩⟩
theorem gH.TM{xs ys:List D}(hz:xs.length+ys.length≤1000):gH c n .Add (.lst xs) (.lst ys) (.lst (xs++ys)):= λ A O s eQ eO R K bC bx=>by
 have nZ:=bC;obtain⟨l,vs,rfl,_,⟨⟨cls,dd,data,sl⟩,m,ho,hc,xK,hd⟩,mx⟩:=bC;obtain⟨b,ws,rfl,_,⟨⟨TF,Lz,data2,MM⟩,m2,wB,Dx,Xa,Bk⟩,mV⟩:=bx;simp only at hc hd Dx Bk;subst hc hd Dx Bk;have e:vs.toArray++ws.toArray=(vs++ws).toArray:=by simp
 refine x3 ⟨_,ho,rfl⟩ ⟨_,wB,rfl⟩ noFill_list_add seq_list_add PySem.F.slot_list_add PySem.F.entry_list_add (PySem.F.args_list_add_2 _ _) (list_addW l b vs.toArray ws.toArray m m2 dd Lz sl MM (cR (by simp only[ba,mx.length,mV.length];omega))) ⟨ho,wB,?_⟩;rw[e];exact yO K (mx.app mV)
theorem gH.IU{xs ys:List D}(hz:xs.length+ys.length≤1000):gH c n .Add (.tup xs) (.tup ys) (.tup (xs++ys)):= λ A O s eQ eO R K bC bx=>by
 have nZ:=bC;have qt:=bx;obtain⟨t,vs,rfl,_,⟨⟨cls,dd,data,sl⟩,ho,hc,m,hd⟩,mx⟩:=bC;obtain⟨b,ws,rfl,_,⟨⟨TF,Lz,data2,MM⟩,wB,Dx,m2,Bk⟩,mV⟩:=bx;simp only at hc hd Dx Bk;subst hc hd Dx Bk;have qC:=mx.length;have l₂:=mV.length;have e:vs.toArray++ws.toArray=(vs++ws).toArray:=by simp
 by_cases hv:vs=[]
 ·have:xs=[]:=by subst hv;exact gh.mp qC.symm
  subst this;refine x3 ⟨_,ho,rfl⟩ ⟨_,wB,rfl⟩ z7 seq_tuple_add nK nc (mL _ _)
   (tuple_addW0 t b vs.toArray ws.toArray m m2 dd Lz sl MM (by simp[hv])) ⟨ho,wB,?_⟩
  exact Res.tok K.br qt
 ·by_cases hw:ws=[]
  ·have:ys=[]:=by subst hw;exact gh.mp l₂.symm
   subst this;refine x3 ⟨_,ho,rfl⟩ ⟨_,wB,rfl⟩ z7 seq_tuple_add nK nc (mL _ _)
    (tuple_addW1 t b vs.toArray ws.toArray m m2 dd Lz sl MM (by simpa using hv) (by simp[hw])) ⟨ho,wB,?_⟩
   rw[bM];exact Res.tok K.br nZ
  ·refine x3 ⟨_,ho,rfl⟩ ⟨_,wB,rfl⟩ z7 seq_tuple_add nK nc (mL _ _)
    (tuple_addW2 t b vs.toArray ws.toArray m m2 dd Lz sl MM (by simpa using hv) (by simpa using hw) (cR (by simp only[ba,qC,l₂];omega))) ⟨ho,wB,?_⟩
   rw[e];exact t7 K (mx.app mV)
theorem fq{slice:Expr}{o i:ag}(h:∀l u t p,slice≠.Slice l u t p):subscripted slice false o i=operate [o,i] (getItem o i):=by
 cases slice<;>first|rfl|exact absurd rfl (h _ _ _ _)
theorem Sub.list{ds:List D}{i:Int}{d:D}(h0:0≤i)(hi:ds[i.toNat]? =some d)(hz:ds.length≤1000):Mine.Sub c n (.lst ds) (.int i) d:= λ A O s value slice eQ eO R K hs bC bx=>by
 refine bh.n7 bC ?_;clear bC;intro a vs z hl q;refine bh.ef bx ?_;clear bx;intro t;have hl:=hl.isList;refine c0 (q.at hi) λ v hv r=>?_;have gE:=(aw.mp hi).1;exact DO hl.typeIs slot_list_getitem.lookup (wpAny_getItem_list (x:=v) hl h0 (by lia) (by simpa using hv) (Res.here K.br r)) (fq hs)
theorem Sub.tup{ds:List D}{i:Int}{d:D}(h0:0≤i)(hi:ds[i.toNat]? =some d)(hz:ds.length≤1000):Sub c n (.tup ds) (.int i) d:= λ A O s value slice eQ eO R K hs bC bx=>by
 refine bh.ql bC ?_;clear bC;intro a vs z hl q;refine bh.ef bx ?_;clear bx;intro t;refine c0 (q.at hi) λ v hv r=>?_;have gE:=(aw.mp hi).1;have hlen:=q.length;refine DO hl.typeIs PyProof.Rows.slot_tuple_getitem.lookup (getItem_tuple (x:=v) (j:=i.toNat) hl (by exact Wb h0 rfl) (by lia) ?_ (by simpa using hv) (Res.here K.br r)) (fq hs);have h1:¬i<0:=s5.mpr h0;have h2:i<(vs.length:Int):=V3 h0 (hlen▸gE);unfold seqIndex?;simp[h1,h0,h2]
theorem Ev.sub{e i:Expr}{pos:Pos}{d₁ d₂ d:D}(ct:Ev c n E ρ e d₁)(cM:Ev c n E ρ i d₂)(h:Sub c n d₁ d₂ d)(hs:∀l u t p,i≠.Slice l u t p:=by intros;simp):Ev c n E ρ (.Subscript e i pos) d:= λ A β O ad s R I=>
 Subscript_ (ct.go R I λ v au cZ bj bC=>cM.go R bj λ u aH cF cu bx=>wm (h A O aH e i v u R cu.o hs (cF.rep0 bC) bx) λ z z q=>q.after (cZ.trans cF))
end
section
variable {c:Cx}{n:Nat}{E:VE}{ρ:List Sl}{O:List Addr}{s:ae}
theorem yL{w:a9}{h:Heap}{ks:List (Str×ag)}(r:ez w O h ks []):ks=[]:=by
 cases ks with
 |nil=>rfl
 |cons _ _=>exact r.elim
theorem wo{w:a9}{h:Heap}{d:D}{ds:List D}:∀{vs:List ag},a0 w O h vs (d::ds)→∃v us,vs=v::us∧bh w O h v d∧a0 w O h us ds:=by
 intro w
 induction w with
 |nil=>
  intro r;exact r.elim
 |cons v us ih=>
  intro r;exact⟨v,us,rfl,r⟩
theorem E0{w:a9}{h:Heap}:∀{vs:List ag},a0 w O h vs []→vs=[]:=by
 intro w
 induction w with
 |nil=>
  intro z;exact rfl
 |cons _ _ ih=>
  intro r;exact r.elim
theorem AX{w:a9}{h:Heap}{vs:List ag}{d:D}(r:a0 w O h vs [d]):∃v,vs=[v]∧bh w O h v d:=by
 obtain⟨v,us,rfl,h1,h2⟩:=wo r;cases E0 h2;exact⟨v,rfl,h1⟩
theorem Kl{w:a9}{h:Heap}{vs:List ag}{d e:D}(r:a0 w O h vs [d,e]):∃v u,vs=[v,u]∧bh w O h v d∧bh w O h u e:=by
 obtain⟨v,us,rfl,h1,h2⟩:=wo r;obtain⟨u,rfl,h3⟩:=AX h2;exact⟨v,u,rfl,h1,h3⟩
@[elab_as_elim] theorem fH {w:a9} {h:Heap} {ks:List (Str×ag)} {M:List (Str×ag)→Prop} (r:ez w O h ks []) (k:M []):M ks:=(yL r).symm▸k
@[elab_as_elim] theorem fz {w:a9} {h:Heap} {vs:List ag} {d:D} {M:List ag→Prop} (r:a0 w O h vs [d]) (k:∀v,bh w O h v d→M [v]):M vs:=by obtain⟨v,rfl,h⟩:=AX r;exact k v h
@[elab_as_elim] theorem pA {w:a9} {h:Heap} {vs:List ag} {d e:D} {M:List ag→Prop} (r:a0 w O h vs [d,e]) (k:∀v u,bh w O h v d→bh w O h u e→M [v,u]):M vs:=by obtain⟨v,u,rfl,h,h'⟩:=Kl r;exact k v u h h'
theorem a0.take{w:a9}{h:Heap}{k:Nat}{vs:List ag}{ds:List D}(r:a0 w O h vs ds):a0 w O h (vs.take k) (ds.take k):=
 a0.ind (M:= λ vs ds=>∀k,a0 w O h (vs.take k) (ds.take k)) r (λ k=>by cases k<;>trivial) (λ z z z z q z ih k=>by
  cases k with
  |zero=>trivial
  |succ k=>exact⟨q,ih k⟩) k
theorem a0.drop{w:a9}{h:Heap}{k:Nat}{vs:List ag}{ds:List D}(r:a0 w O h vs ds):a0 w O h (vs.drop k) (ds.drop k):=
 a0.ind (M:= λ vs ds=>∀k,a0 w O h (vs.drop k) (ds.drop k)) r (λ k=>by cases k<;>trivial) (λ z z z z q r ih k=>by
  cases k with
  |zero=>exact⟨q,r⟩
  |succ k=>exact ih k) k
theorem Fn.xB{ds:List D}(hz:ds.length≤1000):Fn c n (.builtin "len") [.tup ds] [] (.int ds.length):= λ A O s vs ks R K ec r'=>by
 refine fz ec λ v r=>?_;refine fH r' ?_;refine bh.ql r ?_;clear r;intro a vs z hl q;have e:(vs.toArray.size:Int)=ds.length:=by rw[← q.length];rfl
 exact len_tuple hl (by lia) (by rw[e];exact Res.tok K.br ft)
theorem Fn.la{ds:List D}(hz:ds.length≤1000):Fn c n (.builtin "len") [.lst ds] [] (.int ds.length):= λ A O s vs ks R K ec r'=>by
 refine fz ec λ v r=>?_;refine fH r' ?_;refine bh.n7 r ?_;clear r;intro a vs z hl q;have e:(vs.toArray.size:Int)=ds.length:=by rw[← q.length];rfl
 exact call_len_list hl.isList (by lia) (by rw[e];exact Res.tok K.br ft)
theorem Fn.y6{xs:List Nat}:Fn c n (.builtin "len") [.dm xs] [] (.int xs.length):= λ A O s vs ks R K ec r'=>by
 refine fz ec λ v r=>?_;refine fH r' ?_;refine bh.sm r ?_;clear r;intro a ts m z ho hl gz;have h4:=gz.length_le;simp only[aJ,dp]at h4;have e:((aT xs ts).toArray.size:Int)=xs.length:=by simp[aT,hl]
 have Io:(df c.w xs).fits (aT xs ts).toArray.size=true:=by
  simp[pW,df,aT,hl,ml];exact af h4 (aG _ _)
 exact call_len_set ho ⟨rfl,rfl,rfl⟩ rfl Io (by lia) (by rw[e];exact Res.tok K.br ft)
theorem Fn.abs{a:Int}:Fn c n (.builtin "abs") [.int a] [] (.int a.natAbs):= λ A O s vs ks R K ec r'=>by
 refine fz ec λ v r=>?_;refine fH r' ?_;refine bh.ef r λ t=>?_;exact call_abs_int λ u tk=>by
  rw[show(if a<0 then -a else a)=(a.natAbs:Int) by split;exact(Int.ofNat_natAbs_of_nonpos (bL (by assumption))).symm;exact(qT (s5.mp (by assumption))).symm];exact Res.tok K.br ft
theorem yN{a b:Int}{t u v:Tok}{tk:Nat}(K:Ok c O s):Res c O s (.D5 a b) (.ref s.heap.objs.size) {s with heap:=s.heap.push (AS a b t u v),toks:=tk}:=
 ⟨aB.push,K.br.push,by exact⟨_,t,u,v,rfl,K.next,av _ rfl⟩⟩
theorem Fn.A5{b:Int}:Fn c n (.type "range") [.int b] [] (.D5 0 b):= λ A O s vs ks R K ec r'=>by
 refine fz ec λ v r=>?_;refine fH r' ?_;refine bh.ef r λ t=>?_;exact call_range_1 (yN K)
theorem Fn.Kp{a b:Int}:Fn c n (.type "range") [.int a,.int b] [] (.D5 a b):= λ A O s vs ks R K ec r'=>by
 refine pA ec λ v u r q=>?_;refine fH r' ?_;refine bh.ef r λ t=>?_;refine bh.ef q λ t'=>?_;exact call_range_2 (yN K)
theorem t8{vs:List ag}{ds:List D}{vl vu:ag}(K:Ok c O s)(r:a0 c.w O s.heap vs ds):
  Res c O s (.lst ds) (.ref (s.heap.objs.size+1)) {s with heap:=(s.heap.push {cls:=.type "slice",data:=.fields #[vl,vu,.none]}).push {cls:=.type "list",data:=.seq vs.toArray}}:=by
 have x:aB c [] [] s {s with heap:=s.heap.push {cls:=.type "slice",data:=.fields #[vl,vu,.none]}}:=.push;have S:=K.br.push (o:={cls:=.type "slice",data:=.fields #[vl,vu,.none]}) (tk:=s.toks);have:=yO (tk:=s.toks) (K.fU x S) (x.j_ r);rw[aW]at this;exact this.after x
theorem Ev.Mz{e:Expr}{k:Int}{x:Nat}{p p' pos:Pos}{ds:List D}(h:Ev c n E ρ e (.lst ds))(hk:0≤k)(hz:ds.length≤1000)(ht:∀o r,letTemporaryGo e o r=pure ():=by intro z z;rfl):Ev c n E ρ (.Subscript e (.Slice none (some (.Constant (.int k) x p)) none p') pos) (.lst (ds.take k.toNat)):= λ A β O ad s R I=>
 DY (h.go R I λ v au cZ bj bC=>by
  dsimp only[evalPart_none];refine ah ?_;dsimp only[evalPart_some];refine(Ev.int (c:=c) (n:=n)).go R bj λ u aH cF cu bx=>?_;have bC:=cF.rep0 bC;refine bh.n7 bC ?_;clear bC;intro l vs z hl q;refine bh.ef bx ?_;clear bx;intro t;have D_:=q.length;refine⟨l,vs.toArray,none,some k,rfl,hl.isList,cR (by simp;exact af (dg D_) hz),.none,.int _ _,?_⟩;rw[(r7 (show 0≤k by assumption)).symm,slicePick_upto'];exact(t8 cu.o (q.take (k:=k.toNat))).after (cZ.trans cF)) ht
theorem Ev.from{e:Expr}{k:Int}{x:Nat}{p p' pos:Pos}{ds:List D}(h:Ev c n E ρ e (.lst ds))(hk:0≤k)(hz:ds.length≤1000)(ht:∀o r,letTemporaryGo e o r=pure ():=by intro z z;rfl):Ev c n E ρ (.Subscript e (.Slice (some (.Constant (.int k) x p)) none none p') pos) (.lst (ds.drop k.toNat)):= λ A β O ad s R I=>
 DY (h.go R I λ v au cZ bj bC=>by
  dsimp only[evalPart_some];refine(Ev.int (c:=c) (n:=n)).go R bj λ u aH cF cu bx=>?_;dsimp only[evalPart_none];refine ah ?_;have bC:=cF.rep0 bC;refine bh.n7 bC ?_;clear bC;intro l vs z hl q;refine bh.ef bx ?_;clear bx;intro t;have D_:=q.length;refine⟨l,vs.toArray,some k,none,rfl,hl.isList,cR (by simp;lia),.int _ _,.none,?_⟩;rw[(r7 (show 0≤k by assumption)).symm,slicePick_from'];exact(t8 cu.o (q.drop (k:=k.toNat))).after (cZ.trans cF)) ht
theorem lN.lookup{w:a9}{h:Heap}{ps:List (Int×ag)}{fs:List (Int×D)}{x:Int}{d:D}(r:lN w O h ps fs):fs.lookup x=some d→∃v,ps.lookup x=some v∧bh w O h v d:=
 r.ind (λ e=>by cases e) λ y v vs d ds q z ih e=>by
  rw[aX]at e⊢;cases hx:x==y with
  |true=>rw[hx]at e;cases e;exact⟨_,rfl,q⟩
  |false=>rw[hx]at e;exact ih e
theorem Sub.dJ{sQ:List (Int×D)}{i:Int}{d:D}(hi:sQ.lookup i=some d):Mine.Sub c n (.dJ sQ) (.int i) d:= λ A O s value slice eQ eO R K hs bC bx=>by
 refine bh.Cd bC ?_;clear bC;intro a f ps z hm hf q;refine bh.ef bx ?_;clear bx;intro t;refine c0 (q.lookup hi) λ v hv r=>?_;exact DO hm.typeIs nJ.lookup (wpAny_getItem_intMap hm (hf _ _ hv) (Res.tok K.br r)) (fq hs)
end
section
variable {c:Cx}{n:Nat}{E:VE}{ρ ρ':List Sl}{O:List Addr}{s:ae}
theorem tZ{A:aK}{X:ag→ae→Prop}{l:Addr}{items:Array ag}{k:Int}{t:Tok}{v:ag}{Q:Unit→ae→Prop}(hl:eB s.heap l items)(h0:0≤k)(Io:k<2^63)(hn:k<items.size)(hQ:∀h',eB h' l (items.setIfInBounds k.toNat v)→c9 l s.heap h'→Q () {s with heap:=h'}):
  wpAny (model c.prog c.w) A (setItem (.ref l) (.int k t) v) Q X s:=by
 have hT:=hl.isList.typeIs;obtain⟨⟨cls,dd,dt,sl⟩,n,ho,hc,xK,hd⟩:=id hl;simp only at hc xK hd;subst hc xK hd;refine aV (aa (wpAny_sequenceKey hT (by decide) ?_));refine aa (cD (name:=d8 "__setitem__") hT slot_list_setitem (bQ slot_list_setitem hT entry_list_setitem ?_ (args_list_setitem _ _ _)));show wpAny _ _ (Builtin.List.listSubscript? (.int k t)>>=_) _ _ s;have hf:=fitsIndex_of h0 Io;refine aa (wpAny_listSubscript_int hf ?_);clear hf Io;obtain⟨j,rfl⟩:=dh h0;have hj:j<items.size:=by exact cA.mp hn
 show wpAny _ _ ((seqItemAt l j>>= λ r=>pure (r.map (j,·)))>>=_) _ _ s;refine aa (aa (wpAny_seqItemAt ho rfl (ah ?_)));rw[mM hj];show wpAny _ _ (setSeqItemAt l j v>>=_) _ _ s;refine aa (wpAny_setSeqItemAt ho rfl ?_);obtain⟨n',iQ⟩:=x8 (o:={cls:=.type "list",dict:=none,data:=.seq items n,slots:=sl}) rfl (·.setIfInBounds j v);have F8:eB (s.heap.update l (aO (·.setIfInBounds j v))) l (items.setIfInBounds j v):=
  ⟨_,n',b7 _ ho (ta iQ),(z9 ..).trans rfl,rfl,iQ⟩
 exact ah ⟨.none,rfl,ah (hQ _ F8 (bA ..))⟩
theorem Tr.tU(i:Nat){x:Str}{q:OD}{d:D}{e:Expr}{b:Bool}(hx:E.vn[i]? =some x)(dP:ρ[i]? =some (.own true q))(hq:q.Bm=some d)(h:Tr c n E (ρ.set i (.val d)) e b):Tr c n E ρ e b:= λ A β O ad s R I=>
 h A β _ _ s R (I.freeze hx dP hq)
theorem xZ.tU(i:Nat){x:Str}{q:OD}{d d':D}{e:Expr}(hx:E.vn[i]? =some x)(dP:ρ[i]? =some (.own true q))(hq:q.Bm=some d)(h:xZ c n E (ρ.set i (.val d)) e d'):xZ c n E ρ e d':= λ A β O ad s R I=>
 h A β _ _ s R (I.freeze hx dP hq)
theorem Ev.tU(i:Nat){x:Str}{q:OD}{d d':D}{e:Expr}(hx:E.vn[i]? =some x)(dP:ρ[i]? =some (.own true q))(hq:q.Bm=some d)(h:Ev c n E (ρ.set i (.val d)) e d')(hd:autoParam (d'.flat=true) rf):Ev c n E ρ e d':=
 (xZ.tU i hx dP hq (h.flat hd)).ev
theorem bc.append(i:Nat){x:Str}{p apos pos pos':Pos}{e:Expr}{ds:List D}{d:D}(h:Ev c n E ρ e d)(hx:E.vn[i]? =some x)(dP:ρ[i]? =some (.own true (.lst ds)))(hz:ds.length≤900)(i_:autoParam (attributeBase (.Name x p) "append" E.env (eval (.Name x p) E.env)=eval (.Name x p) E.env) rf)(rK:autoParam (((backTo pos (starEach [e] E.env)).all (λ x=> !x.1)&&(backToKw pos (keywordEach [] E.env)).all (λ x=>x.1.isSome)
   &&decide (([e]:List Expr).length+([]:List dT).length+(if([]:List dT).isEmpty then 0 else 1)<30))=true) rf)(iP:autoParam ((apos.endLine==pos.line)=true) rf)(uz:autoParam (backTo pos (starEach [e] E.env)=[(false,eval e E.env)]) rf)(hi:autoParam (interactive E.env=false) rf)(hs:autoParam (swapsWith (.Call (.Attribute (.Name x p) "append" apos) [e] [] pos) none pos'.line E.env=pure false) rf):
  bc c n E ρ (.Expr (.Call (.Attribute (.Name x p) "append" apos) [e] [] pos) pos') (.next (ρ.set i (.own true (.lst (ds++[d]))))):= λ A β s R w0=>by
 refine iB w0 ?_;clear w0;intro O ad I;refine gZ (oP i_ rK iP uz ?_) hi hs;refine cI (I.slot hx dP) λ v b r k=>?_;refine I.read hx b ?_;refine bO r ?_;clear r;intro a vs z1 jx hl hr;subst z1;refine⟨a,_,rfl,hl,h.go R I λ y aH iR cu bx=>?_⟩;refine cI (cu.slot hx dP) λ v' b' r' k'=>?_;refine bO r' ?_;clear r';intro a' i7 z1 i4 nE Ea;subst z1;have:a'=a:=by rw[jx]at i4;simpa using i4.symm
 subst this;have sR:=Ea.length;refine dc (kn nE (λ h' uC eN up=>?_) (cR (by simp only[ba];exact vi sR hz rfl)));have kz:a'∈ad i:=by rw[i4];exact .head _
 refine bO nE ?_;clear nE;intro mW Fd jm oh z ik;have g:aB c [a'] [] aH {aH with heap:=h'}:=SameBut.grow (tk:=aH.toks) eN jm (c8 ik);have S:bF c {aH with heap:=h'}:=SameBut.br (tk:=aH.toks) cu.br eN (cu.low _ (k' _ kz).1);have mj:tC [a'] O aH:= λ b hb=>by obtain rfl:=m1 hb;exact .inl (k' _ kz).1
 refine⟨rfl,[]++O,_,cu.jj (N:=[]) (fp:=ad i) hx dP g S (λ b hb=>by obtain rfl:=m1 hb;exact kz) b' ⟨a',i7++[y],rfl,i4,by simpa using uC,(g.fk mj (.refl O aH) Ea).append (g.rep mj (.refl O aH) bx)⟩ (λ z=>nn) λ b hb=>.inl hb⟩
theorem lN.cons{w:a9}{h:Heap}{ps:List (Int×ag)}{sQ:List (Int×D)}{k:Int}{v:ag}{d:D}(r:bh w O h v d)(q:lN w O h ps sQ):lN w O h ((k,v)::ps) ((k,d)::sQ):=by exact⟨rfl,r,q⟩
theorem bc.Q0(i:Nat){x:Str}{p p' pos:Pos}{ke e:Expr}{m:Nat}{sQ:List (Int×D)}{k:Int}{d:D}(h:Ev c n E ρ e d)(Sj:Ev c n E ρ ke (.int k))(hx:E.vn[i]? =some x)(dP:ρ[i]? =some (.own true (.dJ m sQ)))(hm:m≤900)(hs:autoParam (swapsWith e (some (.Subscript (.Name x p) ke p')) pos.line E.env=pure false) rf):bc c n E ρ (.Assign [.Subscript (.Name x p) ke p'] e pos) (.next (ρ.set i (.own true (.dJ (m+1) ((k,d)::sQ))))):= λ A β s R w0=>iB w0 λ O ad I=>
 lu (h.go R I λ v au qJ bj r=>by
  refine cI (bj.slot hx dP) λ u b o j=>?_;refine c_ o ?_;clear o;intro a f ps z1 jx zh;refine cg zh ?_;clear zh;intro hf hl hp q;subst z1;refine bj.read hx b (Sj.go R bj λ u aH iR cu bx=>?_);refine cI (cu.slot hx dP) λ u' b' o' k'=>?_;refine c_ o' ?_;clear o';intro a' f' C8 z1 i4 zh;refine cg zh ?_;clear zh;intro Me nE Aq q';subst z1;have:a'=a:=by rw[jx]at i4;simpa using i4.symm
  subst this;refine bh.ef bx ?_;clear bx;intro t;refine wpAny_setItem_intMap_le Me nE (cR (by exact rF hm rfl)) λ h' Ss uC eN=>?_;have kz:a'∈ad i:=by rw[i4];exact .head _
  refine cJ Me ?_;clear Me;intro mW Gn Gp jm oh ik j;have g:aB c [a'] [] aH {aH with heap:=h',toks:=aH.toks+1}:=SameBut.grow eN jm (cP ik);have S:bF c {aH with heap:=h',toks:=aH.toks+1}:=SameBut.br cu.br eN (cu.low _ (k' _ kz).1);have mj:tC [a'] O aH:= λ b hb=>by obtain rfl:=m1 hb;exact .inl (k' _ kz).1
  refine⟨rfl,[]++O,_,cu.jj (N:=[]) (fp:=ad i) hx dP g S (λ b hb=>by obtain rfl:=m1 hb;exact kz) b' ⟨a',_,(k,v)::C8,rfl,i4,Ss,uC,λ y z hy=>?_,lN.cons (g.rep mj (.refl O aH) (iR.rep0 r)) (g.Km mj (.refl O aH) q')⟩ (λ j=>nn) λ b hb=>.inl hb⟩;dsimp only[aX]at hy;cases Ih:y==k with
  |true=>rw[Ih]at hy;rw[if_pos (by simpa using Ih)];exact hy
  |false=>rw[Ih]at hy;rw[if_neg (by simpa using Ih)];exact Aq y z hy) hs
theorem a0.set{w:a9}{h:Heap}{v:ag}{d:D}{k:Nat}{vs:List ag}{ds:List D}(r:bh w O h v d)(q:a0 w O h vs ds):a0 w O h (vs.set k v) (ds.set k d):=
 a0.ind (M:= λ vs ds=>∀k,a0 w O h (vs.set k v) (ds.set k d)) q (λ z=>trivial) (λ z z z z q q' ih k=>by
  cases k with
  |zero=>exact⟨r,q'⟩
  |succ k=>exact⟨q,ih k⟩) k
theorem bc.px(i:Nat){x:Str}{p p' pos:Pos}{ke e:Expr}{ds:List D}{k:Int}{d:D}(h:Ev c n E ρ e d)(Sj:Ev c n E ρ ke (.int k))(hx:E.vn[i]? =some x)(dP:ρ[i]? =some (.own true (.lst ds)))(h0:0≤k)(hk:k<ds.length)(hz:ds.length≤900)(hs:autoParam (swapsWith e (some (.Subscript (.Name x p) ke p')) pos.line E.env=pure false) rf):bc c n E ρ (.Assign [.Subscript (.Name x p) ke p'] e pos) (.next (ρ.set i (.own true (.lst (ds.set k.toNat d))))):= λ A β s R w0=>iB w0 λ O ad I=>
 lu (h.go R I λ v au qJ bj r=>by
  refine cI (bj.slot hx dP) λ u b o z=>?_;refine bO o ?_;clear o;intro a vs z1 jx hl q;subst z1;refine bj.read hx b (Sj.go R bj λ u aH iR cu bx=>?_);refine cI (cu.slot hx dP) λ u' b' o' k'=>?_;refine bO o' ?_;clear o';intro a' i7 z1 i4 nE q';subst z1;have:a'=a:=by rw[jx]at i4;simpa using i4.symm
  subst this;refine bh.ef bx ?_;clear bx;intro t;have D_:=q'.length;have kz:a'∈ad i:=by rw[i4];exact .head _
  refine bO (id nE) λ mW ry jm oh K_ ik=>?_;refine tZ nE h0 (by lia) (by simp;exact D_▸hk) λ h' uC eN=>?_;have g:aB c [a'] [] aH {aH with heap:=h'}:=SameBut.grow (tk:=aH.toks) eN jm (c8 ik);have S:bF c {aH with heap:=h'}:=SameBut.br (tk:=aH.toks) cu.br eN (cu.low _ (k' _ kz).1);have mj:tC [a'] O aH:= λ b hb=>by obtain rfl:=m1 hb;exact .inl (k' _ kz).1
  refine⟨rfl,[]++O,_,cu.jj (N:=[]) (fp:=ad i) hx dP g S (λ b hb=>by obtain rfl:=m1 hb;exact kz) b' ⟨a',i7.set k.toNat v,rfl,i4,by simpa using uC,a0.set (g.rep mj (.refl O aH) (iR.rep0 r)) (g.fk mj (.refl O aH) q')⟩ (λ z=>nn) λ b hb=>.inl hb⟩) hs
end
structure Wk(c:Cx)(A:aK)(tg:Expr)(it:ag)(k:Snap)(F:List Addr)(G:List Nat)(P:List Addr→List D→ae→Prop):Prop where
 T:nN c A tg it k G P
 hW:∀a∈F,(a∈k.O∨k.s.heap.objs.size≤a)∧a∉k.K
 hB:∀a∈F,c.B≤a
 hO:∀a∈k.O,a<k.s.heap.objs.size
 hK:∀a∈k.K,a<k.s.heap.objs.size
 hz:c.B≤k.s.heap.objs.size
 ht:∀v,letOwnedTupleGo tg it v=pure ()
section
variable {c:Cx}{n:Nat}{E:VE}{ρ ρ':List Sl}{O:List Addr}{s:ae}
section
variable {A:aK}{tg:Expr}{it:ag}{k:Snap}{F F':List Addr}{G:List Nat}{P:List Addr→List D→ae→Prop}
theorem Wk.up(K:Wk c A tg it k F G P){s s':ae}(hs:cB c k s)(hu:rW F F' s s'):Wk c A tg it k F' G P:=
 ⟨K.T,λ a ha=>(hu a ha).elim (K.hW a) λ h=>⟨.inr (af hs.size h.1),λ hk=>ak _ (ab (K.hK a hk) (af hs.size h.1))⟩,λ a ha=>(hu a ha).elim (K.hB a) λ h=>af K.hz (af hs.size h.1),K.hO,K.hK,K.hz,K.ht⟩
theorem Wk.next(K:Wk c A tg it k F G P){ds:List D}{d:D}{s:ae}(S:bF c s)(hs:cB c k s)(p:P F (d::ds) s){α:Type}{f:Option ag→Sem α}{Q:α→ae→Prop}{X:ag→ae→Prop}(h:∀v s' F',aB c F G s s'→bF c s'→cB c k s'→rW F F' s s'→Wk c A tg it k F' G P→uZ c k F' s s' v d→P F' ds s'→wpAny (model c.prog c.w) A (f (some v)) Q X s'):wpAny (model c.prog c.w) A (pyNext it>>=f) Q X s:=
 wb (K.T.next S hs K.hB p) λ r au q=>by
  refine c0 q ?_;clear q;intro v z1 q;subst z1;rw[K.ht]at q;show wpAny _ _ (pure ()>>= λ z=>f (some v)) Q X au;refine aa (wm q λ z s' q=>?_);refine tG q ?_;clear q;intro x S' F' hu r p';exact h v s' F' x S' (hs.step x K.hW) hu (K.up hs hu) r p'
theorem Wk.done(K:Wk c A tg it k F G P){s:ae}(S:bF c s)(hs:cB c k s)(p:P F [] s){α:Type}{f:Option ag→Sem α}{Q:α→ae→Prop}{X:ag→ae→Prop}(h:∀s',aB c F G s s'→bF c s'→wpAny (model c.prog c.w) A (f none) Q X s'):wpAny (model c.prog c.w) A (pyNext it>>=f) Q X s:=
 wb (K.T.done S hs K.hB p) λ r au q=>by
  obtain⟨rfl,x,S'⟩:=q;exact h au x S'
theorem Wk.nice(K:Wk c A tg it k F G P){s s':ae}{v:ag}{d:D}(hs:cB c k s)(h:uZ c k F' s s' v d):bh c.w k.O s'.heap v d:=
 h k.O (nM.refl _ _) λ a ha=>.inl (ab (K.hO a ha) hs.size)
theorem Wk.rep(K:Wk c A tg it k F' G P){s s':ae}{v:ag}{d:D}{S:Addr}(hs:cB c k s)(h:uZ c k F' s s' v d)(zA:S∈k.O∨k.s.heap.objs.size≤S)(Ha:S<s.heap.objs.size):bh c.w (S::(F'++k.O)) s'.heap v d:=
 h _ (λ a h=>(aD.mp h).elim (λ h=>h▸zA) λ h=>(aC.mp h).elim (λ h=>(K.hW a h).1) .inl) λ a h=>(aD.mp h).elim (λ h=>.inl (h▸Ha)) λ h=>(aC.mp h).elim .inr λ h=>.inl (ab (K.hO a h) hs.size)
theorem v3{S:Addr}{k:Snap}{s:ae}:tC F (S::(F++k.O)) s:= λ a h=>.inl (.tail _ (aF _ h))
theorem E6{S:Addr}{k:Snap}{s s':ae}(hu:rW F F' s s'):nM (S::(F++k.O)) (S::(F'++k.O)) s:= λ a h=>(aD.mp h).elim (λ h=>.inl (h▸ .head _)) λ h=>(aC.mp h).elim (λ h=>(hu a h).imp (λ h=>.tail _ (aF _ h)) And.left) λ h=>.inl (.tail _ (ao _ h))
theorem rW.not{S:Addr}{s s':ae}(hu:rW F F' s s')(hS:S∉F)(hz:S<s.heap.objs.size):S∉F':= λ h=>(hu S h).elim hS λ h=>ak _ (ab hz h.1)
theorem aB.then{c:Cx}{s s' k_:ae}(x:aB c F G s s')(hu:rW F F' s s')(y:aB c F' G s' k_):aB c F G s k_:=x.comp y (λ a h=>(hu a h).imp id And.left) λ z h=>.inl h
noncomputable abbrev JV(c:Cx)(W:List Addr)(G:List Nat)(s:ae)(v:ag):iw→ae→Prop:= λ r s'=>r=.ok (.ret v)∧aB c W G s s'∧bF c s'
theorem GO:∀(bs:List Bool) (F:List Addr) (s:ae),Wk c A.in1 tg it k F G P→bF c s→cB c k s→P F (bs.map D.bool) s→codeAny (model c.prog c.w) A (.builtin "all.loop" ⟨[it],[]⟩) (JV c F G s (.bool (bs.all id))) s:=by
 intro w
 induction w with
 |nil=>
  intro F s K S hs p;refine bf Ah ?_;show wpAny _ A.in1 (pyNext it>>=_) _ _ s;exact K.done S hs p λ s' x S'=>aa (gq (ah ⟨rfl,x,S'⟩))
 |cons b bs ih=>
  intro F s K S hs p;refine bf Ah ?_;show wpAny _ A.in1 (pyNext it>>=_) _ _ s;refine K.next S hs p λ v s' F' x S' eN hu K' r p'=>?_;have r:=K.nice hs r;subst r;refine aa (aV (iV (aa (jd ?_))));cases b with
  |true=>
   refine wT ?_;refine ah ⟨bT Ad _,a7 (ih F' s' K' S' eN p') λ r k_ q=>?_⟩;obtain⟨rfl,x',Hd⟩:=q;exact⟨by rfl,x.then hu x',Hd⟩
  |false=>
   refine wF ?_;exact aa (gq (ah ⟨by rfl,x,S'⟩))
theorem GL:∀(bs:List Bool) (F:List Addr) (s:ae),Wk c A.in1 tg it k F G P→bF c s→cB c k s→P F (bs.map D.bool) s→codeAny (model c.prog c.w) A (.builtin "any.loop" ⟨[it],[]⟩) (JV c F G s (.bool (bs.any id))) s:=by
 intro w
 induction w with
 |nil=>
  intro F s K S hs p;refine bf Ag ?_;show wpAny _ A.in1 (pyNext it>>=_) _ _ s;exact K.done S hs p λ s' x S'=>aa (gq (ah ⟨rfl,x,S'⟩))
 |cons b bs ih=>
  intro F s K S hs p;refine bf Ag ?_;show wpAny _ A.in1 (pyNext it>>=_) _ _ s;refine K.next S hs p λ v s' F' x S' eN hu K' r p'=>?_;have r:=K.nice hs r;subst r;refine aa (aV (iV (aa (jd ?_))));cases b with
  |false=>
   refine wF ?_;refine ah ⟨bT Ac _,a7 (ih F' s' K' S' eN p') λ r k_ q=>?_⟩;obtain⟨rfl,x',Hd⟩:=q;exact⟨by rfl,x.then hu x',Hd⟩
  |true=>
   refine wT ?_;exact aa (gq (ah ⟨by rfl,x,S'⟩))
end
theorem iK.wk{tg:Expr}{O K:List Addr}{s₀ s:ae}{ds:List D}{it:ag}(h:iK c n tg O K s₀ ds it s)(x:s₀.heap.objs.size≤s.heap.objs.size)(hO:∀a∈O,a<s₀.heap.objs.size)(hK:∀a∈K,a<s₀.heap.objs.size)(hB:c.B≤s₀.heap.objs.size)(ht:∀v,letOwnedTupleGo tg it v=pure ()):
  ∃F G,(∀a∈F,s₀.heap.objs.size≤a∧a<s.heap.objs.size)∧(∀g∈G,s₀.gens.size≤g∧g<s.gens.size)∧∀A,Rm A n→∃P,Wk c A tg it ⟨s,F++O,K⟩ F G P∧P F ds s:=by
 refine dj h ?_;clear h;intro F G hF hG h;refine⟨F,G,hF,hG,λ A R=>?_⟩;refine c0 (h A R) λ P T p=>?_;exact⟨P,⟨T,λ a ha=>⟨.inl (aF _ ha),λ hk=>ak _ (ab (hK a hk) (hF a ha).1)⟩,λ a ha=>af hB (hF a ha).1,
  λ a ha=>(aC.mp ha).elim (λ ha=>(hF a ha).2) λ ha=>ab (hO a ha) x,λ a ha=>ab (hK a ha) x,af hB x,ht⟩,p⟩
theorem yb.all{m:Nat}{p:Pos}{x:Str}{bs:List Bool}(hm:m≤n):yb c (n+1) m (.builtin "all") (.Name x p) (bs.map D.bool) (.bool (bs.all id)):= λ A O s₀ s a g R K fW S hg hi=>by
 refine ko PySem.F.kind_all PySem.F.plain_all PySem.F.entry_all (PySem.F.args_all1 _) ?_;refine aa (m:=oneArg "all" _) (ah ?_);refine dj (hi.wk fW.size K.lt K.lt K.br.size λ z=>rfl) λ F G hF hG hi=>?_;refine c0 (hi A.in1 (R.in1.le hm)) λ P Kw p=>?_;refine wb (Kw.T.self S p) λ v aH q=>?_;obtain⟨rfl,rfl⟩:=q;refine ah ⟨bT Ad _,a7 (GO bs F aH Kw S .refl p) λ r s' q=>?_⟩;refine jH q ?_;clear q;intro z1 x' S';subst z1;exact⟨fW.comp x' (λ a ha=>.inr (hF a ha).1) (λ g hg=>.inr (hG g hg).1),S',cO⟩
theorem yb.any{m:Nat}{p:Pos}{x:Str}{bs:List Bool}(hm:m≤n):yb c (n+1) m (.builtin "any") (.Name x p) (bs.map D.bool) (.bool (bs.any id)):= λ A O s₀ s a g R K fW S hg hi=>by
 refine ko PySem.F.kind_any PySem.F.plain_any PySem.F.entry_any (PySem.F.args_any1 _) ?_;refine aa (m:=oneArg "any" _) (ah ?_);refine dj (hi.wk fW.size K.lt K.lt K.br.size λ z=>rfl) λ F G hF hG hi=>?_;refine c0 (hi A.in1 (R.in1.le hm)) λ P Kw p=>?_;refine wb (Kw.T.self S p) λ v aH q=>?_;obtain⟨rfl,rfl⟩:=q;refine ah ⟨bT Ac _,a7 (GL bs F aH Kw S .refl p) λ r s' q=>?_⟩;refine jH q ?_;clear q;intro z1 x' S';subst z1;exact⟨fW.comp x' (λ a ha=>.inr (hF a ha).1) (λ g hg=>.inr (hG g hg).1),S',cO⟩
end
section
variable {c:Cx}{n:Nat}{E:VE}{ρ ρ':List Sl}{O:List Addr}{s:ae}
variable {A:aK}{tg:Expr}{it:ag}{k:Snap}{F F':List Addr}{G:List Nat}{P:List Addr→List D→ae→Prop}
theorem Wk.step(K:Wk c A tg it k F G P){ds:List D}{d:D}{s:ae}(S:bF c s)(hs:cB c k s)(p:P F (d::ds) s):wpAny (model c.prog c.w) A (pyNext it) (λ r au=>∃v,r=some v∧
  ∀(α:Type) (m:Sem α) (Q:α→ae→Prop) (X:ag→ae→Prop),(∀s' F',aB c F G s s'→bF c s'→cB c k s'→rW F F' s s'→Wk c A tg it k F' G P→uZ c k F' s s' v d→P F' ds s'→wpAny (model c.prog c.w) A m Q X s')→wpAny (model c.prog c.w) A m Q X au) aZ s:=
 wm (K.T.next S hs K.hB p) λ r au q=>by
  refine c0 q ?_;clear q;intro v z1 q;subst z1;rw[K.ht]at q;refine⟨v,rfl,λ α m Q X h=>?_⟩;show wpAny _ _ (pure ()>>= λ z=>m) Q X au;refine wb q λ z s' q=>?_;refine tG q ?_;clear q;intro x S' F' hu r p';exact h s' F' x S' (hs.step x K.hW) hu (K.up hs hu) r p'
theorem dR{S:Addr}{o:Obj}{tk:Nat}{f:Obj→Obj}{s:ae}(ho:s.heap.get? S=some o)(ht:qE o=false):aB c [S] [] s {s with heap:=s.heap.update S f,toks:=tk}:=
 SameBut.grow (bA ..) ho ht
theorem e_{S:Addr}{tk:Nat}{f:Obj→Obj}{s:ae}(h:bF c s)(hB:c.B≤S):bF c {s with heap:=s.heap.update S f,toks:=tk}:=
 SameBut.br h (bA ..) hB
theorem JF{z:Int}(h:z.natAbs<2^62):(decide (-(2^63)≤z)&&decide (z<2^63))=true:=by
 rw[bg,decide_eq_true_eq,decide_eq_true_eq];omega
theorem EE{S:Addr}(zB:c.B≤S)(zA:k.s.heap.objs.size≤S)(Ef:S∉k.K):∀(xs:List Int) (acc:Int) (F:List Addr) (s:ae) (tA:Tok) (e:Nat),Wk c A.in1 tg it k F G P→S∉F→bF c s→cB c k s→P F (xs.map D.int) s→
  s.heap.get? S=some {cls:=.type "list",dict:=none,data:=.seq #[.int acc tA] e,slots:= #[]}→(∀x∈xs,x.natAbs<2^40)→acc.natAbs+xs.length*2^40<2^62→
  codeAny (model c.prog c.w) A (.builtin "sum.loop" ⟨[it,.ref S,rawInt 0,rawInt 0],[]⟩) (λ r s'=>(∃t,r=.ok (.ret (.int (acc+xs.sum) t)))∧aB c (S::F) G s s'∧bF c s') s:=by
 intro w
 induction w with
 |nil=>
  intro acc F s tA e K sy St hs p hS z z;refine bf Ae ?_;show wpAny _ A.in1 (seqItems? (.ref S)>>=_) _ _ s;refine aa (gX hS rfl ?_);show wpAny _ A.in1 (tryCatch (pyNext it) _>>=_) _ _ s;refine aa (je (wm (K.T.done St hs K.hB p) λ r au q=>?_));obtain⟨rfl,x,S'⟩:=q;exact ah ⟨⟨tA,by simp⟩,x.mono (λ a h=>.inl (.tail _ h)) λ z h=>.inl h,S'⟩
 |cons x xs ih=>
  intro acc F s tA e K sy St hs p hS hx hb;have FO:=hx x (.head _);have hl:(x::xs).length*2^40=xs.length*2^40+2^40:=by rw[aJ,Nat.succ_mul]
  refine bf Ae ?_;show wpAny _ A.in1 (seqItems? (.ref S)>>=_) _ _ s;refine aa (gX hS rfl ?_);show wpAny _ A.in1 (tryCatch (pyNext it) _>>=_) _ _ s;refine aa (je (wm (K.step St hs p) λ r au q=>?_));obtain⟨v,rfl,q⟩:=q;refine q _ _ _ _ λ s' F' g S' eN hu K' r p'=>?_;have pH:=hu.not sy (aI hS);have r:=K.nice hs r;refine bh.ef r λ t=>?_;have vm:s'.heap.get? S=some {cls:=.type "list",dict:=none,data:=.seq #[.int acc tA] e,slots:= #[]}:=g.keep _ _ sy hS (c8 rfl);have h1:(acc+x).natAbs+xs.length*2^40<2^62:=b9 (Nat.add_le_add_right (af (Int.natAbs_add_le ..) (d_ (bX FO) _)) _) (by rw[eM,kh (2^40),← hl];exact hb);have hc:((decide (-(2^63)≤x)&&decide (x<2^63))&&(decide (-(2^63)≤acc+x)&&decide (acc+x<2^63)))=true:=by rw[JF (Nat.lt_trans FO (by decide)),JF (b9 (cE ..) h1)];rfl
  show wpAny _ A.in1 (if(_:Bool)=true then(mkInt (acc+x)>>=_)else _) _ _ _;refine wP hc ?_
  ·refine aa (Aw ?_);show wpAny _ A.in1 (updateSeq S (λ z=> #[.int (acc+x) s'.toks])>>=_) _ _ _;refine aa ?_;have g2:aB c [S] [] s' {s' with heap:=s'.heap.update S (aO λ z=> #[.int (acc+x) s'.toks]),toks:=s'.toks+1}:=dR vm (c8 rfl);have S2:bF c {s' with heap:=s'.heap.update S (aO λ z=> #[.int (acc+x) s'.toks]),toks:=s'.toks+1}:=e_ S' zB;have p2:=K.T.frame p' g2 S2 (λ a h hf=>by obtain rfl:=m1 h;exact pH hf) λ z=>nn;have Cf:=eN.step g2 λ a h=>by obtain rfl:=m1 h;exact⟨.inr zA,Ef⟩
   refine ff vm rfl (ah ⟨bT Ab _,?_⟩);refine a7 (ih (acc+x) F' _ s'.toks _ K' pH S2 Cf p2 (b7 _ vm rfl) (λ y hy=>hx y (.tail _ hy)) h1) λ r k_ q=>?_;obtain⟨⟨t',rfl⟩,g3,S3⟩:=q;refine⟨⟨t',by rw[rY,Int.add_assoc]⟩,?_,S3⟩;exact((g.mono (O':=S::F) (G':=G) (λ a h=>.inl (.tail _ h)) λ z h=>.inl h).trans (g2.mono (λ a h=>.inl (by obtain rfl:=m1 h;exact .head _)) λ z=>nn)).comp g3 (λ a h=>(aD.mp h).elim (λ h=>.inl (h▸ .head _)) λ h=>(hu a h).imp (λ h=>.tail _ h) And.left) λ z h=>.inl h
theorem yr{A:aK}{x:ag}{xs:List Int}{s₀ s:ae}{O K:List Addr}{nm:Str}{p:Pos}(R:Rm A (n+1))(hO:∀a∈O,a<s₀.heap.objs.size)(hK:∀a∈K,a<s₀.heap.objs.size)(hB:c.B≤s₀.heap.objs.size)(fW:aB c [] [] s₀ s)(hx:∀y∈xs,y.natAbs<2^40)(hl:xs.length≤1000)(h:wpAny (model c.prog c.w) A.in1 (pyIter x) (λ it aH=>aB c [] [] s aH∧bF c aH∧iK c n (.Name nm p) O K s₀ (xs.map D.int) it aH) aZ s):
  wpAny (model c.prog c.w) A (call (.builtin "sum") [x]) (λ v s'=>aB c [] [] s₀ s'∧bF c s'∧bh c.w O s'.heap v (.int xs.sum)) aZ s:=by
 refine ko PySem.F.kind_sum PySem.F.plain_sum PySem.F.entry_sum (PySem.F.args_sum1 _) ?_;show wpAny _ _ (dE "sum" ["start"] 0 {}>>=_) _ _ _;refine aa (cU (show dE "sum" ["start"] 0 {}=pure [none]from rfl) ?_);refine wb h λ it aH cM=>?_;refine jH cM ?_;clear cM;intro cF jy hi;refine dj (hi.wk (fW.trans cF).size hO hK hB λ z=>rfl) λ F G hF hG hi=>?_;refine c0 (hi A.in1 R.in1) λ P Kw rt=>?_;refine aa (Aw ?_);refine v5 ?_;refine aa (aa (aa (cj (T:="int") (b:=false) (qP _ _ _) PySem.sub_int_str ?_)));refine wF ?_;refine ah (aa (aa (cj (T:="int") (b:=false) (qP _ _ _) PySem.sub_int_bytes ?_)));refine wF ?_;refine ah (aa (aa (cj (T:="int") (b:=false) (qP _ _ _) PySem.sub_int_bytearray ?_)));refine wF ?_;refine ah (ah ?_);refine aa (bo ?_);have hz:s₀.heap.objs.size≤aH.heap.objs.size:=(fW.trans cF).size;have Qy:aH.heap.objs.size∉F:= λ hm=>ak _ (hF _ hm).2;have g1:aB c [] [] aH {aH with heap:=aH.heap.push {cls:=.type "list",data:=.seq #[.int 0 aH.toks]},toks:=aH.toks+1}:=.push;have S1:=jy.push (o:={cls:=.type "list",data:=.seq #[.int 0 aH.toks]}) (tk:=aH.toks+1);refine ah ⟨bT Ab _,a7 (EE (S:=aH.heap.objs.size) (af hB hz) (az _) (λ h=>ak _ (ab (hK _ h) hz)) xs 0 F _ aH.toks 0 Kw Qy S1
  ((cB.refl (c:=c) (k:=⟨aH,F++O,K⟩)).step g1 λ z=>nn) (Kw.T.frame rt g1 S1 (λ z=>nn) λ z=>nn) (av _ rfl) hx (by lia)) λ r s' q=>?_⟩
 refine jH q ?_;clear q;intro y1 g S';refine xe y1 ?_;clear y1;intro t z2;subst z2;refine⟨((fW.trans cF).trans g1).comp g (λ a ha=>.inr ?_) (λ e he=>.inr (hG e he).1),S',?_⟩
 ·rcases mc ha with rfl|ha
  ·exact hz
  ·exact(hF a ha).1
 ·rw[Int.zero_add];exact ft
theorem Fn.Ht{xs:List Int}(hx:∀y∈xs,y.natAbs<2^40)(hl:xs.length≤1000):Fn c (n+1) (.builtin "sum") [.lst (D.ints xs)] [] (.int xs.sum):= λ A O s vs ks R K ec r'=>by
 refine fz ec λ v r=>?_;refine fH r' ?_;refine wm (yr (s₀:=s) (O:=O) (K:=[]) (nm:="x") (p:=default) R K.lt (by simp) K.br.size (.refl ..) hx hl (wk (Ib.list (tg:=.Name "x" default) A.in1 O s v R.in1 K r) λ it aH q=>?_)) λ z z q=>q;refine nP q ?_;clear q;intro x S ds z1 hi;subst z1;exact⟨x,S,hi⟩
theorem yb.Ht{m:Nat}{p:Pos}{x:Str}{xs:List Int}(hm:m≤n)(hx:∀y∈xs,y.natAbs<2^40)(hl:xs.length≤1000):yb c (n+1) m (.builtin "sum") (.Name x p) (xs.map D.int) (.int xs.sum):= λ A O s₀ s a g R K fW S hg hi=>by
 refine yr (n:=m) (s₀:=s₀) (O:=O) (K:=O) (nm:=x) (p:=p) (R.le (by exact cY hm)) K.lt K.lt K.br.size fW hx hl ?_;refine dj (id hi) λ F G hF hG Du=>?_;refine c0 (Du A.in1 (R.in1.le hm)) λ P T p=>?_;refine wm (T.self S p) λ v aH q=>?_;refine xa q ?_;clear q;intro z1 z2;cases z1;cases z2;exact⟨.refl ..,S,hi⟩
end
section
variable {c:Cx}{n:Nat}{E:VE}{ρ ρ':List Sl}{O:List Addr}{s:ae}
variable {A:aK}{tg:Expr}{it:ag}{k:Snap}{F F':List Addr}{G:List Nat}{P:List Addr→List D→ae→Prop}
theorem du{vs:List ag}{e:Nat}:qE (bR vs e)=false:=c8 rfl
theorem fu{h:Heap}{a:Addr}{vs:List ag}{n:Nat}(f:Array ag→Array ag)(ho:h.get? a=some (bR vs n)):∃e,(h.update a (aO f)).get? a=some (bR (f vs.toArray).toList e):=
 ⟨_,by exact get?_update_seq ho f⟩
theorem zL{S:Addr}(zB:c.B≤S)(zA:S∈k.O∨k.s.heap.objs.size≤S)(Ef:S∉k.K)(res:ag):∀(ds eK:List D) (vs:List ag) (F:List Addr) (s:ae) (e:Nat),Wk c A.in1 tg it k F G P→S∉F→bF c s→cB c k s→P F ds s→
  s.heap.get? S=some (bR vs e)→a0 c.w (S::(F++k.O)) s.heap vs eK→eK.length+ds.length≤1000→
  codeAny (model c.prog c.w) A (.builtin "list.extend.loop" ⟨[.ref S,it,res],[]⟩) (λ r s'=>r=.ok (.ret res)∧aB c (S::F) G s s'∧bF c s'∧∃i7 e',s'.heap.get? S=some (bR i7 e')∧a0 c.w (S::k.O) s'.heap i7 (eK++ds)) s:=by
 intro w
 induction w with
 |nil=>
  intro eK vs F s e K sy St hs p hS hr z;refine bf iM ?_;show wpAny _ A.in1 (pyNext it>>=_) _ _ s;refine K.done St hs p λ s' x S'=>ah ⟨rfl,x.mono (λ a h=>.inl (.tail _ h)) λ z h=>.inl h,S',vs,e,x.keep _ _ sy hS du,?_⟩;rw[bM];exact x.fk (O:=S::(F++k.O)) v3 (λ a h=>.inl ((aD.mp h).elim (λ h=>h▸ .head _) λ h=>.tail _ (ao _ h))) hr
 |cons d ds ih=>
  intro eK vs F s e K sy St hs p hS hr hl;have Il:=hr.length;simp only[aJ]at hl;refine bf iM ?_;show wpAny _ A.in1 (pyNext it>>=_) _ _ s;refine K.next St hs p λ v s' F' g S' eN hu K' r p'=>?_;have Ha:S<s.heap.objs.size:=aI hS;have pH:=hu.not sy Ha;have r:=K'.rep hs r zA Ha;have vm:s'.heap.get? S=some (bR vs e):=g.keep _ _ sy hS du;have Ea:=g.fk v3 (E6 hu) hr;show wpAny _ A.in1 (updateSeq S (·.push v)>>=_) _ _ _;refine aa ?_;have g2:aB c [S] [] s' {s' with heap:=s'.heap.update S (aO (·.push v))}:=dR (tk:=s'.toks) vm du;have S2:bF c {s' with heap:=s'.heap.update S (aO (·.push v))}:=e_ (tk:=s'.toks) S' zB;have p2:=K.T.frame p' g2 S2 (λ a h hf=>by obtain rfl:=m1 h;exact pH hf) λ z=>nn;have Cf:=eN.step g2 λ a h=>by obtain rfl:=m1 h;exact⟨zA,Ef⟩
  have mj:tC [S] (S::(F'++k.O)) s':= λ a h=>by obtain rfl:=m1 h;exact .inl (.head _)
  refine xe (fu (·.push v) vm) λ e' zC=>?_;have RV:(vs.toArray.push v).toList=vs++[v]:=by simp
  rw[RV]at zC;refine ff (hz:=by simp only[ba];rw[cH];lia) (_hz':=by simp only[hY,ba];rw[cH];exact TN Il hl rfl) vm rfl (ah ⟨bT fy _,?_⟩);refine a7 (ih (eK++[d]) (vs++[v]) F' _ e' K' pH S2 Cf p2 zC ((g2.fk mj (nM.refl _ _) Ea).append (g2.rep mj (nM.refl _ _) r)) (by simp only[aY,aJ,dp];exact JQ hl rfl)) λ r k_ q=>?_;refine k7 q ?_;clear q;intro z1 g3 S3 i7 e3 h3 r3;subst z1;refine⟨rfl,?_,S3,i7,e3,h3,by simpa using r3⟩;exact((g.mono (O':=S::F) (G':=G) (λ a h=>.inl (.tail _ h)) λ z h=>.inl h).trans (g2.mono (λ a h=>.inl (by obtain rfl:=m1 h;exact .head _)) λ z=>nn)).comp g3 (λ a h=>(aD.mp h).elim (λ h=>.inl (h▸ .head _)) λ h=>(hu a h).imp (λ h=>.tail _ h) And.left) λ z h=>.inl h
noncomputable def TO(c:Cx)(A:aK)(s₀:ae)(O:List Addr)(S:Addr)(ds:List D)(it:ag)(s:ae):Prop:=∃tg k F G P,Wk c A tg it k F G P∧P F ds s∧cB c k s∧(S∈k.O∨k.s.heap.objs.size≤S)∧S∉F∧S∉k.K∧(∀a∈O,a∈k.O)∧
 (∀a∈F,s₀.heap.objs.size≤a)∧(∀g∈G,s₀.gens.size≤g)
theorem qK{A:aK}{a:Addr}{o:Obj}{T:String}{ds:List D}{s₀ s:ae}{O:List Addr}(hB:c.B≤s₀.heap.objs.size)(fW:aB c [] [] s₀ s)(Ya:bF c s)(ho:s.heap.get? a=some o)(hc:o.cls=.type T)(Lj:(gG T==gG "list")=false)(Ee:(gG T==gG "tuple")=false)(hl:ds.length≤1000)(hint:∀s',s'.TypeIs (.ref a) T→wpAny (model c.prog c.w) A.in1 (gw (.ref a)) (λ z k_=>k_=s') aZ s')(h:wpAny (model c.prog c.w) A.in1 (pyIter (.ref a)) (λ it aH=>aB c [] [] {s with heap:=s.heap.push (bR [] 0)} aH∧bF c aH∧TO c A.in1 s₀ O s.heap.objs.size ds it aH) aZ {s with heap:=s.heap.push (bR [] 0)}):
  wpAny (model c.prog c.w) A (collect (.ref a)) (λ vs s'=>aB c [] [] s₀ s'∧bF c s'∧a0 c.w O s'.heap vs ds) aZ s:=by
 have NJ:=fW.size;have zz:a<s.heap.objs.size:=aI ho;refine aa (DQ (bf PySem.F.entry_proto_collect ?_));show wpAny _ A.in1 (newList []>>= λ l=>again (.builtin "list.__iadd__" ⟨[l,.ref a],[]⟩)) _ _ s;refine aa (bo ?_);refine ah ⟨bT yi _,bf yj ?_⟩;show wpAny _ A.in1 (r_ (.ref s.heap.objs.size) (.ref a) (.ref s.heap.objs.size)) _ _ {s with heap:=s.heap.push (bR [] 0)};refine aa (f6 (T:=T) ⟨o,aA _ ho,hc⟩ ?_);have h1:iF (.ref s.heap.objs.size) (.ref a)=false:=by simp[iF];exact dA zz
 refine wN (by rw[h1,Lj,Ee];exact bE) ?_;generalize zm:({s with heap:=s.heap.push (bR [] 0)}:ae)=au at h⊢;have x1:aB c [] [] s au:=by rw[← zm];exact aB.push (tk:=s.toks)
 have zD:au.heap.get? s.heap.objs.size=some (bR [] 0):=by rw[← zm];exact av _ rfl
 have zp:au.heap.get? a=some o:=by rw[← zm];exact aA _ ho
 refine wb h λ it aH cM=>?_;refine xa cM ?_;clear cM;intro cF zh;refine En zh ?_;clear zh;intro jy tg k zh;refine c_ zh ?_;clear zh;intro F G P Kw rt zh;refine cg zh ?_;clear zh;intro mE zA sy zh;refine cg zh ?_;clear zh;intro Ef XA hW hG;have Vy:=(fW.trans x1).trans cF;have WG:qE o=false:=bW (by rw[hc];simp);have zC:=cF.keep _ _ (by simp) zD du;refine aa (aV (wm (hint aH ⟨o,cF.keep _ _ (by simp) zp WG,hc⟩) λ b cq Jw=>?_));subst Jw;have Ie:s₀.heap.objs.size≤s.heap.objs.size:=NJ;have zB:c.B≤s.heap.objs.size:=af hB Ie;have key:∀(d7:ae) (e:Nat),aB c [s.heap.objs.size] [] cq d7→bF c d7→d7.heap.get? s.heap.objs.size=some (bR [] e)→
   codeAny (model c.prog c.w) A (.builtin "list.extend.loop" ⟨[.ref s.heap.objs.size,it,.ref s.heap.objs.size],[]⟩) (λ r s'=>r=.ok (.ret (.ref s.heap.objs.size))∧aB c [] [] s₀ s'∧bF c s'∧∃i7 e',s'.heap.get? s.heap.objs.size=some (bR i7 e')∧a0 c.w O s'.heap i7 ds) d7:=by
  intro d7 e g4 S4 OK;have p4:=Kw.T.frame rt g4 S4 (λ a h hf=>by rw[aj]at h;subst h;exact sy hf) λ z=>nn;have R1:=mE.step g4 λ a h=>by rw[aj]at h;subst h;exact⟨zA,Ef⟩
  refine a7 (zL zB zA Ef _ ds [] [] F d7 e Kw sy S4 R1 p4 OK (by trivial) (by simpa using hl)) λ r s' q=>?_;refine k7 q ?_;clear q;intro z1 g5 S5 i7 e5 h5 r5;subst z1;refine⟨rfl,?_,S5,i7,e5,h5,a0.kept (O:=s.heap.objs.size::k.O) (.refl _ _) (λ a h=>.inl (.tail _ (XA a h))) (by simpa using r5)⟩;refine(Vy.comp g4 (λ a h=>.inr (by rw[aj]at h;subst h;exact Ie)) λ z=>nn).comp g5 (λ a h=>.inr ?_) λ g h=>.inr (hG g h)
  rcases mc h with rfl|h
  ·exact Ie
  ·exact hW a h
 refine wI (λ _=>?_) λ _=>?_
 ·refine aa (gq ?_);refine xe (fu (·.push di) zC) λ e4 OK=>?_;have e5:∃e5,((cq.heap.update s.heap.objs.size (aO (·.push di))).update s.heap.objs.size (aO (·.pop))).get? s.heap.objs.size=some (bR [] e5):=fu (·.pop) OK;refine xe e5 ?_;clear e5;intro e5 Xx;have g4:aB c [s.heap.objs.size] [] cq {cq with heap:=cq.heap.update s.heap.objs.size (aO (·.push di))}:=dR (tk:=cq.toks) zC du;have g5:aB c [s.heap.objs.size] [] {cq with heap:=cq.heap.update s.heap.objs.size (aO (·.push di))} {cq with heap:=(cq.heap.update s.heap.objs.size (aO (·.push di))).update s.heap.objs.size (aO (·.pop))}:=dR (tk:=cq.toks) OK du;have S4:bF c {cq with heap:=cq.heap.update s.heap.objs.size (aO (·.push di))}:=e_ (tk:=cq.toks) jy zB;have S5:bF c {cq with heap:=(cq.heap.update s.heap.objs.size (aO (·.push di))).update s.heap.objs.size (aO (·.pop))}:=e_ (tk:=cq.toks) S4 zB;refine aa ?_;show wpAny _ A.in1 (updateSeq s.heap.objs.size (·.push .none)>>= λ z=>updateSeq s.heap.objs.size (·.pop)) _ _ _;refine aa (ff zC rfl ?_);refine ff OK rfl ?_;refine ah ⟨bT fy _,a7 (key _ e5 (g4.trans g5) S5 Xx) λ r s' q=>?_⟩;refine k7 q ?_;clear q;intro z1 g S' i7 e' h' r';subst z1;show wpAny _ A (load s.heap.objs.size>>=_) _ _ s';refine aa (wpAny_load h' ?_);exact ah ⟨g,S',by simpa using r'⟩
 ·refine ah ⟨bT fy _,a7 (key _ 0 ((aB.refl c [] [] cq).mono (λ z=>nn) λ z=>nn) jy zC) λ r s' q=>?_⟩;refine k7 q ?_;clear q;intro z1 g S' i7 e' h' r';subst z1;show wpAny _ A (load s.heap.objs.size>>=_) _ _ s';refine aa (wpAny_load h' ?_);exact ah ⟨g,S',by simpa using r'⟩
end
noncomputable def vR(c:Cx)(n:Nat)(kw:List (Str×ag))(ds lK:List D):Prop:=
 ∀(A:aK) (O:List Addr) (s:ae) (a:Addr) (vs:List ag) (e:Nat),Rm A n→Ok c O s→a∉O→c.B≤a→s.heap.get? a=some (bR vs e)→a0 c.w (a::O) s.heap vs ds→
  wpAny (model c.prog c.w) A (call (.builtin "list.sort") [.ref a] kw) (λ v s'=>v=.none∧aB c [a] [] s s'∧bF c s'∧∃i7 e',s'.heap.get? a=some (bR i7 e')∧a0 c.w (a::O) s'.heap i7 lK) aZ s
section
variable {c:Cx}{n:Nat}{E:VE}{ρ ρ':List Sl}{O:List Addr}{s:ae}
theorem mA{w:a9}{h:Heap}:∀{vs:List ag} {xs:List Int},a0 w O h vs (D.ints xs)→fb vs xs
 |[],[],_=>.nil
 |v::vs,x::xs,r=>by
  have r:a0 w O h (v::vs) (.int x::D.ints xs):=r;obtain⟨r1,r2⟩:=r;refine bh.ef r1 λ t=>?_;exact .cons x t (mA r2)
 |[],_::_,r=>by have:=r.length;trivial
 |_::_,[],r=>by have:=r.length;trivial
theorem uW{w:a9}{h:Heap}{vs:List ag}{xs:List Int}(q:fb vs xs):a0 w O h vs (D.ints xs):=by
 induction q with
 |nil=>exact trivial
 |cons x t q ih=>exact⟨ft,ih⟩
theorem tY{w:a9}{h:Heap}:∀{vs:List ag} {xs:List Str},a0 w O h vs (xs.map D.str)→oL vs xs
 |[],[],_=>.nil
 |v::vs,x::xs,r=>by
  have r:a0 w O h (v::vs) (.str x::xs.map D.str):=r;obtain⟨r1,r2⟩:=r;refine bh.ri r1 λ t=>?_;exact .cons x t (tY r2)
 |[],_::_,r=>by have:=r.length;trivial
 |_::_,[],r=>by have:=r.length;trivial
theorem GK{w:a9}{h:Heap}{vs:List ag}{xs:List Str}(q:oL vs xs):a0 w O h vs (xs.map D.str):=by
 induction q with
 |nil=>exact trivial
 |cons x t q ih=>exact⟨qw,ih⟩
noncomputable def qq(xs:List Int):List Int:=xs.mergeSort λ a b=>decide (a≤b)
theorem mU(xs:List Int):(qq xs).Perm xs:=List.mergeSort_perm xs _
theorem mT(xs:List Int):(qq xs).Pairwise (·≤ ·):=by
 have:=List.pairwise_mergeSort (le:= λ a b:Int=>decide (a≤b)) (λ a b c h1 h2=>by simp only[decide_eq_true_eq]at*;exact d9 h1 h2) (λ a b=>by simp only[Bool.or_eq_true,decide_eq_true_eq];lia) xs;exact this.imp λ h=>by simpa using h
theorem pw{xs ys:List Int}(hp:ys.Perm xs)(hs:ys.Pairwise (·≤ ·)):ys=qq xs:=
 lks_uniq (hp.trans (mU xs).symm) hs (mT xs)
theorem nf{s:ae}{a:Addr}{vs:List ag}{e:Nat}{out:Array ag}(ho:s.heap.get? a=some (bR vs e))(S:bF c s)(hB:c.B≤a):
  aB c [a] [] s {s with heap:=sortedHeap s.heap a vs out}∧bF c {s with heap:=sortedHeap s.heap a vs out}∧∃e',(sortedHeap s.heap a vs out).get? a=some (bR out.toList e'):=by
 refine xe (fu (λ z=> #[]) ho) λ e1 h1=>?_;have g1:aB c [a] [] s {s with heap:=s.heap.update a (aO λ z=> #[])}:=dR (tk:=s.toks) ho du;have S1:bF c {s with heap:=s.heap.update a (aO λ z=> #[])}:=e_ (tk:=s.toks) S hB;have g2:=g1.comp (aB.push (c:=c) (G:=[]) (o:=seqObj "tuple" vs.toArray 0) (tk:=s.toks)) (λ z=>nn) λ z=>nn;have S2:=S1.push (o:=seqObj "tuple" vs.toArray 0) (tk:=s.toks);have h2:=aA (seqObj "tuple" vs.toArray 0) h1;have g3:=g2.comp (aB.push (c:=c) (G:=[]) (o:=seqObj "list" #[] 0) (tk:=s.toks)) (λ z=>nn) λ z=>nn;have S3:=S2.push (o:=seqObj "list" #[] 0) (tk:=s.toks);have h3:=aA (seqObj "list" #[] 0) h2;refine xe (fu (λ z=>out) h3) λ e4 h4=>?_;exact⟨g3.comp (dR (tk:=s.toks) h3 du) (λ b hb=>.inl hb) (λ z=>nn),e_ (tk:=s.toks) S3 hB,e4,h4⟩
theorem vR.ints{xs:List Int}(hl:xs.length<64):vR c n [] (D.ints xs) (D.ints (qq xs)):= λ A O s a vs e R K ha hB ho r=>by
 have hI:=mA r;have hz:=r.length;refine bQ s9 ⟨_,ho,rfl⟩ qX (list_sort_tree (n:=e) ho hI (by rw[hz];simpa[D.ints]using hl) λ out Yf a1 a2 a3=>⟨.none,rfl,?_⟩) (DU _);refine Hi (nf (out:=out) ho K.br hB) λ g S e' h'=>?_;rw[← pw a2 a3];exact⟨rfl,g,S,_,e',h',uW a1⟩
theorem ng:∀(p:Str) (l:List Str),risingS p l=true→(p::l).Pairwise λ a b=>strKind.kle a.cps.toList b.cps.toList
 |p,[],_=>by simp
 |p,x::r,h=>by
  unfold risingS at h;rw[bg,j6,ltCps_eq]at h;have ih:=ng x r h.2;have Uy:strKind.kle p.cps.toList x.cps.toList:=h.1;refine dO.mpr ⟨λ y hy=>?_,ih⟩
  rcases mc hy with rfl|hy
  ·exact Uy
  ·exact KeyOrd.kle_trans Uy ((dO.mp ih).1 y hy)
theorem mw:∀{l:List Str},sortedS l=true→l.Pairwise λ a b=>strKind.kle a.cps.toList b.cps.toList:=by
 intro w
 induction w with
 |nil=>
  intro z;exact .nil
 |cons x r ih=>
  intro h;exact ng x r h
theorem my{α:Type}{R:α→α→Prop}(PL:∀a b,R a b→R b a→a=b):∀{qC l₂:List α},qC.Perm l₂→qC.Pairwise R→l₂.Pairwise R→qC=l₂
 |[],l₂,h,_,_=>(List.nil_perm.mp h).symm
 |a::qC,[],h,_,_=>by have:=h.length_eq;trivial
 |a::qC,b::l₂,h,h1,h2=>by
  have Mj:a=b:=by
   by_cases e:a=b
   ·exact e
   have ha:a∈l₂:=by
    have:=h.mem_iff.mp (sL (a:=a) (l:=qC))
    rcases aD.mp this with q|q
    ·exact absurd q e
    ·exact q
   have hb:b∈qC:=by
    have:=h.mem_iff.mpr (sL (a:=b) (l:=l₂))
    rcases aD.mp this with q|q
    ·exact absurd q.symm e
    ·exact q
   exact PL a b ((dO.mp h1).1 b hb) ((dO.mp h2).1 a ha)
  subst Mj;rw[my PL ((List.perm_cons a).mp h) (dO.mp h1).2 (dO.mp h2).2]
theorem Hx{a b:Str}(h:a.cps.toList=b.cps.toList):a=b:=by
 obtain⟨x⟩:=a;obtain⟨y⟩:=b;exact congrArg _ (Array.toList_inj.mp h)
theorem xj{xs ys zs:List Str}(hp:zs.Perm xs)(hs:sortedS zs=true)(Aq:ys.Perm xs)(eN:sortedS ys=true):zs=ys:=
 my (λ z z h1 h2=>Hx (KeyOrd.kle_antisymm h1 h2)) (hp.trans Aq.symm) (mw hs) (mw eN)
theorem vR.strs{xs ys:List Str}(hl:xs.length<64)(hp:ys.Perm xs)(hs:sortedS ys=true):vR c n [] (xs.map D.str) (ys.map D.str):= λ A O s a vs e R K ha hB ho r=>by
 have hS:=tY r;have hz:=r.length;refine bQ s9 ⟨_,ho,rfl⟩ qX (list_sort_treeK (n:=e) strKind_oneLt ho hS.keysOf (λ eQ eO rest e=>keyKind_strs (by rw[← e];exact hS)) (by rw[hz];simpa using hl) λ nd WD zm=>⟨.none,rfl,?_⟩) (DU _);refine cI (sorted_out_str hS WD zm) λ Yd h1 h2 h3=>?_;refine Hi (nf (out:=(arrOf nd).map (·.2)) ho K.br hB) λ g S e' h'=>?_;rw[xj hp hs h2 h3];exact⟨rfl,g,S,_,e',h',GK h1⟩
end
noncomputable def JX(c:Cx)(n:Nat)(d:D)(ds:List D):Prop:=
 ∀(A:aK) (O:List Addr) (s:ae) (v:ag),Rm A n→Ok c O s→bh c.w O s.heap v d→wpAny (model c.prog c.w) A (collect v) (λ vs s'=>aB c [] [] s s'∧bF c s'∧a0 c.w O s'.heap vs ds) aZ s
section
variable {c:Cx}{n:Nat}{E:VE}{ρ ρ':List Sl}{O:List Addr}{s:ae}
theorem l8{s:ae}{vs:List ag}(S:bF c s):aB c [] [] s {s with heap:=s.heap.push (bR vs 0)}∧bF c {s with heap:=s.heap.push (bR vs 0)}:=⟨aB.push (tk:=s.toks),S.push (tk:=s.toks)⟩
theorem JX.lst{ds:List D}(hl:ds.length≤1000):JX c n (.lst ds) ds:= λ A O s v R K r=>by
 refine bh.n7 r ?_;clear r;intro a vs ha h r;have hz:=r.length;refine xa (l8 (vs:=[]) K.br) λ g1 S1=>?_;have hS:(s.heap.push (bR [] 0)).get? s.heap.objs.size=some (bR [] 0):=av _ rfl;have g2:aB c [s.heap.objs.size] [] {s with heap:=s.heap.push (bR [] 0)} {s with heap:=(s.heap.push (bR [] 0)).update s.heap.objs.size (aO (· ++vs.toArray))}:=dR (tk:=s.toks) hS du;have S2:bF c {s with heap:=(s.heap.push (bR [] 0)).update s.heap.objs.size (aO (· ++vs.toArray))}:=e_ (tk:=s.toks) S1 K.br.size;have g:=g1.comp g2 (λ a h=>.inr (by rw[aj]at h;subst h;exact az _)) λ z=>nn;exact collect_list h.isList ⟨g,S2,g.j_ r⟩ (cR (by exact af (dg hz) hl))
theorem nW{x:ag}{A:aK}{ds lK:List D}{s₀ s:ae}(R:Rm A (n+2))(hO:∀a∈O,a<s₀.heap.objs.size∧c.B≤a)(hB:c.B≤s₀.heap.objs.size)(Ig:s₀.heap.objs.size≤s.heap.objs.size)(hl:ds.length≤1000)(hc:wpAny (model c.prog c.w) A.in1 (collect x) (λ vs s'=>aB c [] [] s₀ s'∧bF c s'∧a0 c.w O s'.heap vs ds) aZ s)(hs:vR c n [] ds lK):
  wpAny (model c.prog c.w) A (call (.builtin "sorted") [x]) (λ v s'=>aB c [] [] s₀ s'∧bF c s'∧bh c.w O s'.heap v (.lst lK)) aZ s:=by
 refine yl kind_sorted plain_sorted entry_sorted (args_sorted1 _) ?_;refine aa (m:=checkCount "sorted" 1 1 _) (ah ?_);refine wb hc λ vs au q=>?_;refine jH q ?_;clear q;intro g1 S1 r1;have hz:=r1.length;refine aa (vo ?_ (by show vs.length≤_;rw[cH];exact vi hz hl rfl));refine xa (l8 (vs:=vs) S1) λ g2 S2=>?_;have vj:=g1.size;have K:Ok c O {au with heap:=au.heap.push (bR vs 0)}:=⟨S2,λ a h=>ab (hO a h).1 (af vj g2.size),λ a h=>(hO a h).2⟩;have hn:au.heap.objs.size∉O:= λ h=>ak _ (ab (hO _ h).1 vj);have r2:a0 c.w (au.heap.objs.size::O) (au.heap.push (bR vs 0)) vs ds:=g2.fk (O:=O) (λ z=>nn) (λ a h=>(aD.mp h).elim (λ h=>.inr (h▸az _)) .inl) r1;refine aa (aV (wm (hs A.in1 O {au with heap:=au.heap.push (bR vs 0)} au.heap.objs.size vs 0 (R.in1.le (by exact bq _)) K hn (af hB vj) (av _ rfl) r2) λ v aH q=>?_));refine k7 q ?_;clear q;intro z1 g3 S3 i7 e' h' r3;subst z1;refine ah ⟨_,rfl,(g1.trans g2).comp g3 (λ a h=>.inr (by rw[aj]at h;subst h;exact vj)) (λ z=>nn),S3,?_⟩;exact⟨_,i7,rfl,hn,⟨_,e',h',rfl,rfl,rfl⟩,a0.kept (O:=au.heap.objs.size::O) (.refl _ _) (λ a h=>.inl (.tail _ h)) r3⟩
theorem Fn.sorted{d:D}{ds lK:List D}(hc:JX c n d ds)(hl:ds.length≤1000)(hs:vR c n [] ds lK):Fn c (n+2) (.builtin "sorted") [d] [] (.lst lK):= λ A O s vs ks R K ec r'=>by
 refine fz ec λ v r=>?_;refine fH r' ?_;exact nW R (λ a h=>⟨K.lt a h,K.low a h⟩) K.br.size (az _) hl (hc A.in1 O s v (R.in1.le (by exact bq _)) K r) hs
theorem JX.tup{ds:List D}(hl:ds.length≤1000):JX c n (.tup ds) ds:= λ A O s v R K r=>by
 refine bh.ql r ?_;clear r;intro a vs ha y2 r;refine nO y2 ?_;clear y2;intro o ho hc m hd;have hz:=r.length;refine dc (wpAny_collect_seq a (.inr rfl) ho hc hd (λ h' hk up=>?_) (cR (by simp;lia)));have g:aB c [] [] s {s with heap:=h'}:=.step (tk:=s.toks) up.heap hk;exact⟨g,K.br.step (tk:=s.toks) up.heap hk,by simpa using g.j_ r⟩
theorem vF(l:Addr)(items:Array ag)(o:Obj)(m:Nat)(hc:o.cls=.type "list")(hd:o.data=.seq items m)(hz:items.size≤sizeLine):
  Meets (Builtin.«tuple.__new__» ⟨[.type "tuple",.ref l],[]⟩) (λ z R s=>s.heap.get? l=some o∧
   ∀h':Heap,(∀b o',s.heap.get? b=some o'→h'.get? b=some o')→s.heap.objs.size≤h'.objs.size→R (.ok (.ret (.ref h'.objs.size))) {s with heap:=h'.push (Ew items.toList 0)}):=by
 refine .of_wp λ prog w A R s h=>?_;refine xa h ?_;clear h;intro ho h;obtain⟨hp,g,d,tk,os⟩:=s;have h1:=PySem.sub_tuple_self;have h2:=PySem.init_tuple_lookup;have h3:=PySem.madeHere_tuple;have hT:g_ ⟨hp,g,d,tk,os⟩ (.ref l) "list":=⟨o,ho,hc⟩;have Sz:∀{A:aK} {X:ag→ae→Prop} {Q:List ag→ae→Prop},(∀h':Heap,(∀b o',hp.get? b=some o'→h'.get? b=some o')→hp.objs.size≤h'.objs.size→Q items.toList ⟨h',g,d,tk,os⟩)→
   wpAny (model prog w) A (collect (.ref l)) Q X ⟨hp,g,d,tk,os⟩:= λ h=>dc (wpAny_collect_seq l (.inl rfl) ho hc hd (λ h' hk up=>h h' hk up.heap) hz)
 wp_walk using wpAny_loadPart' ho,f6 hT,Sz
 intro h' hk sR;refine aa (m:=Builtin.Tuple.tupleExact _) ?_;exact bo (ah ⟨_,rfl,h h' hk sR⟩) (by show items.toList.toArray.size≤sizeLine;simpa using hz)
theorem Fn.v7{ds:List D}(hl:ds.length≤1000):Fn c n (.type "tuple") [.lst ds] [] (.tup ds):= λ A O s vs ks R K ec r'=>by
 refine fz ec λ v r=>?_;refine fH r' ?_;refine bh.n7 r ?_;clear r;intro a vs ha h r;have hz:=r.length;refine bO h ?_;clear h;intro o m ho hc z hd;refine callType_new F.called_tuple (by decide) (F.typeCall_tuple_1 _) (F.newCall_tuple_1 _) (λ obj=>F.args_object_init_2 obj _) F.entry_tuple_new
  (vF a vs.toArray o m hc hd (cR (by simp;lia))) ⟨ho,λ h' hk sR=>⟨⟨_,av _ rfl,rfl⟩,?_⟩⟩
 have g:aB c [] [] s {s with heap:=h'}:=.step (tk:=s.toks) sR hk;have S:bF c {s with heap:=h'}:=K.br.step (tk:=s.toks) sR hk;exact(t7 (tk:=s.toks) (K.fU g S) (g.j_ (by simpa using r))).after g
end
section
variable {c:Cx}{n:Nat}{E:VE}{ρ ρ':List Sl}{O:List Addr}{s:ae}
theorem Bl{s:ae}{a:Addr}{g:Nat}(h:s.heap.IsGen a g):∃o,s.heap.get? a=some o∧o.cls=.type "generator":=by
 refine c_ h ?_;clear h;intro o nm qn ho hc z;exact⟨o,ho,hc⟩
theorem sC{A:aK}{m:Nat}{x:Str}{p:Pos}{eK:List D}{s₀ s:ae}{a:Addr}{g:Nat}(R:Rm A (m+1))(K:Ok c O s₀)(fW:aB c [] [] s₀ s)(S:bF c s)(hg:s.heap.IsGen a g)(hi:iK c m (.Name x p) O O s₀ eK (.ref a) s)(hl:eK.length≤1000):
  wpAny (model c.prog c.w) A (collect (.ref a)) (λ vs s'=>aB c [] [] s₀ s'∧bF c s'∧a0 c.w O s'.heap vs eK) aZ s:=by
 refine c0 (Bl hg) λ o ho hc=>?_;refine qK (T:="generator") K.br.size fW S ho hc (by decide) (by decide) hl (λ s' hT=>?_) ?_
 ·unfold gw;refine aa (iL hT PySem.F.gen_no_len ?_);show wpAny _ A.in1 (specialOf (dQ a) (d8 "__length_hint__")>>=_) _ _ _;refine aa (iL hT PySem.F.gen_no_hint ?_);exact ah rfl
 ·refine dj (hi.wk fW.size K.lt K.lt K.br.size λ z=>rfl) λ F G hF hG hi=>?_;refine c0 (hi A.in1 R.in1) λ P Kw p=>?_;refine xa (l8 (vs:=[]) S) λ g1 S1=>?_;have p1:=Kw.T.frame p g1 S1 (λ z=>nn) λ z=>nn;refine wm (Kw.T.self S1 p1) λ v aH q=>?_;refine xa q ?_;clear q;intro z1 z2;subst z1;subst z2;exact⟨.refl ..,S1,_,_,F,G,P,Kw,p1,(cB.refl (c:=c) (k:=⟨s,F++O,O⟩)).step g1 (λ z=>nn),.inr (az _),λ h=>ak _ (hF _ h).2,
   λ h=>ak _ (ab (K.lt _ h) fW.size),λ b hb=>ao _ hb,λ b hb=>(hF b hb).1,λ e he=>(hG e he).1⟩
theorem yb.sorted{m:Nat}{x:Str}{p:Pos}{ds lK:List D}(hm:m≤n)(hl:ds.length≤1000)(hs:vR c n [] ds lK):yb c (n+2) m (.builtin "sorted") (.Name x p) ds (.lst lK):= λ A O s₀ s a g R K fW S hg hi=>
 nW R (λ a h=>⟨K.lt a h,K.low a h⟩) K.br.size fW.size hl (sC (R.in1.le (by exact cY hm)) K fW S hg hi hl) hs
theorem uq{w:a9}{h:Heap}{a:Int}:∀{vs:List ag} {k:Nat},(∀j v,vs[j]? =some v→∃t,v=nH (a+((k+j:Nat):Int)) t)→a0 w O h vs ((vT k vs.length).map λ (i:Nat)=>D.int (a+(i:Int)))
 |[],k,_=>by trivial
 |v::vs,k,hv=>by
  refine⟨?_,uq λ j u hu=>?_⟩
  ·obtain⟨t,rfl⟩:=hv 0 v rfl;exact⟨t,by simp⟩
  ·obtain⟨t,rfl⟩:=hv (j+1) u (by simpa using hu);exact⟨t,by rw[show k+1+j=k+(j+1) by exact dq _ _ _]⟩
theorem Fn.Fq{a b:Int}(ha: -1000≤a)(G_:a≤1000)(hb: -1000≤b)(wH:b≤1000):Fn c n (.type "list") [.D5 a b] [] (.lst (D.ints (qu a b))):= λ A O s vs ks R K ec r'=>by
 refine fz ec λ v r=>?_;refine fH r' ?_;refine bh.ES r ?_;clear r;intro r t u t' hr ho;refine dc (call_list_range (n:=(b-a).toNat) R.handled ho (sg ha G_ hb wH) (by unfold fG;simp;split<;>lia) (by lia) λ h' tk uX c' hk F6 fV up=>?_);have g:aB c [] [] s {s with heap:=h',toks:=tk}:=.step up.heap hk;refine⟨g,K.br.step up.heap hk,?_⟩;refine⟨_,uX.toList,rfl,K.next,⟨_,c',by simpa using F6,rfl,rfl,by simp⟩,?_⟩;have:=uq (w:=c.w) (O:=O) (h:=h') (a:=a) (vs:=uX.toList) (k:=0) λ j v hv=>by
  refine xe (fV.2 j v (by simpa using hv)) λ t z1=>?_;subst z1;exact⟨t,by rfl⟩
 rw[show uX.toList.length=(b-a).toNat by rw[i6,fV.1]]at this;unfold D.ints qu;rw[bK,Ek];exact this
end
section
variable {c:Cx}{n:Nat}{E:VE}{ρ ρ':List Sl}{O:List Addr}{s:ae}
noncomputable def kJ:List (List Nat):=[[],[0],[1],[2],[3],[0,1],[0,2],[0,3],[1,2],[1,3],[2,3],[0,1,2],[0,1,3],[0,2,3],[1,2,3],[0,1,2,3]]
noncomputable def Hu:List Nat→List (List Nat)
 |[]=>[[]]
 |a::l=>Hu l++(Hu l).map (a:: ·)
theorem EF{l xs:List Nat}(h:xs.Sublist l):xs∈Hu l:=by
 induction h with
 |slnil=>exact .head _
 |cons a h ih=>exact aF _ ih
 |cons_cons a h ih=>exact ao _ (aL.mpr ⟨_,ih,rfl⟩)
theorem oD{xs:List Nat}(h:xs.Sublist [0,1,2,3]):xs∈kJ:=
 (by decide:∀y∈Hu [0,1,2,3],y∈kJ) _ (EF h)
theorem Ue{x:Nat}(h:x∈[0,1,2,3]):x≤3:=(by decide:∀x∈[0,1,2,3],x≤3) x h
theorem so{xs:List Nat}{ts:List Tok}(hl:ts.length=xs.length):(aT xs ts).toArray.size=xs.length:=by simp[aT,hl]
theorem i0{w:a9}{xs:List Nat}{ts:List Tok}(hl:ts.length=xs.length)(hx:xs.Sublist [0,1,2,3]):(df w xs).fits (aT xs ts).toArray.size=true:=by
 have h4:xs.length≤4:=hx.length_le;simp[pW,df,aT,hl,ml];exact af h4 (by decide)
theorem pg{x:Nat}(h:x≤3):hashInt (x:Int)=x:=(by decide +kernel:∀x<4,hashInt ((x:Nat):Int)=x) x (kq h)
noncomputable def PW(xs:List Nat)(x:Nat):Prop:=∀(b:Bool) (ts:List Tok) (t:Tok),ts.length=xs.length→
  layNew {mask:=7,place:=xs.toArray,dummies:= #[],finger:=0,led:=b,moves:=0,plain:=true} (aT xs ts).toArray (x:Int) (.int (x:Int) t)=
   ((aT (xs++[x]) (ts++[t])).toArray,{mask:=7,place:=(xs++[x]).toArray,dummies:= #[],finger:=0,led:=b,moves:=0,plain:=true},false,false)
theorem lay0:∀x∈[0,1,2,3],PW [] x:=by
 intro x h b ts t e;refine y8 e ?_;revert x;refine aU.mpr ⟨by kernel_rfl,aU.mpr ⟨by kernel_rfl,aU.mpr ⟨by kernel_rfl,aU.mpr ⟨by kernel_rfl,nofun⟩⟩⟩⟩
theorem H5:∀y∈kJ,PW y.dropLast (y.getLastD 0):=
 aU.mpr ⟨lay0 0 (by decide),aU.mpr ⟨lay0 0 (by decide),aU.mpr ⟨lay0 1 (by decide),aU.mpr ⟨lay0 2 (by decide),aU.mpr ⟨lay0 3 (by decide),
 aU.mpr ⟨λ b ts t h=>uk h λ z=>by kernel_rfl,aU.mpr ⟨λ b ts t h=>uk h λ z=>by kernel_rfl,aU.mpr ⟨λ b ts t h=>uk h λ z=>by kernel_rfl,
 aU.mpr ⟨λ b ts t h=>uk h λ z=>by kernel_rfl,aU.mpr ⟨λ b ts t h=>uk h λ z=>by kernel_rfl,aU.mpr ⟨λ b ts t h=>uk h λ z=>by kernel_rfl,
 aU.mpr ⟨λ b ts t h=>ui h λ z z=>by kernel_rfl,aU.mpr ⟨λ b ts t h=>ui h λ z z=>by kernel_rfl,aU.mpr ⟨λ b ts t h=>ui h λ z z=>by kernel_rfl,aU.mpr ⟨λ b ts t h=>ui h λ z z=>by kernel_rfl,
 aU.mpr ⟨λ b ts t h=>Jn h λ z z z=>by kernel_rfl,nofun⟩⟩⟩⟩⟩⟩⟩⟩⟩⟩⟩⟩⟩⟩⟩⟩
theorem y9{b:Bool}{xs:List Nat}{ts:List Tok}{x:Nat}{t:Tok}(hl:ts.length=xs.length)(hx:xs++[x]∈kJ):
  layNew {mask:=7,place:=xs.toArray,dummies:= #[],finger:=0,led:=b,moves:=0,plain:=true} (aT xs ts).toArray (x:Int) (.int (x:Int) t)=
   ((aT (xs++[x]) (ts++[t])).toArray,{mask:=7,place:=(xs++[x]).toArray,dummies:= #[],finger:=0,led:=b,moves:=0,plain:=true},false,false):=by
 have h:=H5 _ hx;rw[List.dropLast_concat,List.getLastD_concat]at h;exact h b ts t hl
theorem uK{p:Program}{w:a9}{xs:List Nat}{ts:List Tok}(hx:xs.Sublist [0,1,2,3]):ElemsOf (intKind p w) (aT xs ts).toArray.toList:=by
 intro e he;simp only[aT,aL]at he;obtain⟨q,hq,rfl⟩:=he;have h1:=(js hq).1;have h3:=Ue (hx.subset h1);exact⟨⟨(q.1:Int),qQ _ _ _ _,(pg h3).symm⟩,rfl⟩
theorem DD{p:Program}{w:a9}{xs:List Nat}{ts:List Tok}{x:Nat}(hx:x∉xs):(aT xs ts).toArray.toList.findIdx? (λ e=>(intKind p w).is (x:Int) e.2)=none:=by
 rw[List.findIdx?_eq_none_iff];intro e he;simp only[aT,aL]at he;obtain⟨q,hq,rfl⟩:=he;have h1:=(js hq).1;have:q.1≠x:= λ e=>hx (e▸h1);show vp (x:Int) (.int (q.1:Int) q.2)=false;simp only[vp,beq_eq_false_iff_ne,ne_eq];lia
theorem yB{A:aK}{X:ag→ae→Prop}{a:Addr}{xs:List Nat}{ts:List Tok}{m x:Nat}{t:Tok}{Q:Bool→ae→Prop}(ho:s.heap.get? a=some (cS (aT xs ts).toArray m (df c.w xs)))(hl:ts.length=xs.length)(hx:(xs++[x]).Sublist [0,1,2,3])(h:∀h',c9 a s.heap h'→h'.get? a=some (cS (aT (xs++[x]) (ts++[t])).toArray (m+1) (df c.w (xs++[x])))→Q true {s with heap:=h'}):
  wpAny (model c.prog c.w) A (setAddHashed a (.int (x:Int) t) (hashInt (x:Int))) Q X s:=by
 have RP:xs.Sublist [0,1,2,3]:=(AF xs [x]).trans hx;have h3:=Ue (hx.subset (ao _ (.head _)));have WK:x∉xs:=by
  have xI:(xs++[x]).Nodup:=hx.nodup (by decide);rw[jZ]at xI;exact λ hm=>xI.2.2 x hm x (by simp) rfl
 have hf:=i0 (w:=c.w) hl RP;have Mf:=uK (p:=c.prog) (w:=c.w) (ts:=ts) RP;have h4:xs.length≤4:=RP.length_le;have lb:=so hl;refine aV (aa (a8 ho rfl hf ?_));dsimp only;rw[byScan_of (knd:=intKind c.prog c.w) rfl (by rw[lb];exact b9 h4 (by decide)) Mf];simp only[↓reduceIte];refine aa (aa (gq ?_));refine aa (wpAny_setScan_of (knd:=intKind c.prog c.w) (k:=(x:Int)) (qQ _ _ _ _) ho rfl hf Mf ?_);rw[DD WK];rw[pg h3];unfold df;rw[y9 hl (oD hx)];refine v5 ?_;refine wT ?_;refine aa ?_;rw[hashByValue_scannable 8 (show Value.scannable (.int (x:Int) t)=true from rfl)];refine ah ?_;simp only[show plainKind (.int (x:Int) t)=true from rfl,if_true];have h5:(xs++[x]).length≤4:=hx.length_le;have zu:∀b:Bool,(Ax 7 (xs++[x]).toArray #[] 0 b 0 true).tooFull=false:= λ b=>
  decide_eq_false (Nat.not_le_of_lt (b9 (Nat.mul_le_mul_right 5 h5) (by decide:4*5<7*3)))
 refine aa (oN ho rfl ?_ (by rw[so (by rw[aY,aY,hl];rfl)];exact cR (af h5 (by decide))));rw[if_neg (by rw[zu];decide)];refine ah (ah (h _ (bA ..) ?_));have:=b7 (jB (aT (xs++[x]) (ts++[t])).toArray (df c.w (xs++[x]))) ho (by rfl);rw[putSet_of _ _ rfl]at this;exact this
end
section
variable {c:Cx}{n:Nat}{E:VE}{ρ ρ':List Sl}{O:List Addr}{s:ae}
noncomputable abbrev bI(w:a9):Obj:=cS #[] 0 (df w [])
theorem uP{p:Program}{w:a9}{A:aK}{X:ag→ae→Prop}{s:ae}(a:ag){Q₁:ag→ae→Prop}(h:Q₁ (.ref s.heap.objs.size) {s with heap:=s.heap.push (bI w)}):
  codeAny (model p w) A (.call (.builtin "set.__new__") ⟨[.type "set",a],[]⟩) (wants Q₁ X) s:=by
 refine fg ?_;show wpAny _ A.in1 (do checkBuiltinCall "set.__new__" ⟨[.type "set",a],[]⟩;again (.builtin "set.__new__" ⟨[.type "set",a],[]⟩)) _ _ s;refine aa (cU (PySem.F.newCall_set_1 a) (ah ⟨bT oz _,bf AE ?_⟩));rw[Around.under_plainId oz _];unfold Builtin.«set.__new__» pY;have gz:=mi;obtain⟨hp,g,d,tk,os⟩:=s
 wp_walk
 refine cQ (ah ?_);simp only[newObj];refine aa (wpAny_alloc (ah ?_));exact ah h
set_option maxHeartbeats 3200000 in
theorem me{p:Program}{w:a9}{A:aK}{X:ag→ae→Prop}{s:ae}{l:Addr}{Q:ag→ae→Prop}(R:Rm A (n+4))(h:∀A',Rm A' n→wpAny (model p w) A' (o8 "set.__init__" s.heap.objs.size (.ref l)) (λ z s'=>Q (.ref s.heap.objs.size) s') X {s with heap:=s.heap.push (bI w)}):
  wpAny (model p w) A (call (.type "set") [.ref l]) Q X s:=by
 obtain⟨c,tl,Of⟩:=bJ.mro;have Jz:=bJ.made;have gz:=bJ.sub;refine kg (fg ?_);show wpAny _ _ (callAny (.type "set") _) _ _ _;refine ah ⟨sM _ (by decide +kernel),bf na ?_⟩;rw[ra (rZ "set" [.ref l] []) rfl];have h1:=bJ.notType;have h2:=bJ.canCreate;have UZ:=PySem.F.typeCall_set_1 (.ref l)
 repeat (any_goals (first|assumption|wp_step))
 refine a7 (uP (.ref l) (X:=X) (Q₁:= λ obj au=>obj=.ref s.heap.objs.size∧au={s with heap:=s.heap.push (bI w)}) ⟨rfl,rfl⟩) λ r au hr=>?_;cases r with
 |error e=>exact hr
 |ok fl=>
  cases fl with
  |ret obj=>
   obtain⟨rfl,rfl⟩:=hr;have hS:(s.heap.push (bI w)).get? s.heap.objs.size=some (bI w):=av _ rfl;have hT:g_ {s with heap:=s.heap.push (bI w)} (.ref s.heap.objs.size) "set":=⟨_,hS,rfl⟩;have WS:=bJ.init.lookup;have OG:=bJ.init.bind (.ref s.heap.objs.size)
   repeat (any_goals (first|assumption|wp_step))
   refine a7 (f9 (R:=wants (λ r aH=>r=.none∧Q (.ref s.heap.objs.size) aH) X) bJ.init.plain Af (check_set_init_1 hT ?_)) λ bx aH mF=>?_
   ·unfold Builtin.«set.__init__» noKeywords;generalize Xz:o8=PI
    wp_walk
    subst Xz;exact wk (h A.in1.in1 (R.in1.in1.le (by exact cE _ _))) λ z s' q=>ah ⟨rfl,q⟩
   ·cases bx with
    |error e=>exact mF
    |ok Gl=>
     cases Gl with
     |ret r=>
      obtain⟨rfl,hq⟩:=mF
      repeat (any_goals (first|assumption|wp_step))
     |_=>exact mF.elim
  |_=>exact hr.elim
end
section
variable {c:Cx}{n:Nat}{E:VE}{ρ ρ':List Sl}{O:List Addr}{s:ae}
variable {A:aK}{tg:Expr}{it:ag}{k:Snap}{F F':List Addr}{G:List Nat}{P:List Addr→List D→ae→Prop}
noncomputable def D.nats(xs:List Nat):List D:=xs.map λ (x:Nat)=>D.int (x:Int)
theorem eZ{es:Array (Int×ag)}{m:Nat}{t:SetTable}:qE (cS es m t)=false:=bW (by simp)
theorem sd{S:Addr}(zB:c.B≤S)(zA:S∈k.O∨k.s.heap.objs.size≤S)(Ef:S∉k.K):∀(zs xs:List Nat) (ts:List Tok) (m:Nat) (F:List Addr) (s:ae),Wk c A.in1 tg it k F G P→S∉F→bF c s→cB c k s→P F (D.nats zs) s→
  s.heap.get? S=some (cS (aT xs ts).toArray m (df c.w xs))→ts.length=xs.length→(xs++zs).Sublist [0,1,2,3]→
  codeAny (model c.prog c.w) A (.builtin "set.update.loop" ⟨[.ref S,it],[]⟩) (λ r s'=>r=.ok (.ret .none)∧aB c (S::F) G s s'∧bF c s'∧∃CP m',s'.heap.get? S=some (cS (aT (xs++zs) CP).toArray m' (df c.w (xs++zs)))∧CP.length=(xs++zs).length) s:=by
 intro w
 induction w with
 |nil=>
  intro xs ts m F s K sy St hs p hS hl hx;refine bf ny ?_;show wpAny _ A.in1 (pyNext it>>=_) _ _ s;refine K.done St hs p λ s' x S'=>ah ⟨rfl,x.mono (λ a h=>.inl (.tail _ h)) (λ j h=>.inl h),S',ts,m,?_⟩;rw[bM];exact⟨x.keep _ _ sy hS eZ,hl⟩
 |cons z zs ih=>
  intro xs ts m F s K sy St hs p hS hl hx;have wA:(xs++[z]++zs).Sublist [0,1,2,3]:=by simpa using hx
  refine bf ny ?_;show wpAny _ A.in1 (pyNext it>>=_) _ _ s;refine K.next St hs p λ v s' F' g S' eN hu K' r p'=>?_;have pH:=hu.not sy (aI hS);have r:=K.nice hs r;refine bh.ef r ?_;clear r;intro t;have vm:=g.keep _ _ sy hS eZ;show wpAny _ A.in1 (holding [nH (z:Int) t] (setAdd S (.int (z:Int) t))>>=_) _ _ s';refine aa (aV ?_);refine aV (aa ((intKind c.prog c.w).pyHash (k:=(z:Int)) (qQ _ _ _ _) ?_));refine yB (s:={s' with toks:=s'.toks+1}) vm hl ((AF _ zs).trans wA) λ h' Ap zC=>?_;have g2:aB c [S] [] s' {s' with heap:=h',toks:=s'.toks+1}:=SameBut.grow Ap vm eZ;have S2:bF c {s' with heap:=h',toks:=s'.toks+1}:=SameBut.br S' Ap zB;have p2:=K.T.frame p' g2 S2 (λ a h hf=>by obtain rfl:=m1 h;exact pH hf) λ j=>nn;have Cf:=eN.step g2 λ a h=>by obtain rfl:=m1 h;exact⟨zA,Ef⟩
  refine ah ⟨bT PyProof.Rows.F.plain_set_update_loop _,?_⟩;refine a7 (ih (xs++[z]) (ts++[t]) (m+1) F' _ K' pH S2 Cf p2 zC (by simp[hl]) wA) λ r k_ q=>?_;refine k7 q ?_;clear q;intro z1 g3 S3 CP m' h3 l3;subst z1;refine⟨rfl,?_,S3,CP,m',by simpa using h3,by simpa using l3⟩;exact((g.mono (O':=S::F) (G':=G) (λ a h=>.inl (.tail _ h)) λ j h=>.inl h).trans (g2.mono (λ a h=>.inl (by obtain rfl:=m1 h;exact .head _)) λ j=>nn)).comp g3 (λ a h=>(aD.mp h).elim (λ h=>.inl (h▸ .head _)) λ h=>(hu a h).imp (λ h=>.tail _ h) And.left) λ j h=>.inl h
noncomputable def sW(c:Cx)(n:Nat)(f:ag)(ds:List D)(xs:List Nat):Prop:=∀(A:aK) (O:List Addr) (s:ae) (vs:List ag) (ks:List (Str×ag)),Rm A n→Ok c O s→a0 c.w O s.heap vs ds→ez c.w O s.heap ks []→
 wpAny (model c.prog c.w) A (call f vs ks) (λ v s'=>aB c [] [] s s'∧bF c s'∧∃ts m,v=.ref s.heap.objs.size∧s'.heap.get? s.heap.objs.size=some (cS (aT xs ts).toArray m (df c.w xs))∧ts.length=xs.length∧xs.Sublist [0,1,2,3]) aZ s
theorem sW.o{f:ag}{ds:List D}{xs:List Nat}(h:sW c n f ds xs):mI c n f ds [] (.dm xs):= λ A O s vs ks R K r r'=>wm (h A O s vs ks R K r r') λ v s' q=>by
 refine xa q ?_;clear q;intro g zh;refine lY zh ?_;clear zh;intro S ts m z1 h l hx;subst z1;exact⟨[s.heap.objs.size],g,S,⟨_,ts,m,rfl,rfl,h,l,hx⟩,λ a ha=>by rw[aj]at ha;subst ha;exact⟨az _,aI h⟩⟩
theorem sW.lst{xs:List Nat}(hx:xs.Sublist [0,1,2,3]):sW c (n+6) (.type "set") [.lst (D.nats xs)] xs:= λ A O s vs ks R K ec r'=>by
 refine fz ec λ v r=>?_;refine fH r' ?_;have r1:=r;refine bO r1 ?_;clear r1;intro a ws z1 ha hl hr;subst z1;refine me (n:=n+2) R λ A' R'=>?_;have g1:aB c [] [] s {s with heap:=s.heap.push (bI c.w)}:=aB.push (tk:=s.toks);have S1:bF c {s with heap:=s.heap.push (bI c.w)}:=K.br.push (tk:=s.toks);have zD:(s.heap.push (bI c.w)).get? s.heap.objs.size=some (bI c.w):=av _ rfl;have K1:Ok c (s.heap.objs.size::O) {s with heap:=s.heap.push (bI c.w)}:=⟨S1,λ b h=>(aD.mp h).elim (λ h=>h▸aI zD) λ h=>ab (K.lt b h) g1.size,
  λ b h=>(aD.mp h).elim (λ h=>h▸K.br.size) (K.low b)⟩
 have r1:bh c.w (s.heap.objs.size::O) (s.heap.push (bI c.w)) (.ref a) (.lst (D.nats xs)):=g1.rep (O:=O) (λ z=>nn) (λ b h=>(aD.mp h).elim (λ h=>.inr (h▸az _)) .inl) r;have hT:g_ {s with heap:=s.heap.push (bI c.w)} (.ref a) "list":=(hl.keeps λ z z e=>aA _ e).isList.typeIs;generalize zm:({s with heap:=s.heap.push (bI c.w)}:ae)=au at*;have Gd:au.heap.get? s.heap.objs.size=some (bI c.w):=by rw[← zm];exact zD
 have r2:bh c.w (s.heap.objs.size::O) au.heap (.ref a) (.lst (D.nats xs)):=by rw[← zm];exact r1
 refine aa (aa (cj (T:="list") hT PySem.F.sub_list_set ?_));refine cj (T:="list") hT PySem.F.sub_list_frozenset ?_;refine wF ?_;refine aa (f6 (T:="list") hT ?_);refine wN (by decide) ?_;refine wb (Ib.list (n:=n) (tg:=.Name "x" default) A' _ au (.ref a) (R'.le (by exact cE _ _)) K1 r2) λ it aH q=>?_;refine nP q ?_;clear q;intro cF jy ds z1 hi;subst z1;refine dj (hi.wk cF.size K1.lt (by simp) S1.size λ z=>rfl) λ F G hF hG hi=>?_;refine c0 (hi A'.in1 (R'.in1.le (by exact bq _))) λ P Kw p=>?_;have Ie:s.heap.objs.size<au.heap.objs.size:=aI Gd;refine aa (DQ (a7 (sd (S:=s.heap.objs.size) K.br.size (.inl (ao _ (.head _))) (by simp) xs [] [] 0 F aH Kw (λ h=>ak _ (ab Ie (hF _ h).1)) jy .refl p (cF.keep _ _ (by simp) Gd eZ) rfl hx) λ r s' q=>?_));refine k7 q ?_;clear q;intro z1 g S' CP m' h' l';subst z1;refine ah ⟨(g1.trans cF).comp g (λ b hb=>.inr ?_) (λ e he=>.inr ?_),S',?_⟩
 ·rcases mc hb with rfl|hb
  ·exact az _
  ·exact af g1.size (hF b hb).1
 ·exact af g1.dv (hG e he).1
 ·exact⟨CP,m',by first|rfl|trivial,h',l',hx⟩
theorem tW:isSubtype (.type "tuple") (.type "set")=pure false:=by kernel_rfl
theorem nV:isSubtype (.type "tuple") (.type "frozenset")=pure false:=by kernel_rfl
theorem sW.tup{xs:List Nat}(hx:xs.Sublist [0,1,2,3]):sW c (n+6) (.type "set") [.tup (D.nats xs)] xs:= λ A O s vs ks R K ec r'=>by
 refine fz ec λ v r=>?_;refine fH r' ?_;have r1:=r;refine bO r1 ?_;clear r1;intro a ws z1 ha hl hr;subst z1;refine me (n:=n+2) R λ A' R'=>?_;have g1:aB c [] [] s {s with heap:=s.heap.push (bI c.w)}:=aB.push (tk:=s.toks);have S1:bF c {s with heap:=s.heap.push (bI c.w)}:=K.br.push (tk:=s.toks);have zD:(s.heap.push (bI c.w)).get? s.heap.objs.size=some (bI c.w):=av _ rfl;have K1:Ok c (s.heap.objs.size::O) {s with heap:=s.heap.push (bI c.w)}:=⟨S1,λ b h=>(aD.mp h).elim (λ h=>h▸aI zD) λ h=>ab (K.lt b h) g1.size,
  λ b h=>(aD.mp h).elim (λ h=>h▸K.br.size) (K.low b)⟩
 have r1:bh c.w (s.heap.objs.size::O) (s.heap.push (bI c.w)) (.ref a) (.tup (D.nats xs)):=g1.rep (O:=O) (λ z=>nn) (λ b h=>(aD.mp h).elim (λ h=>.inr (h▸az _)) .inl) r;have hT:g_ {s with heap:=s.heap.push (bI c.w)} (.ref a) "tuple":=(by refine cI hl ?_;clear hl;intro o ho hc z;exact⟨o,aA _ ho,hc⟩);generalize zm:({s with heap:=s.heap.push (bI c.w)}:ae)=au at*;have Gd:au.heap.get? s.heap.objs.size=some (bI c.w):=by rw[← zm];exact zD
 have r2:bh c.w (s.heap.objs.size::O) au.heap (.ref a) (.tup (D.nats xs)):=by rw[← zm];exact r1
 refine aa (aa (cj (T:="tuple") hT tW ?_));refine cj (T:="tuple") hT nV ?_;refine wF ?_;refine aa (f6 (T:="tuple") hT ?_);refine wN (by decide) ?_;refine wb (Ib.tuple (n:=n) (tg:=.Name "x" default) A' _ au (.ref a) (R'.le (by exact cE _ _)) K1 r2) λ it aH q=>?_;refine nP q ?_;clear q;intro cF jy ds z1 hi;subst z1;refine dj (hi.wk cF.size K1.lt (by simp) S1.size λ z=>rfl) λ F G hF hG hi=>?_;refine c0 (hi A'.in1 (R'.in1.le (by exact bq _))) λ P Kw p=>?_;have Ie:s.heap.objs.size<au.heap.objs.size:=aI Gd;refine aa (DQ (a7 (sd (S:=s.heap.objs.size) K.br.size (.inl (ao _ (.head _))) (by simp) xs [] [] 0 F aH Kw (λ h=>ak _ (ab Ie (hF _ h).1)) jy .refl p (cF.keep _ _ (by simp) Gd eZ) rfl hx) λ r s' q=>?_));refine k7 q ?_;clear q;intro z1 g S' CP m' h' l';subst z1;refine ah ⟨(g1.trans cF).comp g (λ b hb=>.inr ?_) (λ e he=>.inr ?_),S',?_⟩
 ·rcases mc hb with rfl|hb
  ·exact az _
  ·exact af g1.size (hF b hb).1
 ·exact af g1.dv (hG e he).1
 ·exact⟨CP,m',by first|rfl|trivial,h',l',hx⟩
theorem ur{w:a9}{m:Nat}(h:m≤4):(df w []).roomFor m=none:=by
 simp[SetTable.roomFor,df,ml];lia
theorem sW.dm{xs:List Nat}:sW c (n+6) (.type "set") [.dm xs] xs:= λ A O s vs ks R K ec r'=>by
 refine fz ec λ v r=>?_;refine fH r' ?_;refine bh.sm r ?_;clear r;intro a ts m ha ho hl hx;have zz:a<s.heap.objs.size:=aI ho;refine me (n:=n+2) R λ A' R'=>?_;have g1:aB c [] [] s {s with heap:=s.heap.push (bI c.w)}:=aB.push (tk:=s.toks);have S1:bF c {s with heap:=s.heap.push (bI c.w)}:=K.br.push (tk:=s.toks);have zD:(s.heap.push (bI c.w)).get? s.heap.objs.size=some (bI c.w):=av _ rfl;have zp:(s.heap.push (bI c.w)).get? a=some (cS (aT xs ts).toArray m (df c.w xs)):=aA _ ho;have hT:g_ {s with heap:=s.heap.push (bI c.w)} (.ref a) "set":=⟨_,zp,rfl⟩;have hf:=i0 (w:=c.w) hl hx;have h4:=hx.length_le;simp only[aJ,dp]at h4;have lb:(aT xs ts).toArray.size=xs.length:=by simp[aT,hl]
 refine aa (aa (cj (T:="set") hT mi ?_));refine ah ?_;refine wT ?_;refine v5 ?_;refine aa (x4 zp rfl hf ?_);refine wN (by simp;exact dA zz) ?_;refine aa (a8 zp rfl hf ?_);dsimp only;have fin:∀(CP:List Tok) (m':Nat) (s':ae),aB c [] [] s s'→bF c s'→s'.heap.get? s.heap.objs.size=some (cS (aT xs CP).toArray m' (df c.w xs))→CP.length=xs.length→aB c [] [] s s'∧bF c s'∧∃ts m,dQ s.heap.objs.size=dQ s.heap.objs.size∧s'.heap.get? s.heap.objs.size=some (cS (aT xs ts).toArray m (df c.w xs))∧ts.length=xs.length∧xs.Sublist [0,1,2,3]:= λ CP m' s' g S h l=>⟨g,S,CP,m',rfl,h,l,hx⟩
 by_cases he:xs=[]
 ·subst he;exact ah (fin [] 0 _ g1 S1 zD rfl)
 ·rw[if_neg (by rw[Array.isEmpty_iff_size_eq_zero,lb];simpa using he)];have UT:(df c.w []).fits (#[]:Array (Int×ag)).size=true:=rfl;refine aa (aa (a8 zD rfl UT ?_));rw[ur (by rw[lb];exact h4)];refine ah (aa (a8 zD rfl UT ?_));have Uw:(df c.w []).road (df c.w xs)=.slotForSlot:=rfl;refine oN zD rfl ?_ (by rw[lb,cH];exact rF h4 rfl);have h2:=b7 (jB (aT xs ts).toArray (df c.w xs)) zD (by rfl);have e:({df c.w xs with finger:=(df c.w []).finger,led:=(df c.w []).led&&(df c.w xs).led,moves:=(df c.w []).moves,plain:=(df c.w []).plain&&(df c.w xs).plain}:SetTable)=df c.w xs:=by
   simp[df]
  rw[e];have g2:aB c [s.heap.objs.size] [] {s with heap:=s.heap.push (bI c.w)} {s with heap:=(s.heap.push (bI c.w)).update s.heap.objs.size (jB (aT xs ts).toArray (df c.w xs))}:=dR (tk:=s.toks) zD eZ;have S2:bF c {s with heap:=(s.heap.push (bI c.w)).update s.heap.objs.size (jB (aT xs ts).toArray (df c.w xs))}:=e_ (tk:=s.toks) S1 K.br.size;exact fin ts _ _ (g1.comp g2 (λ b h=>.inr (by rw[aj]at h;subst h;exact az _)) λ z=>nn) S2 h2 hl
end
section
variable {c:Cx}{n:Nat}{E:VE}{ρ ρ':List Sl}{O:List Addr}{s:ae}
theorem Bp{α:Type}{l:List α}{i:Nat}(h:i<l.length):(l[i]::l.eraseIdx i).Perm l:=by
 rw[List.eraseIdx_eq_take_drop_succ];refine List.perm_middle.symm.trans ?_;rw[← eo h,D0]
theorem yQ{α:Type}(next:Nat→Nat)(fuel k:Nat)(left:List α)(out:Array α)(h:left.length≤fuel):(pickOrder.go next fuel k left out).toList.Perm (out.toList++left):=by
 induction fuel generalizing k left out with
 |zero=>exact y8 (Nat.eq_zero_of_le_zero h) (.of_eq (bM _).symm)
 |succ fuel ih=>
  conv=>arg 1;arg 1;whnf
  by_cases h0:left.length=0
  ·exact y8 h0 (.of_eq (bM _).symm)
  ·have gE:next k%left.length<left.length:=Nat.mod_lt _ (Nat.pos_of_ne_zero h0)
   rw[aq gE];refine(ih (k+1) _ _ (by rw[List.length_eraseIdx_of_lt gE];exact Nat.sub_le_of_le_add h)).trans ?_;rw[Array.toList_push,j5];exact List.Perm.append_left _ (Bp gE)
theorem t9{α:Type}(next:Nat→Nat)(xs:Array α):(pickOrder next xs).toList.Perm xs.toList:=
 yQ next xs.size 0 xs.toList #[] (az _)
end
theorem de:Slot "set_iterator" "__next__" "set_iterator.__next__":=
 .of (owner:="set_iterator") (n:="__next__") (by kernel_rfl) (by decide +kernel) (by decide +kernel) (by decide +kernel)
  (by first|exact .inl (by decide +kernel)|exact .inr (by decide +kernel)) (by kernel_rfl)
theorem nX:Slot "set_iterator" "__iter__" "set_iterator.__iter__":=
 .of (owner:="set_iterator") (n:="__iter__") (by kernel_rfl) (by decide +kernel) (by decide +kernel) (by decide +kernel)
  (by first|exact .inl (by decide +kernel)|exact .inr (by decide +kernel)) (by kernel_rfl)
theorem iT:entryFor table "set_iterator.__next__"=some Builtin.«set_iterator.__next__»:=z8 (by kernel_rfl)
theorem sT:entryFor table "set_iterator.__iter__"=some Builtin.«dict_keyiterator.__iter__»:=
 DT (id':="dict_keyiterator.__iter__") (by kernel_rfl) (by first|rfl|decide +kernel|(simp +decide [sJ])) (by decide +kernel) (by kernel_rfl)
theorem jq(a:ag):argsOk "set_iterator.__next__" ⟨[a],[]⟩:=by kernel_rfl
theorem uV(a:ag):argsOk "set_iterator.__iter__" ⟨[a],[]⟩:=by kernel_rfl
theorem nq:entryFor table "set.__iter__"=some Builtin.«frozenset.__iter__»:=
 DT (id':="frozenset.__iter__") (by kernel_rfl) (by first|rfl|decide +kernel|(simp +decide [sJ])) (by decide +kernel) (by kernel_rfl)
theorem ot(a:ag):argsOk "set.__iter__" ⟨[a],[]⟩:=by kernel_rfl
section
variable {c:Cx}{n:Nat}{E:VE}{ρ ρ':List Sl}{O:List Addr}{s:ae}
noncomputable abbrev fX(slot i:Nat)(a:ag)(z m:Nat):Obj:={cls:=.type "set_iterator",data:=.fields #[.int slot 0,.int i 0,a,.int z 0,.int m 0]}
noncomputable def told(w:a9)(a:Addr)(m:Nat)(es:Array (Int×ag)):List (Int×ag):=if cN w then(pickOrder (w.params.setOrder a m) es).toList else es.toList
theorem jQ(w:a9)(a:Addr)(m:Nat)(es:Array (Int×ag)):(told w a m es).Perm es.toList:=by
 unfold told
 split
 ·exact t9 _ _
 ·exact .refl _
noncomputable def slotAt(xs:List Nat)(i:Nat):Nat:=if i=0 then 0 else xs.getD (i-1) 0+1
theorem Bu{xs:List Nat}(h:xs∈kJ):∀i,i≤xs.length→b8 xs.toArray (slotAt xs i)=i:=by
 have:∀xs∈kJ,∀i∈ay (xs.length+1),b8 xs.toArray (slotAt xs i)=i:=by decide +kernel
 intro i hi;exact this xs h i (aM.mpr (by exact cY hi))
theorem tI{A:aK}{X:ag→ae→Prop}{a:Addr}{xs:List Nat}{ts:List Tok}{m slot i:Nat}{Q:Option (ag×Nat)→ae→Prop}(ho:s.heap.get? a=some (cS (aT xs ts).toArray m (df c.w xs)))(hl:ts.length=xs.length)(hx:xs.Sublist [0,1,2,3])(hs:cN c.w=false→slot=slotAt xs i)(hi:i≤xs.length)(h:∀ie,(cN c.w=false→i<xs.length→ie=slotAt xs (i+1))→Q (((told c.w a m (aT xs ts).toArray)[i]?).map λ e=>(e.2,ie)) s):
  wpAny (model c.prog c.w) A (setNext a slot i m) Q X s:=by
 have hf:=i0 (w:=c.w) hl hx;refine aa (a8 ho rfl hf ?_);refine aa (aa (cQ (ah ?_)));show wpAny _ _ (if(cN c.w)=true then _ else _) _ _ _;cases hb:cN c.w with
 |true=>
  refine wP rfl ?_;simp only[bne_self_eq_false,aR,if_false];refine aa (aa (a8 ho rfl hf ?_));refine aa (aa (cQ (ah ?_)));show wpAny _ _ (if(cN c.w)=true then _ else _) _ _ _;rw[hb,if_pos rfl];refine aa (cQ (ah (ah ?_)));have:=h slot (by simp[hb]);unfold told at this;rw[hb,if_pos rfl]at this;show Q (Option.map (λ e=>(e.snd,slot)) (pickOrder (c.w.params.setOrder a m) (aT xs ts).toArray)[i]?) s;simpa using this
 |false=>
  have ni:=hs hb;subst ni;refine wN (by decide) ?_;have Wu:=oD hx;have Le:=Bu Wu i hi;show wpAny _ _ (if(!true&&decide ((aT xs ts).toArray.size>1))=true then _ else _) _ _ _;refine wN (by simp) ?_;refine aa ?_;show wpAny _ _ (if(!(df c.w xs).led&& !(aT xs ts).toArray.isEmpty)=true then _ else _) _ _ _;rw[if_neg (by simp[df,hb])];refine ah ?_;have Xn:b8 (df c.w xs).place (slotAt xs i)=i:=Le;rw[Xn];show wpAny _ _ (pure (match (aT xs ts).toArray[i]?,xs.toArray[i]? with
   |some (_,x),some j=>some (x,j+1)
   |_,_=>none)) _ _ _
  refine ah ?_;have key:=h (xs.getD i 0+1) λ z gE=>by rfl
  unfold told at key;rw[hb,if_neg (by decide)]at key
  by_cases gE:i<xs.length
  ·have e1:xs.toArray[i]? =some xs[i]:=by simp[gE]
   have hz:i<(aT xs ts).length:=by simp[aT,hl];exact gE
   have e2:(aT xs ts).toArray[i]? =some (aT xs ts)[i]:=by simp[hz]
   rw[e1,e2];have e3:(aT xs ts)[i]? =some (aT xs ts)[i]:=by simp[hz]
   rw[show(aT xs ts).toArray.toList=aT xs ts from rfl,e3,show xs.getD i 0=xs[i] by simp[gE]]at key;exact key
  ·have e1:xs.toArray[i]? =none:=by simp;exact cw gE
   have e3:(aT xs ts)[i]? =none:=by simp[aT,hl];lia
   have e2:(aT xs ts).toArray[i]? =none:=by simpa using e3
   rw[e1,e2];rw[show(aT xs ts).toArray.toList=aT xs ts from rfl,e3]at key;exact key
end
section
variable {c:Cx}{n:Nat}{E:VE}{ρ ρ':List Sl}{O:List Addr}{s:ae}
theorem w7{A:aK}{X:ag→ae→Prop}{I a:Addr}{xs:List Nat}{ts:List Tok}{m slot i:Nat}{e:Int×ag}{Q:Option ag→ae→Prop}(hI:s.heap.get? I=some (fX slot i (.ref a) xs.length m))(ho:s.heap.get? a=some (cS (aT xs ts).toArray m (df c.w xs)))(hl:ts.length=xs.length)(hx:xs.Sublist [0,1,2,3])(hs:cN c.w=false→slot=slotAt xs i)(hi:i<xs.length)(he:(told c.w a m (aT xs ts).toArray)[i]? =some e)(hQ:∀h' ie,h'.get? I=some (fX ie (i+1) (.ref a) xs.length m)→c9 I s.heap h'→(cN c.w=false→ie=slotAt xs (i+1))→Q (some e.2) {s with heap:=h'}):
  wpAny (model c.prog c.w) A (pyNext (.ref I)) Q X s:=by
 have hT:s.TypeIs (.ref I) "set_iterator":=⟨_,hI,rfl⟩;have hf:=i0 (w:=c.w) hl hx;have lb:(aT xs ts).toArray.size=xs.length:=by simp[aT,hl]
 refine aa (gu (cD (name:=d8 "__next__") hT de (bQ de hT iT ?_ (jq _))));show wpAny _ _ (fieldsOf (.ref I)>>=_) _ _ s;refine aa (s8 hI rfl ?_);show wpAny _ _ (setEntries a>>=_) _ _ s;refine aa (aa (a8 ho rfl hf (ah ?_)));dsimp only;rw[if_neg (by rw[lb];simp)];refine aa (tI (slot:=slot) (i:=i) ho hl hx hs (bX hi) λ ie eN=>?_);rw[show((m:Int)).toNat=m from rfl,he];dsimp only[jf];have h1:=b7 (sI (·.setIfInBounds 0 (rawInt ie))) hI rfl;refine aa (ll hI rfl (by exact bB _) ?_);refine aa (ll h1 rfl (by exact aG _ _) ?_);refine ah ⟨_,rfl,ah (hQ _ ie ?_ ((bA ..).trans (bA ..)) λ hb=>eN hb hi)⟩;exact b7 (sI (·.setIfInBounds 1 (rawInt ((i:Int)+1)))) h1 rfl
theorem w8{A:aK}{X:ag→ae→Prop}{I a:Addr}{xs:List Nat}{ts:List Tok}{m slot:Nat}{Q:Option ag→ae→Prop}(hh:A.handled=none)(hI:s.heap.get? I=some (fX slot xs.length (.ref a) xs.length m))(ho:s.heap.get? a=some (cS (aT xs ts).toArray m (df c.w xs)))(hl:ts.length=xs.length)(hx:xs.Sublist [0,1,2,3])(hs:cN c.w=false→slot=slotAt xs xs.length)(hQ:∀h',p_ I s.heap h'→Q none {s with heap:=h'}):
  wpAny (model c.prog c.w) A (pyNext (.ref I)) Q X s:=by
 have hT:s.TypeIs (.ref I) "set_iterator":=⟨_,hI,rfl⟩;have hf:=i0 (w:=c.w) hl hx;have lb:(aT xs ts).toArray.size=xs.length:=by simp[aT,hl]
 have he:(told c.w a m (aT xs ts).toArray)[xs.length]? =none:=by
  have:=(jQ c.w a m (aT xs ts).toArray).length_eq;have h2:(aT xs ts).toArray.toList.length=xs.length:=by trivial
  have h3:(told c.w a m (aT xs ts).toArray).length=(aT xs ts).toArray.toList.length:=this;exact bk (by lia)
 refine aa (gu (cD (name:=d8 "__next__") hT de (bQ de hT iT ?_ (jq _))));show wpAny _ _ (fieldsOf (.ref I)>>=_) _ _ s;refine aa (s8 hI rfl ?_);show wpAny _ _ (setEntries a>>=_) _ _ s;refine aa (aa (a8 ho rfl hf (ah ?_)));dsimp only;rw[if_neg (by rw[lb];simp)];refine aa (tI (slot:=slot) (i:=xs.length) ho hl hx hs (az _) λ ie eN=>?_);rw[show((m:Int)).toNat=m from rfl,he];dsimp only[Option.map_none];refine aa (ll hI rfl (by exact aG _ _) ?_);show wpAny _ _ (newExc (.type "StopIteration") []>>=_) _ _ _;refine aa ?_;refine aa (bo ?_ (by exact bV _));refine aa (m:=firstArgMember _ _) (cU (a:=di) (by first|rfl|(simp only[firstArgMember];rfl)) ?_);refine bo ?_ (by size_fits);refine aa (oW ?_);rw[show A.in1.handled=none from hh];refine aa (ah (sY ?_));refine aa (cj (T:="StopIteration") (b:=true) ⟨_,av _ rfl,rfl⟩ nI ?_);exact ah (hQ _ (((bA ..).extBut.push _).push _))
theorem qf{A:aK}{X:ag→ae→Prop}{I:Addr}{o:Obj}{Q:ag→ae→Prop}(hI:s.heap.get? I=some o)(hc:o.cls=.type "set_iterator")(h:Q (.ref I) s):wpAny (model c.prog c.w) A (pyIter (.ref I)) Q X s:=by
 have hT:s.TypeIs (.ref I) "set_iterator":=⟨_,hI,hc⟩;refine oO hT nX (bQ nX hT sT ?_ (uV _));show wpAny _ _ (ret (.ref I)) _ _ s;exact ah ⟨_,rfl,"set_iterator",_,hT,de.lookup,h⟩
theorem cB.obj{k:Snap}{a:Addr}{o:Obj}(h:cB c k s)(ha:a∉k.O)(ho:k.s.heap.get? a=some o)(ht:qE o=false):s.heap.get? a=some o:=by
 refine ew h ?_;clear h;intro V G' g hV;exact g.keep _ _ (λ hm=>(hV a hm).1.elim ha λ hle=>ak _ (ab (aI ho) hle)) ho ht
noncomputable def l5(w:a9)(a:Addr)(m:Nat)(xs:List Nat)(ts:List Tok):List Nat:=(told w a m (aT xs ts).toArray).map λ e=>e.1.toNat
theorem jR{w:a9}{a:Addr}{m:Nat}{xs:List Nat}{ts:List Tok}(hl:ts.length=xs.length):(l5 w a m xs ts).Perm xs:=by
 have:=(jQ w a m (aT xs ts).toArray).map λ e=>e.1.toNat;refine this.trans ?_;unfold aT;rw[bK];have e:(xs.zip ts).map ((λ e:Int×ag=>e.1.toNat)∘λ p=>((p.1:Int),nH (p.1:Int) p.2))=(xs.zip ts).map Prod.fst:=ck λ p z=>by simp
 rw[e,List.map_fst_zip (by exact dg hl.symm)]
theorem EA{w:a9}{a:Addr}{m:Nat}{xs:List Nat}{ts:List Tok}{e:Int×ag}(h:e∈told w a m (aT xs ts).toArray):∃t,e.2=.int (e.1.toNat:Int) t:=by
 have:=(jQ w a m (aT xs ts).toArray).mem_iff.mp h;simp only[aT,aL]at this;obtain⟨p,_,rfl⟩:=this;exact⟨p.2,by simp⟩
theorem nN.dm{A:aK}{tg:Expr}{I a:Addr}{k:Snap}{xs:List Nat}{ts:List Tok}{m:Nat}(hh:A.handled=none)(ho:k.s.heap.get? a=some (cS (aT xs ts).toArray m (df c.w xs)))(ha:a∉k.O)(hl:ts.length=xs.length)(hx:xs.Sublist [0,1,2,3])(hI:I∈k.O)(hK:I∉k.K):
  nN c A tg (.ref I) k [] (λ F ds s=>F=[I]∧∃i slot,s.heap.get? I=some (fX slot i (.ref a) xs.length m)∧i≤xs.length∧(cN c.w=false→slot=slotAt xs i)∧ds=D.nats ((l5 c.w a m xs ts).drop i)) where
 det:= λ h h'=>h.1.trans h'.1.symm
 frame:=by
  rintro F V G' ds s s' ⟨rfl,i,slot,fV,r⟩ x S hV _
  exact⟨rfl,i,slot,x.keep _ _ (λ h=>hV _ h (.head _)) fV (bW (by simp)),r⟩
 next:= λ {F ds d s} S hs hB w0=>by
  refine lY w0 ?_;clear w0;intro hF i slot fV hi ni e;subst hF;have hlen:(l5 c.w a m xs ts).length=xs.length:=(jR hl).length_eq;have gE:i<xs.length:=by
   rcases oY i xs.length with h|h
   ·exact h
   ·rw[oQ (by exact af (dg hlen) h)]at e;cases e
  have Og:i<(told c.w a m (aT xs ts).toArray).length:=by unfold l5 at hlen;rw[aE]at hlen;exact D9 hlen gE
  have he:(told c.w a m (aT xs ts).toArray)[i]? =some (told c.w a m (aT xs ts).toArray)[i]:=aq Og;have hd:(l5 c.w a m xs ts).drop i=(told c.w a m (aT xs ts).toArray)[i].1.toNat::(l5 c.w a m xs ts).drop (i+1):=by
   rw[eo (by exact D9 hlen gE)]
   congr 1
   simp[l5]
  rw[hd]at e;refine xe (EA (gb Og)) λ t hv=>?_;have e':d::ds=D.int ((told c.w a m (aT xs ts).toArray)[i].1.toNat:Int)::D.nats ((l5 c.w a m xs ts).drop (i+1)):=e;injection e' with e1 e2
  subst e1;refine w7 fV (hs.obj ha ho eZ) hl hx ni gE he λ h' ie mY eN KW=>⟨_,rfl,?_⟩;have g:aB c [I] [] s {s with heap:=h'}:=SameBut.grow (tk:=s.toks) eN fV (bW (by simp));refine ib mY rfl (by decide) ⟨g,SameBut.br (tk:=s.toks) S eN (hB I (.head _)),[I],rW.refl _ _ _,λ O z z=>by rw[hv];exact⟨t,rfl⟩,rfl,i+1,ie,mY,by trivial,KW,e2⟩
 done:= λ {F s} S hs hB w0=>by
  refine lY w0 ?_;clear w0;intro hF i slot fV hi ni e;subst hF;have hlen:(l5 c.w a m xs ts).length=xs.length:=(jR hl).length_eq;have Qr:i=xs.length:=by
   have:((l5 c.w a m xs ts).drop i).length=0:=by
    have:=congrArg vU e;simpa[D.nats]using this.symm
   rw[vz,hlen]at this;exact Nat.le_antisymm (by assumption) (Nat.le_of_sub_eq_zero this)
  subst Qr;refine dc (w8 hh fV (hs.obj ha ho eZ) hl hx ni λ h' he up=>⟨rfl,ExtBut.grow (tk:=s.toks) up.heap he fV (bW (by simp)),ExtBut.br (tk:=s.toks) S up.heap he (hB I (.head _))⟩)
 self:= λ {A' F ds s} S w0=>by obtain⟨_,i,slot,fV,_⟩:=w0;exact qf fV rfl ⟨rfl,rfl⟩
end
section
variable {c:Cx}{n:Nat}{E:VE}{ρ ρ':List Sl}{O:List Addr}{s:ae}
theorem wz{A:aK}{tg:Expr}{a:Addr}{xs:List Nat}{ts:List Tok}{m:Nat}(K:Ok c O s)(ha:a∉O)(ho:s.heap.get? a=some (cS (aT xs ts).toArray m (df c.w xs)))(hl:ts.length=xs.length)(hx:xs.Sublist [0,1,2,3]):
  wpAny (model c.prog c.w) A (pyIter (.ref a)) (λ it s'=>aB c [] [] s s'∧bF c s'∧iK c n tg O [] s (D.nats (l5 c.w a m xs ts)) it s') aZ s:=by
 have hT:s.TypeIs (.ref a) "set":=⟨_,ho,rfl⟩;have hf:=i0 (w:=c.w) hl hx;have lb:(aT xs ts).toArray.size=xs.length:=by simp[aT,hl]
 refine oO hT j7 (bQ j7 hT nq ?_ (ot _));refine v5 ?_;refine aa (aa (aa (a8 ho rfl hf (ah (ah ?_)))));refine aa (aa (a8 ho rfl hf ?_));refine aa (aa (cQ (ah ?_)));refine ah ?_;rw[if_neg (by
  show¬((!cN c.w&&(!(df c.w xs).plain&&decide ((aT xs ts).toArray.size>1)))=true);simp[df])]
 refine aa (ah (aa (x4 ho rfl hf ?_)));simp only[newFields];refine aa (bo ?_);rw[lb];have g:aB c [] [] s {s with heap:=s.heap.push (fX 0 0 (.ref a) xs.length m)}:=aB.push (tk:=s.toks);have zz:a≠s.heap.objs.size:=dM (aI ho);have hI:(s.heap.push (fX 0 0 (.ref a) xs.length m)).get? s.heap.objs.size=some (fX 0 0 (.ref a) xs.length m):=av _ rfl;refine ah ⟨_,rfl,"set_iterator",_,⟨_,hI,rfl⟩,de.lookup,g,K.br.push (tk:=s.toks),[s.heap.objs.size],[],λ b h=>?_,λ z=>nn,λ A' R'=>
  ⟨_,nN.dm (xs:=xs) (ts:=ts) (a:=a) (m:=m) R'.handled (aA _ ho) (λ h=>?_) hl hx (.head _) (by simp),rfl,0,0,hI,bV _,λ z=>rfl,rfl⟩⟩
 ·rw[aj]at h;subst h;exact⟨az _,by rw[aW];exact aS _⟩
 ·rcases aC.mp h with h|h
  ·exact zz (aj.mp h)
  ·exact ha h
theorem Ib.dm{tg:Expr}{xs:List Nat}:Ib c n tg (.dm xs) (λ ds=>∃ys:List Nat,ys.Perm xs∧ds=D.nats ys):= λ A O s v R K r=>by
 refine bh.sm r ?_;clear r;intro a ts m ha ho hl hx;exact wm (wz K ha ho hl hx) λ it s' q=>⟨q.1,q.2.1,_,⟨_,jR hl,rfl⟩,q.2.2⟩
theorem dW(xs:List Nat):D.nats xs=D.ints (xs.map λ (x:Nat)=>(x:Int)):=by simp[D.nats,D.ints]
theorem EI{A:aK}{s:ae}{a:Addr}(hT:s.TypeIs (.ref a) "set"):wpAny (model c.prog c.w) A (gw (.ref a)) (λ z k_=>k_=s) aZ s:=by
 refine aa (iL hT PySem.F.slot_set_len.lookup ?_);have Ur:splitId "set.__len__"=some ("set","__len__"):=by kernel_rfl
 dsimp only;refine aa (cj (T:="set") hT mi ?_);refine wF ?_;exact aa (f6 hT (ah rfl))
theorem xT{A:aK}{a:Addr}{xs:List Nat}{ts:List Tok}{m:Nat}(R:Rm A (n+2))(K:Ok c O s)(ha:a∉O)(ho:s.heap.get? a=some (cS (aT xs ts).toArray m (df c.w xs)))(hl:ts.length=xs.length)(hx:xs.Sublist [0,1,2,3]):
  wpAny (model c.prog c.w) A (collect (.ref a)) (λ vs s'=>aB c [] [] s s'∧bF c s'∧a0 c.w O s'.heap vs (D.nats (l5 c.w a m xs ts))) aZ s:=by
 have h4:=hx.length_le;simp only[aJ,dp]at h4;have hlen:(D.nats (l5 c.w a m xs ts)).length≤1000:=by
  have:=(jR (w:=c.w) (a:=a) (m:=m) hl).length_eq;simp only[D.nats,aE];exact vi this h4 rfl
 have g1:aB c [] [] s {s with heap:=s.heap.push (bR [] 0)}:=aB.push (tk:=s.toks);have S1:bF c {s with heap:=s.heap.push (bR [] 0)}:=K.br.push (tk:=s.toks);have zD:(s.heap.push (bR [] 0)).get? s.heap.objs.size=some (bR [] 0):=av _ rfl;have K1:Ok c (s.heap.objs.size::O) {s with heap:=s.heap.push (bR [] 0)}:=⟨S1,λ b h=>(aD.mp h).elim (λ h=>h▸aI zD) λ h=>ab (K.lt b h) g1.size,
  λ b h=>(aD.mp h).elim (λ h=>h▸K.br.size) (K.low b)⟩
 have zz:a≠s.heap.objs.size:=dM (aI ho);refine qK (T:="set") K.br.size (.refl ..) K.br ho rfl (by decide) (by decide) hlen (λ s' hT=>EI hT) ?_;refine wm (wz (n:=n) (tg:=.Name "x" default) K1 (λ h=>(aD.mp h).elim zz ha) (aA _ ho) hl hx) λ it aH q=>?_;refine jH q ?_;clear q;intro cF jy hi;refine dj (iK.wk (n:=n) hi cF.size K1.lt (by simp) S1.size λ z=>rfl) λ F G hF hG hi=>?_;refine c0 (hi A.in1 (R.in1.le (by exact bq _))) λ P Kw p=>?_;have Ie:s.heap.objs.size<(s.heap.push (bR [] 0)).objs.size:=aI zD;exact⟨cF,jy,_,_,F,G,P,Kw,p,.refl,.inl (ao _ (.head _)),λ h=>ak _ (ab Ie (hF _ h).1),by simp,λ b hb=>ao _ (.tail _ hb),
  λ b hb=>af g1.size (hF b hb).1,λ e he=>af g1.dv (hG e he).1⟩
theorem AO{xs ys:List Nat}(hp:ys.Perm xs)(hx:xs.Sublist [0,1,2,3]):D.ints (qq (ys.map λ (x:Nat)=>(x:Int)))=D.nats xs:=by
 rw[dW]
 congr 1
 refine(pw (hp.symm.map _) ?_).symm;rw[tE];exact(List.Pairwise.sublist hx (R:=(· < ·)) (by decide)).imp λ h=>by lia
theorem Fn.se{xs:List Nat}:Fn c (n+4) (.builtin "sorted") [.dm xs] [] (.lst (D.nats xs)):= λ A O s vs ks R K ec r'=>by
 refine fz ec λ v r=>?_;refine fH r' ?_;refine bh.sm r ?_;clear r;intro a ts m ha ho hl hx;have h4:=hx.length_le;simp only[aJ,dp]at h4;have hlen:=(jR (w:=c.w) (a:=a) (m:=m) hl).length_eq;have hS:vR c (n+2) [] (D.nats (l5 c.w a m xs ts)) (D.nats xs):=by
  rw[← AO (jR hl) hx,dW];exact vR.ints (by simp;exact P9 hlen h4 rfl)
 exact nW R (λ a h=>⟨K.lt a h,K.low a h⟩) K.br.size (az _) (by simp[D.nats];exact vi hlen h4 rfl) (xT (n:=n) (R.in1.le (by exact bq _)) K ha ho hl hx) hS
end
section
variable {c:Cx}{n:Nat}{E:VE}{ρ ρ':List Sl}{O:List Addr}{s:ae}
theorem Fn.str{a:Int}(ha:a.natAbs<2^60):Fn c n (.type "str") [.int a] [] (.str (toString a)):= λ A O s vs ks R K ec r'=>by
 refine fz ec λ v r=>?_;refine fH r' ?_;refine bh.ef r λ t=>?_;refine PySem.P.str_of_int ?_ (Res.tok K.br qw)
 by_cases h0:a.natAbs=0
 ·rw[h0];decide
 ·exact ab ((Nat.log2_lt h0).mpr ha) (by decide)
theorem gH.PQ{x y:Str}(h:x.length+y.length≤1000):gH c n .Add (.str x) (.str y) (.str (x++y)):= λ A O s eQ eO R K bC bx=>by
 refine bh.ri bC λ t=>?_;refine bh.ri bx λ u=>?_;exact PyProof.Rows.add_str (λ t' tk=>Res.tok K.br qw) (cR h)
theorem Fn.isInt{i:Int}:Fn c n (.builtin "isinstance") [.int i,.lit (.type "int")] [] (.bool true):= λ A O s vs ks R K ec r'=>by
 refine pA ec λ v u r q=>?_;refine fH r' ?_;refine bh.ef r λ t=>?_;subst q;exact call_isinstance_yes (qP s i t) (by kernel_rfl) (by kernel_rfl) (Res.here K.br cO)
end
section
variable {c:Cx}{n:Nat}{E:VE}{ρ ρ':List Sl}{O:List Addr}{s:ae}
theorem a0.rep{w:a9}{h:Heap}{vs:List ag}{ds:List D}(r:a0 w O h vs ds):∀k:Nat,a0 w O h (al k vs).flatten (al k ds).flatten
 |0=>by show a0 w O h [] [];trivial
 |k+1=>by exact r.app (a0.rep r k)
theorem gF.mulL{l r:Expr}{pos:Pos}{ds:List D}{k:Int}(ct:Ev c n E ρ l (.lst ds))(cM:Ev c n E ρ r (.int k))(h0:0≤k)(hk:k≤1000)(hz:ds.length*k.toNat≤1000):gF c n E ρ (.BinOp l .Mult r pos) (.lst (al k.toNat ds).flatten):= λ A β O ad s R I=>
 wpAny_BinOp (ct.go R I λ v au cZ bj bC=>cM.go R bj λ u aH cF cu bx=>by
  have bC:=cF.rep0 bC;obtain⟨a,vs,rfl,ha,⟨⟨cls,d,data,sl⟩,m,ho,uD,xK,hd⟩,q⟩:=bC;refine bh.ef bx λ t=>?_;simp only at uD xK hd;subst uD xK hd;have D_:=q.length;have h9:vs.length*k.toNat≤1000:=by rw[D_];exact hz
  have N0:vs.toArray.size*k.toNat≤1000:=by trivial
  refine wpAny_binaryOp_repeat_ref (T:="list") (U:="int") (by decide) ⟨_,ho,rfl⟩ (λ s'=>qP s' k t) noFill_list_mul PySem.F.fills_int_mul AD repeat_list PySem.F.slot_int_index.lookup
   (DP AD (qP aH k t) PySem.F.entry_int_rmul (PySem.F.args_int_rmul_2 _ _) (lm_int_rmul_list_any k t a vs.toArray m none sl)
    ⟨ho,rfl,⟨_,ho,rfl⟩,DP PySem.F.slot_list_mul ⟨_,ho,rfl⟩ PySem.F.entry_list_mul (PySem.F.args_list_mul_2 _ _)
     (lm_list_mul_any a vs.toArray m none sl k t (by simp[Builtin.List.listFitsIndex];lia) (by lia) (by simp[Builtin.List.listTooLong,sizeLine];exact af h9 (aG _ _)))
     ⟨ho,?_⟩⟩)
  rw[listMul_foldl_if];have hq:=q.rep k.toNat;have jy:=cu.br;refine⟨[aH.heap.objs.size],(cZ.trans cF).trans (aB.push (tk:=aH.toks)),jy.push (tk:=aH.toks),⟨_,(al k.toNat vs).flatten,rfl,rfl,⟨_,0,av _ rfl,rfl,rfl,rfl⟩,?_⟩,λ b hb=>?_⟩
  ·exact(aB.push (c:=c) (G:=[]) (tk:=aH.toks)).fk (O:=O) (λ z=>nn) (λ b h=>(aC.mp h).elim (λ h=>.inr (by rw[aj]at h;exact h▸az _)) .inl) hq
  ·rw[aj]at hb;subst hb;exact⟨(cZ.trans cF).size,by rw[aW];exact aS _⟩)
end
section
variable {c:Cx}{n:Nat}{E:VE}{ρ ρ':List Sl}{O:List Addr}{s:ae}
theorem Kd{p:Program}{w:a9}{h:Heap}{a:Addr}{xs:List Nat}{ts:List Tok}{m:Nat}(ho:h.get? a=some (cS (aT xs ts).toArray m (df w xs)))(hl:ts.length=xs.length)(hx:xs.Sublist [0,1,2,3]):
  h.SetOf (intKind p w) a (λ k=>xs.any λ x=>decide ((x:Int)=k)) xs.length:=by
 have h4:=hx.length_le;simp only[aJ,dp]at h4;have lb:(aT xs ts).toArray.size=xs.length:=by simp[aT,hl]
 refine⟨_,_,_,_,ho,⟨rfl,rfl,rfl⟩,rfl,uK hx,λ k=>?_,by rw[lb];show xs.length<4096;exact LZ h4 rfl,i0 hl hx,lb⟩;rw[iW];constructor
 ·rintro⟨x,G5,hk⟩
  have hk:=of_decide_eq_true hk;obtain⟨i,hi,rfl⟩:=qc.mp G5;refine⟨((xs[i]:Int),.int (xs[i]:Int) (ts[i]'(by exact D9 hl hi))),?_,?_⟩
  ·show _∈aT xs ts;simp only[aT,aL];exact⟨(xs[i],ts[i]'(by lia)),qc.mpr ⟨i,by simp;exact KD hl hi,by simp⟩,rfl⟩
  ·subst hk;exact qQ _ _ _ _
 ·rintro⟨e,he,hk⟩
  have he:e∈aT xs ts:=he;simp only[aT,aL]at he;obtain⟨q,hq,rfl⟩:=he;refine⟨q.1,(js hq).1,?_⟩;have hk:vp k (.int (q.1:Int) q.2)=true:=hk;simp only[vp,beq_iff_eq]at hk;trivial
theorem cC.inSet{x:Nat}{xs:List Nat}:cC c n .In (.int (x:Int)) (.dm xs) (decide (x∈xs)):= λ A O s eQ eO R K bC bx=>by
 refine bh.ef bC ?_;clear bC;intro t;refine bh.sm bx ?_;clear bx;intro a ts m ha ho hl hx;refine wpAny_inSet_of (knd:=intKind c.prog c.w) (k:=(x:Int)) (qQ _ _ _ _) rfl (Kd ho hl hx) ?_;have e:(xs.any λ y=>decide ((y:Int)=(x:Int)))=decide (x∈xs):=by
  rw[o6,iW];simp only[decide_eq_true_eq];exact⟨λ ⟨y,hy,e⟩=>by have:y=x:=(by lia);exact this▸hy,λ h=>⟨x,h,rfl⟩⟩
 rw[e];exact Res.tok K.br cO
end
section
variable {c:Cx}{n:Nat}{E:VE}{ρ ρ':List Sl}{O:List Addr}{s:ae}
theorem yu{vs:List ag}{xs:List Str}(q:oL vs xs):∃l:List (Str×Tok),vs=strValues l∧l.map (·.1)=xs:=by
 induction q with
 |nil=>exact⟨[],rfl,rfl⟩
 |cons x t _ ih=>
  obtain⟨l,rfl,rfl⟩:=ih;exact⟨(x,t)::l,rfl,rfl⟩
theorem Ev.join{o e:Expr}{apos pos:Pos}{sep:Str}{xs:List Str}(ct:Ev c n E ρ o (.str sep))(cM:Ev c n E ρ e (.lst (xs.map D.str)))(hj:JoinOk sep xs=true)(i_:autoParam (attributeBase o "join" E.env (eval o E.env)=eval o E.env) rf)(hs:autoParam (starEach [e] E.env=[(false,eval e E.env)]) rf)(iP:autoParam ((apos.endLine==pos.line)=true) rf):
  Ev c n E ρ (.Call (.Attribute o "join" apos) [e] [] pos) (.str (Txt.join sep xs)):= λ A β O ad s R I=>
 Call_method1 i_ hs iP (ct.go R I λ v au cZ bj bC=>by
  refine bh.ri bC ?_;clear bC;intro t;refine SB.join (cM.go R bj λ u aH cF cu bx=>?_);refine bh.n7 bx ?_;clear bx;intro a vs ha hl q;refine c0 (yu (tY q)) λ l z1 e=>?_;subst z1;exact⟨a,l,rfl,hl.isList,xs,e,hj,λ t' k=>Res.after (cZ.trans cF) (Res.tok cu.br qw)⟩)
end
noncomputable def lH{α:Type}(n:Nat)(lt:Nat→Nat→Bool):KasT α→Option α
 |.ret a=>some a
 |.ask i j k=>if i<n∧j<n then lH n lt (k (lt i j))else none
theorem rG{α:Type}{n:Nat}{lt:Nat→Nat→Bool}{cmp:Nat→Nat→(Bool→ae→Prop)→ae→Prop}{s:ae}{Q:α→ae→Prop}(hc:∀i j C,i<n→j<n→C (lt i j) s→cmp i j C s):∀(t:KasT α) (a:α),lH n lt t=some a→Q a s→t.kasWp cmp Q s
 |.ret a,b,e,h=>by cases e;exact h
 |.ask i j k,b,e,h=>by
  replace e:(if i<n∧j<n then lH n lt (k (lt i j))else none)=some b:=e
  by_cases rJ:i<n∧j<n
  ·rw[if_pos rJ]at e;exact hc i j _ rJ.1 rJ.2 (rG hc (k (lt i j)) b e h)
  ·rw[if_neg rJ]at e;cases e
theorem qD{α:Type}{n:Nat}{lt lt':Nat→Nat→Bool}(h:∀i j,i<n→j<n→lt i j=lt' i j):∀t:KasT α,lH n lt t=lH n lt' t
 |.ret _=>rfl
 |.ask i j k=>by
  show(if i<n∧j<n then lH n lt (k (lt i j))else none)=if i<n∧j<n then lH n lt' (k (lt' i j))else none
  by_cases rJ:i<n∧j<n
  ·rw[if_pos rJ,if_pos rJ,h i j rJ.1 rJ.2];exact qD h _
  ·rw[if_neg rJ,if_neg rJ]
noncomputable def tm:List Nat→List (List Nat)
 |[]=>[[]]
 |x::xs=>(tm xs).flatMap λ p=>(ay (p.length+1)).map λ i=>p.take i++x::p.drop i
noncomputable def xh(r:List Nat):Bool:=match lH r.length (λ i j=>decide (r.getD i 0<r.getD j 0)) (pU r.length)with
 |some p=>p.toList.map (λ i=>r.getD i 0)==ay r.length&&p.toList.all λ i=>decide (i<r.length)
 |none=>false
theorem Kc:∀n,n≤6→∀r∈tm (ay n),xh r=true:=by
 intro n hn;have:∀n∈ay 7,∀r∈tm (ay n),xh r=true:=by decide +kernel
 exact this n (aM.mpr (by exact cY hn))
section
variable {c:Cx}{n:Nat}{E:VE}{ρ ρ':List Sl}{O:List Addr}{s:ae}
noncomputable def Ba:List Int→List Int→Bool
 |[],[]=>false
 |[],_::_=>true
 |_::_,[]=>false
 |x::xs,y::ys=>if x=y then Ba xs ys else decide (x<y)
theorem Fl(x y:Int)(xs ys:List Int):Ba (x::xs) (y::ys)=if x=y then Ba xs ys else decide (x<y):=rfl
theorem uv{vs:List ag}{i:Nat}(h:fb (vs.drop i) []):vs[i]? =none∧vs.length≤i:=by
 have:vs.drop i=[]:=by cases hd:vs.drop i with
  |nil=>rfl
  |cons _ _=>rw[hd]at h;cases h
 have:=Em.mp this;exact⟨bk this,this⟩
theorem ints_cons{vs:List ag}{i:Nat}{x:Int}{xs:List Int}(h:fb (vs.drop i) (x::xs)):∃t,vs[i]? =some (.int x t)∧fb (vs.drop (i+1)) xs∧i<vs.length:=by
 cases hd:vs.drop i with
 |nil=>rw[hd]at h;cases h
 |cons v r=>
  rw[hd]at h;have gE:i<vs.length:=by
   rcases oY i vs.length with q|q
   ·exact q
   ·rw[oQ q]at hd;cases hd
  rw[eo gE]at hd;injection hd with e1 e2
  cases h with
  |cons _ t q=>
   rw[← e2]at q;exact⟨t,by rw[aq gE,e1],q,gE⟩
theorem H0{p:Program}{w:a9}{A:aK}{R:iw→ae→Prop}{a b:Addr}{oa ob:Obj}{vs us:List ag}{m k:Nat}{s:ae}(ha:s.heap.get? a=some oa)(da:oa.data=.seq vs.toArray m)(hb:s.heap.get? b=some ob)(db:ob.data=.seq us.toArray k):
  ∀(xs ys:List Int) (i:Nat),i≤vs.length→i≤us.length→fb (vs.drop i) xs→fb (us.drop i) ys→R (.ok (.ret (.bool (Ba xs ys)))) s→
  codeAny (model p w) A (.builtin "list.__eq__.loop" ⟨[.ref a,.ref b,rawInt i,rawInt 0],[]⟩) R s:=by
 have short:∀(i:Nat) (r:Bool),(vs[i]? =none∨us[i]? =none)→R (.ok (.ret (.bool (decide (vs.length<us.length))))) s→codeAny (model p w) A (.builtin "list.__eq__.loop" ⟨[.ref a,.ref b,rawInt i,rawInt 0],[]⟩) R s:=by
  intro i r hn h;refine bf w3 ?_;show wpAny _ A.in1 (ja (.ref a)>>=_) _ _ s;refine aa (fw ha da ?_);refine aa (fw hb db ?_);have h1:vs.toArray[((i:Int)).toNat]? =vs[i]? :=by simp
  have h2:us.toArray[((i:Int)).toNat]? =us[i]? :=by simp
  have fin:wpAny (model p w) A.in1 (do
    let xs ← ja (.ref a)
    let ys ← ja (.ref b)
    ret (.bool (decide (xs.size<ys.size)))) (λ fin s'=>match fin with
     |.done f=>R (.ok f) s'
     |.again c'=>c'.quiet=true∧codeAny (model p w) A c' R s') (λ e s'=>R (.error e) s') s:=by
   refine aa (fw ha da ?_);refine aa (fw hb db ?_);exact ah (by trivial)
  rw[h1,h2]
  rcases hn with q|q
  ·rw[q];exact fin
  ·rw[q];cases vs[i]? <;>exact fin
 intro xs
 induction xs with
 |nil=>
  intro ys i hi hj hx hy h;refine xa (uv hx) λ e1 l1=>?_;refine short i true (.inl e1) ?_;cases ys with
  |nil=>
   refine xa (uv hy) λ z l2=>?_;rw[decide_eq_false (by lia)];exact h
  |cons y ys=>
   refine cI (ints_cons hy) λ z z z l2=>?_;rw[decide_eq_true (by exact b9 l1 l2)];exact h
 |cons x xs ih=>
  intro ys i hi hj hx hy h;refine cI (ints_cons hx) λ t e1 q1 l1=>?_;cases ys with
  |nil=>
   refine xa (uv hy) λ e2 l2=>?_;refine short i true (.inr e2) ?_;rw[decide_eq_false (by lia)];exact h
  |cons y ys=>
   refine cI (ints_cons hy) λ u e2 q2 l2=>?_;refine bf w3 ?_;show wpAny _ A.in1 (ja (.ref a)>>=_) _ _ s;refine aa (fw ha da ?_);refine aa (fw hb db ?_);have h1:vs.toArray[((i:Int)).toNat]? =some (.int x t):=by simpa using e1
   have h2:us.toArray[((i:Int)).toNat]? =some (.int y u):=by simpa using e2
   rw[h1,h2];refine aa (wpAny_eqBool_int ?_);rw[Fl]at h
   by_cases L7:x=y
   ·rw[if_pos L7]at h;rw[if_pos (by simp[L7])];exact ah ⟨bT w2 _,ih ys (i+1) (by trivial) (by trivial) q1 q2 h⟩
   ·rw[if_neg L7]at h;rw[if_neg (by simp[L7])];refine aa (fw ha da ?_);refine aa (fw hb db ?_);rw[h1,h2];refine aa (show wpAny _ _ (compareOp .Lt (.int x t) (.int y u)) _ _ _ from lt_int ?_);exact ah h
end
section
variable {c:Cx}{n:Nat}{E:VE}{ρ ρ':List Sl}{O:List Addr}{s:ae}
theorem tX:isSubtype (.type "list") (.type "list")=pure true:=by kernel_rfl
theorem xX{p:Program}{w:a9}{A:aK}{X:ag→ae→Prop}{a b:Addr}{oa ob:Obj}{vs us:List ag}{m k:Nat}{s:ae}{xs ys:List Int}{Q:ag→ae→Prop}(ha:s.heap.get? a=some oa)(ca:oa.cls=.type "list")(da:oa.data=.seq vs.toArray m)(hb:s.heap.get? b=some ob)(cb:ob.cls=.type "list")(db:ob.data=.seq us.toArray k)(hx:fb vs xs)(hy:fb us ys)(h:Q (.bool (Ba xs ys)) s):wpAny (model p w) A (call (.builtin "list.__lt__") [.ref a,.ref b]) Q X s:=by
 have hT:s.TypeIs (.ref a) "list":=⟨_,ha,ca⟩;have Ee:s.TypeIs (.ref b) "list":=⟨_,hb,cb⟩;refine kg (f9 o7.plain PySem.F.entry_list_lt (o7.check _ _ _ _ _ _ _ _ hT (PySem.F.args_list_lt_2 _ _) ?_));show wpAny _ _ (isInstance (.ref b) (.type "list")>>=_) _ _ s;refine aa (cj (T:="list") Ee tX ?_);refine wF ?_;refine ah ⟨bT w2 _,?_⟩;exact H0 ha da hb db xs ys 0 (bV _) (bV _) (by trivial) (by trivial) h
theorem Fp{p:Program}{w:a9}{A:aK}{X:ag→ae→Prop}{a b:Addr}{oa ob:Obj}{vs us:List ag}{m k:Nat}{s:ae}{xs ys:List Int}{Q:Bool→ae→Prop}(hu:A.units<cLine)(ha:s.heap.get? a=some oa)(ca:oa.cls=.type "list")(da:oa.data=.seq vs.toArray m)(hb:s.heap.get? b=some ob)(cb:ob.cls=.type "list")(db:ob.data=.seq us.toArray k)(hx:fb vs xs)(hy:fb us ys)(h:Q (Ba xs ys) s):wpAny (model p w) A (keyLt' oneType' (.ref a) (.ref b)) Q X s:=by
 rw[keyLt'_oneType,oneLt'_eq];refine wT ?_;refine aa (wpAny_cRoomFor hu ?_);refine aa (wpAny_callSpecialIfBound?_slot ⟨_,ha,ca⟩ o7 (xX ha ca da hb cb db hx hy ?_));exact iV h
end
theorem yR{l p:List Nat}(h:p.Perm l):p∈tm l:=by
 induction l generalizing p with
 |nil=>rw[List.perm_nil.mp h];exact .head _
 |cons x xs ih=>
  refine iB (List.append_of_mem (h.mem_iff.mpr (.head _))) λ a b e=>?_;subst e;exact kZ.mpr ⟨a++b,ih ((List.perm_cons x).mp (List.perm_middle.symm.trans h)),aL.mpr ⟨a.length,aM.mpr (by rw[aY];exact kq (cE _ _)),by simp⟩⟩
theorem A_(x:List Int):Ba x x=false:=by
 induction x with
 |nil=>rfl
 |cons x xs ih=>rw[Fl,if_pos rfl];exact ih
theorem Dh{x y:List Int}(h:Ba x y=true):Ba y x=false:=by
 induction x generalizing y with
 |nil=>cases y with|nil=>exact bE h|cons=>rfl
 |cons x xs ih=>
  cases y with
  |nil=>exact bE h
  |cons y ys=>
   rw[Fl]at h⊢
   by_cases e:x=y
   ·subst e;rw[if_pos rfl]at h⊢;exact ih h
   ·rw[if_neg e]at h;rw[if_neg (λ q=>e q.symm)];exact decide_eq_false (s5.mpr (bL (of_decide_eq_true h)))
theorem Ia{α:Type}[BEq α][LawfulBEq α]{lt:α→α→Bool}(Qd:∀x,lt x x=false)(TI:∀{x y},lt x y=true→lt y x=false){ys:List α}(hs:ys.Pairwise λ x y=>lt x y=true){x y:α}(hx:x∈ys)(hy:y∈ys):lt x y=decide (ys.idxOf x<ys.idxOf y):=by
 have wA:=dU hx;have Ii:=dU hy;have ex:ys[ys.idxOf x]=x:=gK wA;have ey:ys[ys.idxOf y]=y:=gK Ii;have h:=Ai.mp hs
 rcases vd (ys.idxOf x) (ys.idxOf y)with q|q|q
 ·have:=h _ _ wA Ii q;rw[ex,ey]at this;rw[this,decide_eq_true q]
 ·have:x=y:=by rw[← ex,← ey];simp[q]
  subst this;rw[Qd,decide_eq_false (ak _)]
 ·have:=h _ _ Ii wA q;rw[ex,ey]at this;rw[TI this,decide_eq_false (Nat.not_lt.mpr (bX q))]
theorem uo{α:Type}[BEq α][LawfulBEq α]{lt:α→α→Bool}(Qd:∀x,lt x x=false)(TI:∀{x y},lt x y=true→lt y x=false){xss ys:List α}(z:α)(hp:ys.Perm xss)(hs:ys.Pairwise λ x y=>lt x y=true)(h6:xss.length≤6):
  ∃p,lH xss.length (λ i j=>lt (xss.getD i z) (xss.getD j z)) (pU xss.length)=some p∧p.toList.map (λ i=>xss.getD i z)=ys∧∀i∈p.toList,i<xss.length:=by
 have hl:=hp.length_eq;have xI:ys.Nodup:=hs.imp λ {a b} h e=>by subst e;rw[Qd]at h;cases h
 have pF:∀i (h:i<xss.length),xss[i]∈ys:= λ i h=>hp.mem_iff.mpr (gb h);have hr:(xss.map λ x=>ys.idxOf x).Perm (ay xss.length):=by
  refine(hp.symm.map _).trans (List.Perm.of_eq ?_);rw[← hl];refine vB (by simp) λ i h1 h2=>?_;simp only[List.getElem_map,List.getElem_range];exact List.Nodup.idxOf_getElem xI i (by simpa using h1)
 have Ww:(xss.map λ x=>ys.idxOf x).length=xss.length:=by exact aE _
 have key:=Kc xss.length h6 _ (yR hr);unfold xh at key;rw[Ww]at key;have F6:∀i,i<xss.length→(xss.map λ x=>ys.idxOf x).getD i 0=ys.idxOf (xss.getD i z):= λ i h=>by simp[h]
 rw[qD (lt':= λ i j=>lt (xss.getD i z) (xss.getD j z)) (λ i j hi hj=>by
  rw[F6 i hi,F6 j hj];have e1:xss.getD i z=xss[i]:=by simp[hi]
  have e2:xss.getD j z=xss[j]:=by simp[hj]
  rw[e1,e2];exact(Ia Qd TI hs (pF i hi) (pF j hj)).symm)]at key
 cases hk:lH xss.length (λ i j=>lt (xss.getD i z) (xss.getD j z)) (pU xss.length)with
 |none=>rw[hk]at key;cases key
 |some p=>
  rw[hk]at key;simp only[bg,beq_iff_eq,bD,decide_eq_true_eq]at key;obtain⟨k1,k2⟩:=key;refine⟨p,rfl,?_,k2⟩;have e1:p.toList.map (λ i=>xss.getD i z)=(p.toList.map λ i=>(xss.map λ x=>ys.idxOf x).getD i 0).map λ j=>ys.getD j z:=by
   rw[bK];refine ck λ i hi=>?_;have gE:=k2 i hi;simp only[Function.comp];rw[F6 i gE];have e2:xss.getD i z=xss[i]:=by simp[gE]
   rw[e2];have wA:=dU (pF i gE);have:ys[ys.idxOf xss[i]]=xss[i]:=gK wA;rw[ai,aq wA,this];rfl
  rw[e1,k1,← hl];refine vB (by simp) λ i h1 h2=>?_;simp[h2]
theorem Dj{xss ys:List (List Int)}(hp:ys.Perm xss)(hs:ys.Pairwise λ x y=>Ba x y=true)(h6:xss.length≤6):
  ∃p,lH xss.length (λ i j=>Ba (xss.getD i []) (xss.getD j [])) (pU xss.length)=some p∧p.toList.map (λ i=>xss.getD i [])=ys∧∀i∈p.toList,i<xss.length:=
 uo A_ Dh [] hp hs h6
section
variable {c:Cx}{n:Nat}{E:VE}{ρ ρ':List Sl}{O:List Addr}{s:ae}
theorem qF{w:a9}{h:Heap}:∀{vs:List ag} {xss:List (List Int)},a0 w O h vs (D.jl xss)→∀i,i<xss.length→∃a us,vs.getD i .none=.ref a∧eB h a us.toArray∧fb us (xss.getD i [])
 |[],[],_,i,hi=>by simp at hi
 |v::vs,x::xss,r,i,hi=>by
  have r:a0 w O h (v::vs) (.lst (D.ints x)::D.jl xss):=r;refine xa r ?_;clear r;intro r1 r2;cases i with
  |zero=>
   refine bh.n7 r1 ?_;clear r1;intro a us z hl q;exact⟨a,us,rfl,hl,mA q⟩
  |succ i=>
   refine dj (qF r2 i (by simpa using hi)) λ a us e hl q=>?_;exact⟨a,us,by trivial,hl,by trivial⟩
 |[],_::_,r,_,_=>by have:=r.length;trivial
 |_::_,[],r,_,_=>by have:=r.length;trivial
theorem wj{w:a9}{h:Heap}{vs:List ag}{xss:List (List Int)}(r:a0 w O h vs (D.jl xss)):∀p:List Nat,(∀i∈p,i<xss.length)→a0 w O h (p.map λ i=>vs.getD i .none) (D.jl (p.map λ i=>xss.getD i []))
 |[],_=>by show a0 w O h [] [];trivial
 |i::p,hp=>by
  show a0 w O h (vs.getD i .none::_) (.lst (D.ints (xss.getD i []))::D.jl (p.map λ i=>xss.getD i []));refine⟨?_,wj r p λ j hj=>hp j (.tail _ hj)⟩;have hi:=hp i (.head _);have:=r.getD i (by simpa[D.jl]using hi);have e:(D.jl xss).getD i .none=.lst (D.ints (xss.getD i [])):=by simp[D.jl,hi]
  rwa[e]at this
end
section
variable {c:Cx}{n:Nat}{E:VE}{ρ ρ':List Sl}{O:List Addr}{s:ae}
theorem Ev.gl{x:Str}{p:Pos}{v:ag}(hx:E.env.kindOf x=some .globalImplicit)(hg:cX c x v)(hd:autoParam ((x==("__debug__":Str))=false) rf):Ev c n E ρ (.Name x p) (.lit v):= λ A β O ad s R I=>
 iN I hx hg hd (Res.here I.br (by rfl))
theorem Ev.gd{x:Str}{p:Pos}{v:ag}{d:D}(hx:E.env.kindOf x=some .globalImplicit)(hg:cX c x v)(hr:∀O s,Ok c O s→bh c.w O s.heap v d)(hd:autoParam ((x==("__debug__":Str))=false) rf):Ev c n E ρ (.Name x p) d:= λ A β O ad s R I=>
 iN I hx hg hd (Res.here I.br (hr O s I.o))
noncomputable def sh(K:Frag)(D:Addr):Bool:=plainGet K D "__class__"&&hasDictIn K D&&findIn K (.ref D) "__class__"==some (some (.builtin "object.__class__"))&&
 specialIn K (.builtin "object.__class__") "__get__"==some (some (.builtin "getset_descriptor.__get__"))&&takesIn K (.builtin "object.__class__")==some true&&mroIn K D (.type "object")==some true
theorem B8{K:Frag}{x D:Addr}{ox od:Obj}(h:sh K D=true):KitX K (.ref x) (.ref D) (λ h=>InstAt h x ox D (some od)):=by
 unfold sh at h;simp only[bg,beq_iff_eq]at h;refine xa h ?_;clear h;intro y1 h6;refine xa y1 ?_;clear y1;intro y2 h5;refine xa y2 ?_;clear y2;intro y3 h4;refine xa y3 ?_;clear y3;intro y4 h3;refine xa y4 ?_;clear y4;intro h1 h2;exact kitx_own h1 h2 h3 h4 h5 h6
theorem Fn.jk{i:Int}{cv:ag}{b:Bool}(e:kitOne c.K (.type "int") cv=some b):Fn c n (.builtin "isinstance") [.int i,.lit cv] [] (.bool b):= λ A O s vs ks R K ec r'=>by
 refine pA ec λ v u r q=>?_;refine fH r' ?_;refine bh.ef r λ t=>?_;subst q;exact kia_one kitx_int K.br.fZ trivial e (by simp) λ tk=>Res.tok K.br cO
theorem rp{w:a9}{h:Heap}:∀{vs us:List ag},a0 w O h vs (us.map D.lit)→vs=us
 |[],[],_=>rfl
 |v::vs,u::us,r=>by
  have r:a0 w O h (v::vs) (.lit u::us.map D.lit):=r;rw[r.1,rp r.2]
 |[],_::_,r=>by have:=r.length;trivial
 |_::_,[],r=>by have:=r.length;trivial
theorem Fn.oe{i:Int}{Pu:List ag}{b:Bool}(e:kitAny c.K (.type "int") Pu=some b):Fn c n (.builtin "isinstance") [.int i,.tup (Pu.map D.lit)] [] (.bool b):= λ A O s vs ks R K ec r'=>by
 refine pA ec λ v u r q=>?_;refine fH r' ?_;refine bh.ef r ?_;clear r;intro t;refine bh.ql q ?_;clear q;intro a us z y2 q;refine nO y2 ?_;clear y2;intro o ho hc m hd;cases rp q;obtain⟨cl,dd,dt,sl⟩:=o;simp only at hc hd;subst hc;subst hd;exact kia_tup kitx_int K.br.fZ trivial ho e (by simp) λ tk=>Res.tok K.br cO
theorem Fn.gm{C:Addr}{fs:List (Str×D)}{cv:ag}{b:Bool}(own:sh c.K C=true)(e:kitOne c.K (.ref C) cv=some b):Fn c n (.builtin "isinstance") [.inst C fs,.lit cv] [] (.bool b):= λ A O s vs ks R K ec r'=>by
 refine pA ec λ v u r q=>?_;refine fH r' ?_;refine bh.qH r ?_;clear r;intro a dx es m ps z z h1 h2 z z;subst q;exact kia_one (B8 own) K.br.fZ (iI h1 h2) e (by simp) λ tk=>Res.tok K.br cO
theorem Fn.Dk{C:Addr}{fs:List (Str×D)}{Pu:List ag}{b:Bool}(own:sh c.K C=true)(e:kitAny c.K (.ref C) Pu=some b):Fn c n (.builtin "isinstance") [.inst C fs,.tup (Pu.map D.lit)] [] (.bool b):= λ A O s vs ks R K ec r'=>by
 refine pA ec λ v u r q=>?_;refine fH r' ?_;refine bh.qH r ?_;clear r;intro x dx es m ps z z h1 h2 z z;refine bh.ql q ?_;clear q;intro a us z y2 q;refine nO y2 ?_;clear y2;intro o ho hc m hd;cases rp q;obtain⟨cl,dd,dt,sl⟩:=o;simp only at hc hd;subst hc;subst hd;exact kia_tup (B8 own) K.br.fZ (iI h1 h2) ho e (by simp) λ tk=>Res.tok K.br cO
theorem ez.flat{w:a9}{O O':List Addr}{h:Heap}:∀{ps:List (Str×ag)} {fs:List (Str×D)},fs.all (λ p=>p.2.flat)=true→ez w O h ps fs→ez w O' h ps fs
 |[],[],_,_=>by trivial
 |p::ps,q::qs,hf,r=>by
  rw[List.all_cons,bg]at hf;exact⟨r.1,bh.flat hf.1 r.2.1,ez.flat hf.2 r.2.2⟩
 |[],_::_,_,r=>r.elim
 |_::_,[],_,r=>r.elim
theorem mI.Tf{f:ag}{ds:List D}{kws:List (Str×D)}{u:Option Addr}{C:Addr}{fs:List (Str×D)}(h:mI c n f ds kws (.inst u C fs))(hf:fs.all (λ p=>p.2.flat)=true):P2 c n f ds kws (.inst C fs):= λ A O s vs ks R K r r'=>
 wm (h A O s vs ks R K r r') λ v s' q=>by
  refine eE q ?_;clear q;intro fp g S r jx;refine⟨g,S,λ O' Dy=>?_⟩;refine iB r ?_;clear r;intro a dx zh;refine c_ zh ?_;clear zh;intro es n ps z1 z2 zh;refine cg zh ?_;clear zh;intro hu ku e zh;refine cg zh ?_;clear zh;intro e' hz hm r;subst z1;subst z2;have no:∀b∈[a,dx],b∉O':= λ b ha hb=>ak _ (ab (Dy b hb) (jx b ha).1);exact⟨a,dx,es,n,ps,rfl,no a (.head _),no dx (.tail _ (.head _)),e,e',hm,ez.flat hf r⟩
end
section
variable {c:Cx}{n:Nat}{E:VE}{ρ ρ':List Sl}{O:List Addr}{s:ae}
variable {A:aK}{tg:Expr}{it:ag}{k:Snap}{F F':List Addr}{G:List Nat}{P:List Addr→List D→ae→Prop}
noncomputable def rB{α:Type}(lt:α→α→Bool):α→List α→α
 |b,[]=>b
 |b,x::xs=>rB lt (if lt x b then x else b) xs
theorem Fg{α:Type}(lt:α→α→Bool)(b x:α)(xs:List α):rB lt b (x::xs)=rB lt (if lt x b then x else b) xs:=rfl
theorem yV{α:Type}{lt:α→α→Bool}:∀{xs:List α} {b:α},rB lt b xs∈b::xs
 |[],b=>by exact .head _
 |x::xs,b=>by
  have:=yV (lt:=lt) (xs:=xs) (b:=if lt x b then x else b);rw[Fg]
  rcases aD.mp this with h|h
  ·rw[h];split
   ·exact .tail _ (.head _)
   ·exact .head _
  ·exact .tail _ (.tail _ h)
theorem Ok.nil(S:bF c s):Ok c [] s:=⟨S,λ z=>nn,λ z=>nn⟩
theorem Ff{α:Type}{f:α→D}{lt:α→α→Bool}{m:Nat}(R:Rm A.in1 m){S:Addr}(zB:c.B≤S)(zA:k.s.heap.objs.size≤S)(Ef:S∉k.K):∀(xs:List α) (b:α) (F:List Addr) (s:ae) (vb:ag) (e:Nat),Wk c A.in1 tg it k F G P→S∉F→bF c s→cB c k s→P F (xs.map f) s→
  s.heap.get? S=some (bR [vb,vb] e)→bh c.w (S::(F++k.O)) s.heap vb (f b)→(∀x∈b::xs,∀y∈b::xs,cC c m .Lt (f x) (f y) (lt x y))→
  codeAny (model c.prog c.w) A (.builtin "min.loop" ⟨[it,.none,.ref S],[]⟩) (λ r s'=>∃v,r=.ok (.ret v)∧aB c (S::F) G s s'∧bF c s'∧bh c.w (S::k.O) s'.heap v (f (rB lt b xs))) s:=by
 intro w
 induction w with
 |nil=>
  intro b F s vb e K sy St hs p hS r j;refine bf nL ?_;show wpAny _ A.in1 (seqItems? (.ref S)>>=_) _ _ s;refine aa (gX hS rfl ?_);show wpAny _ A.in1 (tryCatch (pyNext it) _>>=_) _ _ s;refine aa (je (wm (K.T.done St hs K.hB p) λ r' au q=>?_));refine jH q ?_;clear q;intro z1 x S';subst z1;have vm:=x.keep _ _ sy hS (c8 rfl);show wpAny _ A.in1 (updateSeq S (λ j=> #[])>>=_) _ _ _;refine aa (ff vm rfl (aa (jd (ah ?_))));have g2:aB c [S] [] au {au with heap:=au.heap.update S (aO λ j=> #[])}:=dR (tk:=au.toks) vm (c8 rfl);refine⟨_,rfl,(x.mono (λ a h=>.inl (.tail _ h)) λ j h=>.inl h).trans (g2.mono (λ a h=>.inl (by obtain rfl:=m1 h;exact .head _)) λ j=>nn),e_ (tk:=au.toks) S' zB,?_⟩;exact g2.rep (O:=S::k.O) (λ a h=>.inl (by obtain rfl:=m1 h;exact .head _)) (nM.refl _ _) (x.rep (O:=S::(F++k.O)) v3 (λ a h=>.inl ((aD.mp h).elim (λ h=>h▸ .head _) λ h=>.tail _ (ao _ h))) r)
 |cons x xs ih=>
  intro b F s vb e K sy St hs p hS r hc;refine bf nL ?_;show wpAny _ A.in1 (seqItems? (.ref S)>>=_) _ _ s;refine aa (gX hS rfl ?_);show wpAny _ A.in1 (tryCatch (pyNext it) _>>=_) _ _ s;refine aa (je (wm (K.step St hs p) λ r au q=>?_));refine c0 q ?_;clear q;intro v z1 q;subst z1;refine q _ _ _ _ λ s' F' g S' eN hu K' rv p'=>?_;have pH:=hu.not sy (aI hS);have hz:S<s.heap.objs.size:=aI hS;have rv:=K'.rep hs rv (.inr zA) hz;have rb:=g.rep v3 (E6 hu) r;have vm:=g.keep _ _ sy hS (c8 rfl);have MJ:∀{y:α},y∈b::xs→y∈b::x::xs:= λ hy=>(aD.mp hy).elim (λ h=>h▸ .head _) λ h=>.tail _ (.tail _ h);have less:∀{v:ag} {d:D} {h:Heap},bh c.w (S::(F'++k.O)) h v d→bh c.w [] h v d:= λ r=>bh.kept (O':=[]) (.refl _ _) (λ j=>nn) r;show wpAny _ A.in1 (tryCatch (holding [v,v] (richCompare .Lt v vb>>=_)) _>>=_) _ _ _;refine aa (je (aV (aa ?_)));have cm:=hc x (.tail _ (.head _)) b (.head _) A.in1 [] s' v vb R (Ok.nil S') (less rv) (less rb);refine wm (show wpAny _ _ (richCompare .Lt v vb) _ _ _ from cm) λ u aH q=>?_;refine jH q ?_;clear q;intro g2 S2 ru;subst ru;refine aa (aV (iV ?_));refine aa (jd (ah ?_));have zC:=g2.keep _ _ (nn) vm (c8 rfl);have p2:=K.T.frame p' g2 S2 (λ j=>nn) λ j=>nn;have Cf:=eN.step g2 λ j=>nn;have VQ:=g2.rep0 rv;have VS:=g2.rep0 rb;have gg:=(g.mono (O':=S::F) (G':=G) (λ a h=>.inl (.tail _ h)) λ j h=>.inl h).trans (g2.mono (λ j=>nn) λ j=>nn);cases hb:lt x b with
  |true=>
   refine wT ?_;refine aa (ff zC rfl (aa (jd ?_)));have g3:aB c [S] [] aH {aH with heap:=aH.heap.update S (aO λ j=> #[v,v])}:=dR (tk:=aH.toks) zC (c8 rfl);have S3:bF c {aH with heap:=aH.heap.update S (aO λ j=> #[v,v])}:=e_ (tk:=aH.toks) S2 zB;have p3:=K.T.frame p2 g3 S3 (λ a h hf=>by obtain rfl:=m1 h;exact pH hf) λ j=>nn;have Jw:=Cf.step g3 λ a h=>by obtain rfl:=m1 h;exact⟨.inr zA,Ef⟩
   have in1:∀a∈[S],a∈S::(F'++k.O)∨aH.heap.objs.size≤a:= λ a h=>.inl (by obtain rfl:=m1 h;exact .head _);refine xe (fu (λ j=> #[v,v]) zC) λ e3 h3=>?_;refine ah ⟨bT gv _,?_⟩;refine a7 (ih x F' _ v _ K' pH S3 Jw p3 h3 (g3.rep in1 (nM.refl _ _) VQ) λ y hy z hz=>hc y (.tail _ hy) z (.tail _ hz)) λ r s4 q=>?_;refine eE q ?_;clear q;intro u z1 g4 S4 r4;subst z1;refine⟨u,rfl,(gg.trans (g3.mono (λ a h=>.inl (by obtain rfl:=m1 h;exact .head _)) λ j=>nn)).comp g4 (λ a h=>(aD.mp h).elim (λ h=>.inl (h▸ .head _)) λ h=>(hu a h).imp (λ h=>.tail _ h) And.left) (λ j h=>.inl h),S4,?_⟩;show bh c.w (S::k.O) s4.heap u (f (rB lt (if lt x b then x else b) xs));rw[hb];exact r4
  |false=>
   refine wF ?_;refine aa (jd ?_);refine ah ⟨bT gv _,?_⟩;refine a7 (ih b F' _ vb _ K' pH S2 Cf p2 zC VS λ y hy z hz=>hc y (MJ hy) z (MJ hz)) λ r s4 q=>?_;refine eE q ?_;clear q;intro u z1 g4 S4 r4;subst z1;refine⟨u,rfl,gg.comp g4 (λ a h=>(aD.mp h).elim (λ h=>.inl (h▸ .head _)) λ h=>(hu a h).imp (λ h=>.tail _ h) And.left) (λ j h=>.inl h),S4,?_⟩;show bh c.w (S::k.O) s4.heap u (f (rB lt (if lt x b then x else b) xs));rw[hb];exact r4
theorem B3{α:Type}{f:α→D}{lt:α→α→Bool}{x:α}{xs:List α}{s₀ aH:ae}{it:ag}{nm:Str}{p:Pos}(R:Rm A (n+1))(hO:∀a∈O,a<s₀.heap.objs.size)(hB:c.B≤s₀.heap.objs.size)(fW:aB c [] [] s₀ aH)(jy:bF c aH)(hi:iK c n (.Name nm p) O [] s₀ ((x::xs).map f) it aH)(hc:∀y∈x::xs,∀z∈x::xs,cC c n .Lt (f y) (f z) (lt y z)):
  codeAny (model c.prog c.w) A (.builtin "min.loop" ⟨[it,.none,.ref aH.heap.objs.size],[]⟩) (λ r s'=>∃v,r=.ok (.ret v)∧aB c [] [] s₀ s'∧bF c s'∧bh c.w O s'.heap v (f (rB lt x xs))) {aH with heap:=aH.heap.push (bR [] 0)}:=by
 refine dj (hi.wk fW.size hO (λ j=>nn) hB λ j=>rfl) λ F G hF hG hi=>?_;refine c0 (hi A.in1 R.in1) λ P Kw rt=>?_;have g1:aB c [] [] aH {aH with heap:=aH.heap.push (bR [] 0)}:=aB.push (tk:=aH.toks);have S1:bF c {aH with heap:=aH.heap.push (bR [] 0)}:=jy.push (tk:=aH.toks);have Qy:aH.heap.objs.size∉F:= λ hm=>ak _ (hF _ hm).2;have hS:({aH with heap:=aH.heap.push (bR [] 0)}:ae).heap.get? aH.heap.objs.size=some (bR [] 0):=av _ rfl;have zm:=(cB.refl (c:=c) (k:=⟨aH,F++O,[]⟩)).step g1 λ j=>nn;have p1:=Kw.T.frame rt g1 S1 (λ j=>nn) λ j=>nn;have zB:c.B≤aH.heap.objs.size:=af hB fW.size;refine bf nL ?_;show wpAny _ A.in1 (seqItems? (.ref aH.heap.objs.size)>>=_) _ _ _;refine aa (gX hS rfl ?_);show wpAny _ A.in1 (tryCatch (pyNext it) _>>=_) _ _ _;refine aa (je (wm (Kw.step S1 zm p1) λ r au q=>?_));refine c0 q ?_;clear q;intro v z1 q;subst z1;refine q _ _ _ _ λ s' F' g S' eN hu K' rv p'=>?_;have Ha:aH.heap.objs.size<({aH with heap:=aH.heap.push (bR [] 0)}:ae).heap.objs.size:=aI hS;have OJ:=hu.not Qy Ha;have rv:=K'.rep zm rv (.inr (az _)) Ha;have vm:=g.keep _ _ Qy hS (c8 rfl);show wpAny _ A.in1 (updateSeq aH.heap.objs.size (λ j=> #[v,v])>>=_) _ _ _;refine aa (ff vm rfl ?_);have g3:aB c [aH.heap.objs.size] [] s' {s' with heap:=s'.heap.update aH.heap.objs.size (aO λ j=> #[v,v])}:=dR (tk:=s'.toks) vm (c8 rfl);have S3:bF c {s' with heap:=s'.heap.update aH.heap.objs.size (aO λ j=> #[v,v])}:=e_ (tk:=s'.toks) S' zB;have p3:=Kw.T.frame p' g3 S3 (λ a h hf=>by rw[aj]at h;subst h;exact OJ hf) λ j=>nn;have Jw:=eN.step g3 λ a h=>by rw[aj]at h;subst h;exact⟨.inr (az _),by simp⟩
 refine xe (fu (λ j=> #[v,v]) vm) λ e3 h3=>?_;refine ah ⟨bT gv _,?_⟩;refine a7 (Ff (f:=f) (lt:=lt) R.in1 zB (az _) (by simp) xs x F' _ v _ K' OJ S3 Jw p3 h3 (g3.rep (λ a h=>.inl (by rw[aj]at h;subst h;exact .head _)) (nM.refl _ _) rv) hc) λ r s4 q=>?_;refine eE q ?_;clear q;intro u z1 g4 S4 r4;subst z1;refine⟨u,rfl,?_,S4,bh.kept (.refl _ _) (λ a h=>.inl (.tail _ (ao _ h))) r4⟩;have gg:aB c (aH.heap.objs.size::F) G {aH with heap:=aH.heap.push (bR [] 0)} s4:=((g.mono (λ a h=>.inl (.tail _ h)) λ j h=>.inl h).trans (g3.mono (λ a h=>.inl (by rw[aj]at h;subst h;exact .head _)) λ j=>nn)).comp g4 (λ a h=>(aD.mp h).elim (λ h=>.inl (h▸ .head _)) λ h=>(hu a h).imp (λ h=>.tail _ h) And.left) λ j h=>.inl h;exact(fW.trans g1).comp gg (λ a ha=>.inr ((aD.mp ha).elim (λ h=>h▸fW.size) λ h=>(hF a h).1)) λ e he=>.inr (hG e he).1
theorem Fn.HY{α:Type}{f:α→D}{lt:α→α→Bool}{x:α}{xs:List α}(hc:∀y∈x::xs,∀z∈x::xs,cC c n .Lt (f y) (f z) (lt y z)):Fn c (n+1) (.builtin "min") [.lst ((x::xs).map f)] [] (f (rB lt x xs)):= λ A O s vs ks R K ec r'=>by
 refine fz ec λ v r=>?_;refine fH r' ?_;refine ko PySem.F.kind_min Ei Ej (PySem.F.args_min1 _) ?_;show wpAny _ A.in1 (dE "min" ["key","default"] 0 ⟨[],[]⟩>>=_) _ _ s;refine aa (cU (show dE "min" ["key","default"] 0 ⟨[],[]⟩=pure [none,none]from rfl) ?_);refine v5 ?_;refine wb (Ib.list (c:=c) (n:=n) (tg:=.Name "x" ⟨0,0,0,0⟩) (ds:=(x::xs).map f) A.in1 O s v R.in1 K r) λ it aH q=>?_;refine nP q ?_;clear q;intro fW jy ds z1 hi;subst z1;refine aa (bo ?_);refine ah ⟨bT gv _,a7 (B3 (f:=f) (lt:=lt) R K.lt K.br.size fW jy hi hc) λ r s' q=>?_⟩;refine eE q ?_;clear q;intro v z1 g S r;subst z1;exact⟨g,S,r⟩
theorem Fn.min_two{a b:Int}:Fn c (n+1) (.builtin "min") [.int a,.int b] [] (.int (if b<a then b else a)):= λ A O s vs ks R K ec r'=>by
 refine pA ec λ v u r q=>?_;refine fH r' ?_;refine ko PySem.F.kind_min Ei Ej (PySem.F.args_min2 _ _) ?_;show wpAny _ A.in1 (dE "min" ["key","default"] 0 ⟨[],[]⟩>>=_) _ _ s;refine aa (cU (show dE "min" ["key","default"] 0 ⟨[],[]⟩=pure [none,none]from rfl) ?_);show wpAny _ A.in1 (newTuple [v,u]>>=_) _ _ s;have hp:=t7 (c:=c) (tk:=s.toks) (vs:=[v,u]) (ds:=[a,b].map D.int) K (by show a0 _ _ _ [v,u] [.int a,.int b];exact⟨r,q,trivial⟩);refine aa (bo ?_);refine wb (Ib.tuple (c:=c) (n:=n) (tg:=.Name "x" ⟨0,0,0,0⟩) (ds:=[a,b].map D.int) A.in1 O _ _ R.in1 (K.fU hp.1 hp.2.1) hp.2.2) λ it aH q=>?_;refine nP q ?_;clear q;intro fW jy ds z1 hi;subst z1;refine aa (bo ?_);refine ah ⟨bT gv _,a7 (B3 (f:=D.int) (lt:= λ x y=>decide (x<y)) R K.lt K.br.size (hp.1.trans fW) jy (hi.back hp.1) λ y j z j=>cC.ltI) λ r s' q=>?_⟩;refine eE q ?_;clear q;intro v z1 g S r;subst z1;refine⟨g,S,?_⟩;have e:rB (λ x y=>decide (x<y)) a [b]=if b<a then b else a:=by show(if decide (b<a)=true then b else a)=_;simp
 rwa[e]at r
end
noncomputable def strLt(x y:Str):Bool:=decide (x.cps.toList<y.cps.toList)
theorem CT(x:Str):strLt x x=false:=by simp[strLt]
theorem CU{x y:Str}(h:strLt x y=true):strLt y x=false:=by
 simp only[strLt,decide_eq_true_eq,decide_eq_false_iff_not]at h⊢;exact List.lt_asymm h
section
variable {c:Cx}{n:Nat}{E:VE}{ρ ρ':List Sl}{O:List Addr}{s:ae}
theorem AW{α:Type}{f:α→D}{w:a9}{h:Heap}(z:α){vs:List ag}{xs:List α}(r:a0 w O h vs (xs.map f))(i:Nat)(hi:i<xs.length):bh w O h (vs.getD i .none) (f (xs.getD i z)):=by
 induction xs generalizing vs i with
 |nil=>exact absurd hi (Nat.not_lt_zero i)
 |cons x xs ih=>
  cases vs with
  |nil=>exact r.elim
  |cons v vs=>cases i with|zero=>exact r.1|succ i=>exact ih r.2 i (DZ hi)
theorem AV{α:Type}{f:α→D}{w:a9}{h:Heap}(z:α){vs:List ag}{xs:List α}(r:a0 w O h vs (xs.map f))(p:List Nat)(hp:∀i∈p,i<xs.length):a0 w O h (p.map λ i=>vs.getD i .none) ((p.map λ i=>xs.getD i z).map f):=by
 induction p with
 |nil=>trivial
 |cons i p ih=>exact⟨AW z r i (hp i (.head _)),ih λ j hj=>hp j (.tail _ hj)⟩
theorem y_{us:List ag}{xs:List Str}(hu:oL us xs)(h:2≤us.length):keyKind' us.toArray=pure oneType':=by
 cases us with
 |nil=>cases h
 |cons u us=>cases us with
  |nil=>exact absurd h (by decide:¬2≤1)
  |cons v us=>exact keyKind_strs hu
theorem BX{vs:List ag}{xs:List Str}(h:oL vs xs):∀i,i<xs.length→∃t,vs.getD i .none=.str (xs.getD i default) t:=by
 induction h with
 |nil=>intro i h;exact absurd h (Nat.not_lt_zero i)
 |cons y t _ ih=>
  intro i h;cases i with
  |zero=>exact⟨t,rfl⟩
  |succ i=>exact ih i (DZ h)
theorem CS{x:Str}{t:Tok}{vs:List ag}{xs:List Str}(h:oL vs xs):oL (vs++[.str x t]) (xs++[x]):=by
 induction h with
 |nil=>exact .cons _ _ .nil
 |cons y u _ ih=>exact .cons y u ih
theorem yv{vs:List ag}{xs:List Str}(h:oL vs xs):vs.length=xs.length:=by
 induction h with
 |nil=>rfl
 |cons _ _ _ ih=>exact congrArg (· +1) ih
theorem Fy{α:Type}{f:α→D}{key:α→Str}{A:aK}{q:Addr}{a kS:Addr}(Li:a≠kS)(R:Rm A n)(hB:c.B≤a)(OP:c.B≤kS){body:ag→PUnit→Sem (ForInStep PUnit)}(hb:∀(x:ag) (s:ae) (Q:ForInStep PUnit→ae→Prop),wpAny (model c.prog c.w) A (call (.ref q) [x]) (λ k s'=>wpAny (model c.prog c.w) A (Builtin.List.listUpdate (.ref kS) (·.push k)) (λ z k_=>Q (.yield ⟨⟩) k_) aZ s') aZ s→wpAny (model c.prog c.w) A (body x ⟨⟩) Q aZ s)(xs:List α)(vs us:List ag)(ss:List Str)(e:Nat)(s:ae)(hf:∀x∈xs,Fn c n (.ref q) [f x] [] (.str (key x)))(K:Ok c (kS::a::O) s)(r:a0 c.w (kS::a::O) s.heap vs (xs.map f))(ho:s.heap.get? kS=some (bR us e))(hu:oL us ss)(hl:ss.length+xs.length<64):
   wpAny (model c.prog c.w) A (forIn vs PUnit.unit body) (λ z s'=>aB c [kS] [] s s'∧bF c s'∧∃My e',s'.heap.get? kS=some (bR My e')∧oL My (ss++xs.map key)) aZ s:=by
 induction xs generalizing vs us ss e s with
 |nil=>
  cases vs with
  |cons=>exact r.elim
  |nil=>exact ah ⟨.refl ..,K.br,us,e,ho,(bM ss).symm▸hu⟩
 |cons x xs ih=>
  cases vs with
  |nil=>exact r.elim
  |cons v vs=>
   have r:a0 c.w (kS::a::O) s.heap (v::vs) (f x::xs.map f):=r;have hl:ss.length+(xs.length+1)<64:=hl;rw[o4];refine aa (hb v s _ (wm (hf x (.head _) A (kS::a::O) s [v] [] R K (by exact⟨r.1,trivial⟩) (by trivial)) λ k au w=>?_));refine jH w ?_;clear w;intro g1 S1 rk;refine bh.ri rk ?_;clear rk;intro t;have zp:=g1.keep _ _ (by simp) ho du;have hz:=yv hu;refine jU zp rfl ?_ (by rw[ba,cH];lia) (by rw[hY,ba,cH];exact TN hz hl rfl);have g2:aB c [kS] [] au {au with heap:=au.heap.update kS (aO (·.push (.str (key x) t)))}:=dR (tk:=au.toks) zp du;have S2:bF c {au with heap:=au.heap.update kS (aO (·.push (.str (key x) t)))}:=e_ (tk:=au.toks) S1 OP;refine xe (fu (·.push (.str (key x) t)) zp) λ e2 wB=>?_;have ea:(us.toArray.push (Value.str (key x) t)).toList=us++[.str (key x) t]:=by simp
   rw[ea]at wB;have gg:=(g1.mono (O':=[kS]) (G':=[]) (λ z=>nn) λ z=>nn).trans g2;have Wa:∀b∈[kS],b∈kS::a::O∨s.heap.objs.size≤b:= λ b h=>.inl (by obtain rfl:=m1 h;exact .head _);refine wm (ih vs _ (ss++[key x]) e2 _ (λ y hy=>hf y (.tail _ hy)) (K.fU gg S2) (gg.fk Wa (nM.refl _ _) r.2) wB (CS hu) (by rw[aY,pn];exact GU hl)) λ z s' w=>?_;refine jH w ?_;clear w;intro g3 S3 zh;refine ew zh ?_;clear zh;intro My e' h3 u3;exact⟨gg.trans g3,S3,My,e',h3,by simpa using u3⟩
theorem vR.Nr{α:Type}[BEq α][LawfulBEq α]{f:α→D}{key:α→Str}(z:α){q:Addr}{xs ys:List α}(hp:ys.Perm xs)(hs:ys.Pairwise λ x y=>strLt (key x) (key y)=true)(h6:xs.length≤6)(hf:∀x∈xs,Fn c n (.ref q) [f x] [] (.str (key x))):
  vR c (n+1) [("key",.ref q)] (xs.map f) (ys.map f):= λ A O s a vs e R K ha hB ho r=>by
 have hz:vs.length=xs.length:=by rw[r.length];exact aE _
 refine wpAny_call_entry_kw s9 ⟨_,ho,rfl⟩ qX ?_ (ksk_l1 _ _);refine cI (uo (lt:= λ x y=>strLt (key x) (key y)) (λ x=>CT _) CU z hp hs h6) λ p hk N_ R7=>?_;dsimp only[ksk_t1];have zz:a<s.heap.objs.size:=aI ho;obtain⟨e1,zp⟩:∃e1,(s.heap.update a (aO λ u=>(#[]:Array ag))).get? a=some (bR [] e1):=⟨_,get?_update_seq ho λ u=> #[]⟩;refine aa (fw ho rfl ?_);refine aa (jU ho rfl ?_ (by rw[ba,cH];exact vi hz h6 rfl) (bV _));refine aa (sZ zp rfl ?_);refine aa (DR ?_ (by show vs.length≤_;rw[cH];lia));refine aa (vo ?_ (bV _));refine aV ?_;have UK:((s.heap.update a (aO λ u=>(#[]:Array ag))).push (seqObj "tuple" vs.toArray 0)).objs.size=s.heap.objs.size+1:=by rw[size_push',Heap.size_update]
 have Mb:(((s.heap.update a (aO λ u=> #[])).push (seqObj "tuple" vs.toArray 0)).push (seqObj "list" #[] 0)).get? a=some (bR [] e1):=aA _ (aA _ zp);have WW:(((s.heap.update a (aO λ u=> #[])).push (seqObj "tuple" vs.toArray 0)).push (seqObj "list" #[] 0)).get? (s.heap.objs.size+1)=some (bR [] 0):=by rw[← UK];exact av _ rfl
 show wpAny _ A.in1 (ksk_rest a (.ref q) false vs.toArray e1 (.ref ((s.heap.update a (aO λ u=>(#[]:Array ag))).push (seqObj "tuple" vs.toArray 0)).objs.size)) _ _ {s with heap:=((s.heap.update a (aO λ u=> #[])).push (seqObj "tuple" vs.toArray 0)).push (seqObj "list" #[] 0)};rw[UK];generalize Qf:({s with heap:=((s.heap.update a (aO λ u=> #[])).push (seqObj "tuple" vs.toArray 0)).push (seqObj "list" #[] 0)}:ae)=s6;have g6:aB c [a] [] s s6:=Qf▸ (dR (tk:=s.toks) ho du).trans ((aB.push (c:=c) (G:=[]) (tk:=s.toks)).mono (λ u=>nn) (λ u=>nn)|>.trans ((aB.push (c:=c) (G:=[]) (tk:=s.toks)).mono (λ u=>nn) (λ u=>nn)));have S6:bF c s6:=Qf▸ ((e_ (tk:=s.toks) K.br hB).push (tk:=s.toks)).push (tk:=s.toks);have Ob:s6.heap.get? a=some (bR [] e1):=Qf▸Mb;have Ol:s6.heap.get? (s.heap.objs.size+1)=some (bR [] 0):=Qf▸WW;have OP:c.B≤s.heap.objs.size+1:=eS (af hB (bX zz));have Li:a≠s.heap.objs.size+1:=dM (cx zz);have K6:Ok c ((s.heap.objs.size+1)::a::O) s6:=⟨S6,λ b h=>by
   rcases mc h with rfl|h
   ·exact aI Ol
   rcases mc h with rfl|h
   ·exact aI Ob
   ·exact ab (K.lt b h) g6.size,λ b h=>by
   rcases mc h with rfl|h
   ·exact OP
   rcases mc h with rfl|h
   ·exact hB
   ·exact K.low b h⟩
 have r6:a0 c.w ((s.heap.objs.size+1)::a::O) s6.heap vs (xs.map f):=g6.fk (O:=a::O) (λ b h=>.inl (by obtain rfl:=m1 h;exact .head _)) (λ b h=>(aD.mp h).elim (λ h=>.inr (h▸bq _)) .inl) r;refine aa (gq ?_)
 first
  |rw[List.forIn_toArray]
  |(simp only[List.toList_toArray])
 refine wb (Fy (O:=O) (a:=a) (f:=f) (key:=key) (q:=q) Li R.in1 hB OP (λ x s Q h=>?_) xs vs [] [] 0 s6 hf K6 r6 Ol .nil (by simp;exact LZ h6 rfl)) λ u s7 w=>?_
 ·exact aa (gu (wm h λ k s' h=>wb h λ u k_ h=>ah h))
 refine jH w ?_;clear w;intro g7 S7 zh;refine ew zh ?_;clear zh;intro us e7 Sm hu;simp only[List.nil_append]at hu;have NU:us.length=vs.length:=by rw[yv hu,aE,hz]
 have WI:s7.heap.get? a=some (bR [] e1):=g7.keep _ _ (by simpa using Li) Ob du;refine aa (fw Sm rfl ?_);unfold ksk_end;simp only[aR,if_false]
 -- the end, whatever the order
 have fin:∀st:SortSt,(arrOf st).map (·.2)=gJ (p.toList.map λ i=>vs.getD i di)→failedOf st=none→wpAny (model c.prog c.w) A.in1 (ksk_tail a false e1 (.ref (s.heap.objs.size+1)) st)
   (λ fin s'=>∃v,fin=.done (.ret v)∧v=.none∧aB c [a] [] s s'∧bF c s'∧∃i7 e',s'.heap.get? a=some (bR i7 e')∧a0 c.w (a::O) s'.heap i7 (ys.map f)) aZ s7:= λ st Mi Sr=>by
  have FW:p.toList.length=ys.length:=by rw[← N_,aE]
  unfold ksk_tail;dsimp only;rw[Mi];simp only[aR,if_false];refine aa (jU Sm rfl ?_ (by rw[ba,NU,hz,cH];exact rF h6 rfl) (bV _));refine aa (jd ?_);have g8:aB c [s.heap.objs.size+1] [] s7 {s7 with heap:=s7.heap.update (s.heap.objs.size+1) (aO λ u=> #[])}:=dR (tk:=s7.toks) Sm du;have S8:bF c {s7 with heap:=s7.heap.update (s.heap.objs.size+1) (aO λ u=> #[])}:=e_ (tk:=s7.toks) S7 OP;have Qg:=g8.keep _ _ (by simpa using Li) WI du;refine aa (sZ Qg rfl ?_);refine aa (jU Qg rfl ?_ (bV _) (by rw[ba,aE,FW,hp.length_eq,cH];exact rF h6 rfl));rw[Sr];simp only[bne_self_eq_false,aR,if_false];have g9:=dR (c:=c) (tk:=s7.toks) (f:=aO λ u=>gJ (p.toList.map λ i=>vs.getD i di)) Qg du;have S9:bF c _:=e_ (tk:=s7.toks) (f:=aO λ u=>gJ (p.toList.map λ i=>vs.getD i di)) S8 hB;refine xe (fu (λ u=>gJ (p.toList.map λ i=>vs.getD i di)) Qg) λ e9 WH=>?_;have gk:=g7.trans g8;refine ah ⟨_,rfl,rfl,?_,S9,_,e9,WH,?_⟩
  ·refine(g6.comp gk (λ b h=>.inr ?_) λ u=>nn).trans g9;obtain rfl:=m1 h;exact bq _
  ·have r8:=gk.fk (O:=(s.heap.objs.size+1)::a::O) (λ b h=>.inl (by obtain rfl:=m1 h;exact .head _)) (nM.refl _ _) r6;have r9:=g9.fk (O:=(s.heap.objs.size+1)::a::O) (λ b h=>.inl (by obtain rfl:=m1 h;exact .tail _ (.head _))) (nM.refl _ _) r8;have:=AV z r9 p.toList R7;rw[N_]at this;exact a0.kept (.refl _ _) (λ b h=>.inl (.tail _ h)) this
 by_cases h2:vs.length<2
 ·have xJ:vs.toArray.size<2:=by exact h2
  rw[if_pos xJ,if_pos xJ];refine v5 ?_;dsimp only[StateT.run_pure];refine aa (ah (fin _ ?_ rfl));have FW:p.toList=ay xs.length:=by
   have h1:xs.length<2:=by exact hz▸h2
   have:pU xs.length=.ret (gJ (ay xs.length)):=by
    rcases oY xs.length 1 with h|h
    ·rw[show xs.length=0 by lia];rfl
    ·rw[show xs.length=1 by lia];rfl
   rw[this]at hk;cases hk;simp
  rw[FW];show((us.toArray.zip vs.toArray).map (·.2))=_;apply Array.ext
  ·simp[hz,NU]
  ·intro i h1 h2;simp at h1 h2;simp[show i<vs.length by exact D9 hz h2]
 ·have xJ:¬vs.toArray.size<2:=by exact h2
  rw[if_neg xJ,if_neg xJ];have wJ:2≤vs.length:=by exact cw h2
  have qI:=y_ hu (af wJ (dg NU.symm));rw[qI];refine v5 ?_;have ask:(pU vs.length).kasWp (kas_ask c.prog c.w A.in1 oneType' us) (λ p' s'=>p'=p∧s'=s7) s7:=by
   rw[hz];refine rG (λ i j C hi hj hC=>?_) _ p hk ⟨rfl,rfl⟩;refine xe (BX hu i (by simpa using hi)) λ t e=>?_;refine xe (BX hu j (by simpa using hj)) λ t' e'=>?_;unfold kas_ask;rw[e,e',keyLt'_oneType];refine oneLt_str ?_;have q:∀i,i<xs.length→(xs.map key).getD i default=key (xs.getD i z):= λ i h=>by simp[h]
   rw[q i hi,q j hj];exact hC
  refine wb (kat_run (G:= λ p' s'=>p'=p∧s'=s7) (Q:= λ nd s'=>(arrOf nd).map (·.2)=gJ (p.toList.map λ i=>vs.getD i di)∧failedOf nd=none∧s'=s7) NU wJ (by exact P9 hz h6 rfl) (λ p' nd s' a1 a2 a3 a4=>⟨a4.1▸kat_snds NU a2,a3,a4.2⟩) ask) ?_
  rintro⟨⟨⟩,nd⟩ s' ⟨Mi,Sr,rfl⟩
  exact fin nd Mi Sr
end
noncomputable def IY(c:Cx)(n m:Nat)(f:ag)(kw:List (Str×ag))(tg:Expr)(eK:List D)(d:D):Prop:=
 ∀(A:aK) (O:List Addr) (s₀ s:ae) (a:Addr) (g:Nat),Rm A n→Ok c O s₀→aB c [] [] s₀ s→bF c s→s.heap.IsGen a g→iK c m tg O O s₀ eK (.ref a) s→wpAny (model c.prog c.w) A (call f [.ref a] kw)
  (λ v s'=>aB c [] [] s₀ s'∧bF c s'∧bh c.w O s'.heap v d) aZ s
section
variable {c:Cx}{n:Nat}{E:VE}{ρ ρ':List Sl}{O:List Addr}{s:ae}
theorem Ev.LG{m:Nat}{x k y:Str}{p pos py kp:Pos}{elt EC iter:Expr}{ifs:List Expr}{scope:iU}{uE:Pos}{v u:ag}{tg:Expr}{Ds:List D→Prop}{d:D}(hx:E.env.kindOf x=some .globalImplicit)(hg:cX c x v)(keep:jz c v)(ha:Hf c m E ρ (.GeneratorExp elt [⟨EC,iter,ifs,0⟩] scope uE) tg Ds)(hm:m≤n)(hy:E.env.kindOf y=some .globalImplicit)(W2:cX c y u)(hf:∀eK,Ds eK→IY c n m v [(k,u)] tg eK d)(hd:autoParam ((x==("__debug__":Str))=false) rf)(iQ:autoParam ((y==("__debug__":Str))=false) rf):Ev c n E ρ (.Call (.Name x p) [.GeneratorExp elt [⟨EC,iter,ifs,0⟩] scope uE] [⟨some k,.Name y py,kp⟩] pos) d:= λ A β O ad s R I=>by
 refine fL (iN I hx hg hd ?_);show wpAny _ A (callWith pos v [] (backTo pos (starEach [.GeneratorExp elt [⟨EC,iter,ifs,0⟩] scope uE] E.env)) (backToKw pos (keywordEach [⟨some k,.Name y py,kp⟩] E.env))) _ _ s;refine callWith_of (P:=c.K.In) rfl (λ t X=>keep.Fm X) (evalArgs_kw2 rfl (z5 (wm (ha A β O ad s (R.le hm) I) λ w au q=>BF ?_) rfl) rfl);refine rg q ?_;clear q;intro cZ lM y1 eK Mg fV;refine Mq y1 ?_;clear y1;intro a z2 g ij;subst z2;show wpAny _ A (evalAll ((do let v ← eval (.Name y py) E.env;standAt pos;pure v)::[])) _ _ au;refine wpAny_evalAll_cons (aa (iN (I.fU cZ lM) hy W2 iQ (aa (bS (ah (x5 ?_))))));exact⟨lM.fZ,wm (hf eK Mg A O s au a g R I.o cZ lM ij fV) λ z z q=>q⟩
theorem xi{x:ag}{A:aK}{q:Addr}{ds lK:List D}{s₀ s:ae}(R:Rm A (n+2))(hO:∀a∈O,a<s₀.heap.objs.size∧c.B≤a)(hB:c.B≤s₀.heap.objs.size)(Ig:s₀.heap.objs.size≤s.heap.objs.size)(hl:ds.length≤1000)(hc:wpAny (model c.prog c.w) A.in1 (collect x) (λ vs s'=>aB c [] [] s₀ s'∧bF c s'∧a0 c.w O s'.heap vs ds) aZ s)(hs:vR c n [("key",.ref q)] ds lK):
  wpAny (model c.prog c.w) A (call (.builtin "sorted") [x] [("key",.ref q)]) (λ v s'=>aB c [] [] s₀ s'∧bF c s'∧bh c.w O s'.heap v (.lst lK)) aZ s:=by
 refine call_function_entry_kw kind_sorted plain_sorted entry_sorted (ksk_s1 _ _) ?_;refine aa (m:=checkCount "sorted" 1 1 _) (ah ?_);refine wb hc λ vs au q=>?_;refine jH q ?_;clear q;intro g1 S1 r1;have hz:=r1.length;refine aa (vo ?_ (by show vs.length≤_;rw[cH];exact vi hz hl rfl));refine xa (l8 (vs:=vs) S1) λ g2 S2=>?_;have vj:=g1.size;have K:Ok c O {au with heap:=au.heap.push (bR vs 0)}:=⟨S2,λ a h=>ab (hO a h).1 (af vj g2.size),λ a h=>(hO a h).2⟩;have hn:au.heap.objs.size∉O:= λ h=>ak _ (ab (hO _ h).1 vj);have r2:a0 c.w (au.heap.objs.size::O) (au.heap.push (bR vs 0)) vs ds:=g2.fk (O:=O) (λ z=>nn) (λ a h=>(aD.mp h).elim (λ h=>.inr (h▸az _)) .inl) r1;refine aa (aV (wm (hs A.in1 O {au with heap:=au.heap.push (bR vs 0)} au.heap.objs.size vs 0 (R.in1.le (by exact bq _)) K hn (af hB vj) (av _ rfl) r2) λ v aH q=>?_));refine k7 q ?_;clear q;intro z1 g3 S3 i7 e' h' r3;subst z1;refine ah ⟨_,rfl,(g1.trans g2).comp g3 (λ a h=>.inr (by rw[aj]at h;subst h;exact vj)) (λ z=>nn),S3,?_⟩;exact⟨_,i7,rfl,hn,⟨_,e',h',rfl,rfl,rfl⟩,a0.kept (O:=au.heap.objs.size::O) (.refl _ _) (λ a h=>.inl (.tail _ h)) r3⟩
theorem IY.sorted{m:Nat}{x:Str}{p:Pos}{q:Addr}{ds lK:List D}(hm:m≤n)(hl:ds.length≤1000)(hs:vR c n [("key",.ref q)] ds lK):IY c (n+2) m (.builtin "sorted") [("key",.ref q)] (.Name x p) ds (.lst lK):= λ A O s₀ s a g R K fW S hg hi=>
 xi R (λ a h=>⟨K.lt a h,K.low a h⟩) K.br.size fW.size hl (sC (R.in1.le (by exact cY hm)) K fW S hg hi hl) hs
end
theorem ML(b:Bool)(st:TS)(j:Nat):(st.tab b).slot j=(st.tab true).slot j:=rfl
theorem Lm(b:Bool)(st:TS)(f:Nat→Int)(h:Int)(n:Nat)(p:ir):lx (st.tab b) f h n p=lx (st.tab true) f h n p:=by
 induction n generalizing p with
 |zero=>rfl
 |succ n ih=>
  conv=>lhs;whnf
  conv=>rhs;whnf
  rw[show lx (st.tab b) f h n=lx (st.tab true) f h n from funext ih];rfl
theorem C9(b:Bool)(st:TS)(f:Nat→Int)(h:Int)(p:ir):(st.tab b).probe f h p=(st.tab true).probe f h p:=Lm b st f h _ p
structure IW(k:Nat)(st:TS):Prop where
 len:st.place.length=st.ids.length
 mask:st.ids.length≤st.mask
 T6:st.ids.length≤6
 odd:st.mask%2=1
 lt:∀x∈st.ids,x<(j9 k).length
 TH:∀i,i≤st.ids.length→b8 st.place.toArray (slotAt st.place i)=i
 fV:∀x∈st.ids,∃j i p,(st.tab true).probe (zl (nR k) st.ids) ((nR k).getD x 0) ((st.tab true).probeStart ((nR k).getD x 0))=some (.candidate j i p)∧st.ids[i]? =some x
 new:∀x,x<(j9 k).length→x∉st.ids→∃y,st.add (nR k) x=some y∧y∈l4 k∧y.ids.Perm (x::st.ids)
theorem F4{o:Option SetTable.Met}{p:Nat×Nat×ir}(h:F5 o=some p):o=some (.candidate p.1 p.2.1 p.2.2):=
 Jh (g:= λ p:Nat×Nat×ir=>some (SetTable.Met.candidate p.1 p.2.1 p.2.2)) (o:=F5 o) (by cases o with|none=>trivial|some m=>cases m<;>first|exact trivial|rfl) h
theorem nS{k:Nat}(h:nT k=true){st:TS}(kt:st∈l4 k):IW k st:=by
 unfold nT at h;rw[bg,bD,beq_iff_eq]at h;refine xa h ?_;clear h;intro h hz;obtain⟨i,hi,rfl⟩:=eV kt;have Du:i<(P6 k).length:=by exact fx hi hz
 have:=h ((l4 k)[i],(P6 k)[i]) (by
  rw[qc];exact⟨i,by simp;exact Rj hz ‹_›,by simp⟩)
 rw[bg]at this;refine xa this ?_;clear this;intro h1 h2;generalize (l4 k)[i]=st at*;unfold I6 at h2;simp only[bg,beq_iff_eq,decide_eq_true_eq,bD]at h2;refine xa h2 ?_;clear h2;intro y1 a6;refine xa y1 ?_;clear y1;intro y2 a5;refine xa y2 ?_;clear y2;intro y3 a4;refine xa y3 ?_;clear y3;intro y4 a3;refine xa y4 ?_;clear y4;intro a1 a2;unfold I8 at a6;rw[bD]at a6;unfold I7 at h1;rw[bD]at h1;refine⟨a1,a2,a3,a4,a5,λ i hi=>?_,λ x hx=>?_,λ x hx hn=>?_⟩
 ·have:=a6 i (aM.mpr (by exact cY hi));rw[beq_iff_eq]at this;exact this
 ·have:=h1 x (aM.mpr (a5 x hx));rw[if_pos (by simpa using hx)]at this;refine c0 (vQ this) λ q e this=>?_;exact⟨q.1,q.2.1,q.2.2,F4 e,eq_of_beq this⟩
 ·have:=h1 x (aM.mpr hx);rw[if_neg (by simpa using hn)]at this;refine c0 (vQ this) λ y e this=>xa (aP.mp this) λ h2 h3=>?_;exact⟨y,e,bw (eq_of_beq h2),List.isPerm_iff.mp h3⟩
theorem Ey{k:Nat}{st:TS}(kt:st∈l4 k):IW k st:=by
 exact L5 (M:= λ k=>st∈l4 k→IW k st) k (λ h=>nn h) (nS J8) (nS J7) (nS J6) (λ k h=>nn h) kt
theorem BU{k x:Nat}(hx:x<(j9 k).length):(nR k).getD x 0=gy (fS k x):=by
 have key:(j9 k).map gy=nR k:=L5 (M:= λ k=>(j9 k).map gy=nR k) k rfl xb.1 xb.2.1 xb.2.2 λ k=>rfl;unfold fS;rw[← key];simp[hx]
theorem TS.fits{k:Nat}{st:TS}(h:IW k st)(b:Bool):(st.tab b).fits st.ids.length=true:=by
 unfold pW ml TS.tab;simp[h.len,h.mask]
section
variable {O O':List Addr}{h:Heap}
theorem bP.length{es:List (Int×ag)}{cs:List (List Nat)}(r:bP O h es cs):es.length=cs.length:=
 r.ind rfl λ z z z z z z ih=>congrArg u4 ih
theorem bP.at{es:List (Int×ag)}{cs:List (List Nat)}(r:bP O h es cs):∀i:Nat,(es[i]? =none∧cs[i]? =none)∨∃e c,es[i]? =some e∧cs[i]? =some c∧JS O h e c:=
 r.ind (λ i=>.inl ⟨rfl,rfl⟩) λ e z c z q z ih i=>by
  cases i with
  |zero=>exact .inr ⟨e,c,rfl,rfl,q⟩
  |succ i=>exact ih i
theorem bP.cons{e:Int×ag}{c:List Nat}{es:List (Int×ag)}{cs:List (List Nat)}(h1:JS O h e c)(r:bP O h es cs):bP O h (e::es) (c::cs):=⟨h1.1,h1.2,r⟩
theorem bP.pick{es:List (Int×ag)}{cs:List (List Nat)}(r:bP O h es cs):∀l:List Nat,bP O h (l.filterMap (es[·]?)) (l.filterMap (cs[·]?))
 |[]=>trivial
 |i::l=>by
  rcases r.at i with⟨h1,h2⟩|⟨e,c,h1,h2,h3⟩
  ·rw[f_,f_,h1,h2];exact bP.pick r l
  ·rw[f_,f_,h1,h2];exact .cons h3 (bP.pick r l)
theorem bP.insert{e:Int×ag}{c:List Nat}(h1:JS O h e c){es:List (Int×ag)}{cs:List (List Nat)}(p:Nat)(r:bP O h es cs):bP O h (es.take p++e::es.drop p) (cs.take p++c::cs.drop p):=
 bP.ind (M:= λ es cs=>∀p,bP O h (es.take p++e::es.drop p) (cs.take p++c::cs.drop p)) r (λ p=>by cases p<;>exact .cons h1 trivial) (λ z z z z q r ih p=>by
  cases p with
  |zero=>exact .cons h1 (.cons q r)
  |succ p=>exact .cons q (ih p)) p
theorem bP.perm{es rP:List (Int×ag)}(hp:rP.Perm es):∀{cs:List (List Nat)},bP O h es cs→∃QH,QH.Perm cs∧bP O h rP QH:=by
 induction hp with
 |nil=>intro cs r;exact⟨cs,.refl _,r⟩
 |cons x _ ih=>
  intro cs r
  rcases cs with _|⟨c,cs⟩
  ·exact r.elim
  ·refine c0 (ih r.2.2) λ QH p r'=>?_;exact⟨c::QH,p.cons c,r.1,r.2.1,r'⟩
 |swap x y l=>
  intro cs r
  rcases cs with _|⟨c,_|⟨d,cs⟩⟩
  ·exact r.elim
  ·exact r.2.2.elim
  ·exact⟨d::c::cs,.swap _ _ _,r.2.2.1,r.2.2.2.1,r.1,r.2.1,r.2.2.2.2⟩
 |trans _ _ mC mB=>
  intro cs r;refine c0 (mB r) λ c1 p1 r1=>?_;refine c0 (mC r1) λ c2 p2 r2=>?_;exact⟨c2,p2.trans p1,r2⟩
end
theorem jW{α:Type}(xs:Array α)(p:Nat)(x:α):(bt xs p x).toList=xs.toList.take p++x::xs.toList.drop p:=by
 unfold bt;simp only[Array.toList_append,Array.toList_push,Array.toList_extract,List.extract_eq_drop_take,List.drop_zero,DV,j5,List.singleton_append]
 congr 2
 exact List.take_of_length_le (by simp)
section
variable {c:Cx}{n:Nat}{E:VE}{ρ ρ':List Sl}{β:dH}{O:List Addr}{ad:Nat→List Addr}{s:ae}
theorem cT.dat{fp:List Addr}{h:Heap}{v:ag}{q:OD}{d:D}(r:cT c (fp++O) h v q fp)(hq:q.Bm=some d)(hf:∀a∈fp,a∉O):bh c.w O h v d:=r.Bm hq hf λ a ha=>ao _ ha
theorem gF.ev{e:Expr}{q:OD}{d:D}(h:gF c n E ρ e q)(hq:q.Bm=some d):Ev c n E ρ e d:= λ A β O ad s R I=>
 wm (h A β O ad s R I) λ v s' z=>by
  refine eE z ?_;clear z;intro fp g S r hf;exact⟨g,S,r.dat hq λ a ha hO=>ak _ (ab (I.lt a hO) (hf a ha).1)⟩
theorem ez.lookup_none{w:a9}{h:Heap}{ps:List (Str×ag)}{fs:List (Str×D)}{x:Str}(r:ez w O h ps fs):fs.lookup x=none→ps.lookup x=none:=
 r.ind (λ z=>rfl) λ y v vs d ds q z ih e=>by
  rw[aX]at e⊢;cases hx:x==y with
  |true=>rw[hx]at e;cases e
  |false=>rw[hx]at e;exact ih e
theorem tK{A:aK}{a dx C f:Addr}{es:List cV}{m:Nat}{name:Str}{pl:Sem Bool}{Q:ag×List ag→ae→Prop}{X:ag→ae→Prop}(S:bF c s)(h1:s.heap.get? a=some (ig C dx))(h2:s.heap.get? dx=some (dictOf es m))(hM:jS c.K C name f=true)(hl:getL name es=some none)(h:Q (.ref f,[.ref a]) s):wpAny (model c.prog c.w) A (getMethod (.ref a) name pl) Q X s:=by
 unfold jS at hM;simp only[bg,beq_iff_eq]at hM;refine xa hM ?_;clear hM;intro y1 h7;refine xa y1 ?_;clear y1;intro y2 h6;refine xa y2 ?_;clear y2;intro y3 h5;refine xa y3 ?_;clear y3;intro h3 h4;exact method_fn S.fZ (iI h1 h2) (oM h3).1 (oM h3).2 h4 (beq_iff_eq.mp h5) (by show(lookIn name (dictOf es m)).map _=_;rw[lookIn_dict,hl];rfl) h
theorem sk{C f:Addr}{name:Str}(hM:jS c.K C name f=true):jz c (.ref f):=by
 unfold jS at hM;simp only[bg]at hM;exact hM.2
theorem Hk{A:aK}{o:Expr}{name:Str}{apos pos:Pos}{args:List Expr}{kws:List dT}{C f:Addr}{fs:List (Str×D)}{ds:List D}{kwds:List (Str×D)}(R:Rm A n)(I:Inv c E β O ad ρ s)(ct:Ev c n E ρ o (.inst C fs))(hM:jS c.K C name f=true)(zv:fs.lookup name=none)(ha:cn c n E ρ args ds)(hk:ov c n E ρ kws kwds){Q:ag→ae→Prop}(i_:attributeBase o name E.env (eval o E.env)=eval o E.env)(zw:methodCallForm (args.length+kws.length) (backTo pos (starEach args E.env)) (backToKw pos (keywordEach kws E.env))=true)(iP:(apos.endLine==pos.line)=true)(hp:(starEach args E.env).any (·.1)=false)(h:∀vs ks s',aB c [] [] s s'→Inv c E β O ad ρ s'→a0 c.w O s'.heap vs (.inst C fs::ds)→ez c.w O s'.heap ks kwds→wpAny (model c.prog c.w) A (call (.ref f) vs ks) Q aZ s'):
  wpAny (model c.prog c.w) A (eval (.Call (.Attribute o name apos) args kws pos) E.env) Q aZ s:=by
 rw[arm_eval_Call,i_];refine aa (ct.go R I λ v au cZ bj bC=>?_);refine aa (bS ?_);have nZ:=bC;refine iB bC ?_;clear bC;intro a dx zh;refine cJ zh ?_;clear zh;intro es m ps z1 z z zh;refine cg zh ?_;clear zh;intro h1 h2 hm rf;subst z1;unfold methodCall;rw[zw];refine aa (aV (show wpAny _ _ (getMethod _ _ _) _ _ _ from tK bj.br h1 h2 hM (by rw[hm,rf.lookup_none zv]) ?_));have Dp:methodCallPos true o E.env apos pos=pure pos:=by unfold methodCallPos;simp[iP]
 refine aa (cU Dp ?_);refine fT R bj (sk hM) ha hk hp λ vs ks s' x I' r r'=>?_;exact h (.ref a::vs) ks s' (cZ.trans x) I' (by exact⟨x.rep0 nZ,r⟩) r'
theorem Ev.Nc{o:Expr}{name:Str}{apos pos:Pos}{args:List Expr}{kws:List dT}{C f:Addr}{fs:List (Str×D)}{ds:List D}{kwds:List (Str×D)}{d:D}(ct:Ev c n E ρ o (.inst C fs))(hM:jS c.K C name f=true)(zv:fs.lookup name=none)(ha:cn c n E ρ args ds)(hk:ov c n E ρ kws kwds)(hf:Fn c n (.ref f) (.inst C fs::ds) kwds d)(i_:autoParam (attributeBase o name E.env (eval o E.env)=eval o E.env) rf)(zw:autoParam (methodCallForm (args.length+kws.length) (backTo pos (starEach args E.env)) (backToKw pos (keywordEach kws E.env))=true) rf)(iP:autoParam ((apos.endLine==pos.line)=true) rf)(hp:autoParam ((starEach args E.env).any (·.1)=false) rf):
  Ev c n E ρ (.Call (.Attribute o name apos) args kws pos) d:= λ A β O ad s R I=>
 Hk R I ct hM zv ha hk i_ zw iP hp λ vs ks s' x I' r r'=>wm (hf A O s' vs ks R I'.o r r') λ z z q=>q.after x
noncomputable def xr(K:Frag)(C:Addr)(name:Str)(p f:Addr):Bool:=plainGet K C name&&hasDictIn K C&&findIn K (.ref C) name==some (some (.ref p))&&specialIn K (.ref p) "__get__"==some (some (.builtin "property.__get__"))&&takesIn K (.ref p)==some true&&
 ((recIn K p "property").bind List.head?)==some (.ref f)
noncomputable def PU(c:Cx)(O:List Addr)(s:ae)(d:D)(s':ae):iw→Prop
 |.ok (.ret v)=>Res c O s d v s'
 |_=>False
@[elab_as_elim] theorem Rc {c:Cx} {O:List Addr} {s s':ae} {d:D} {M:iw→Prop} {r:iw} (z:PU c O s d s' r) (k:∀v,Res c O s d v s'→M (.ok (.ret v))):M r:=by
 cases r with
 |error=>exact z.elim
 |ok f=>cases f with
  |ret v=>exact k v z
  |_=>exact z.elim
noncomputable def P4(c:Cx)(n:Nat)(a:Addr)(ds:List D)(d:D):Prop:=
 ∀(A:aK) (O:List Addr) (s:ae) (vs:List ag),Rm A n→Ok c O s→a0 c.w O s.heap vs ds→codeAny (model c.prog c.w) A (.call (.ref a) ⟨vs,[]⟩) (λ r s'=>PU c O s d s' r) s
theorem P4.of{a:Addr}{fd:FuncData}{body:List Stmt}{vn:List Str}{np:Nat}{ds:List D}{d:D}(F:nG c a fd body)(k:rN fd vn np=true)(ij:fd.scope.isGenerator=false)(hlen:ds.length=np)(hb:∀s vs,bF c s→vs.length=ds.length→iy s fd ⟨vs,[]⟩ ((vn.take np).zip vs))(h:∀L,Ex c n (mO fd L a vn) ((ds.map Sl.val)++al (vn.length-np) .no) body (.ret d)):P4 c (n+1) a ds d:= λ A O s vs R K r=>by
 refine a7 (m6 (W:=[]) (G:=[]) (Q:= λ v s'=>Res c O s d v s') F k ij R (.fk K r) (by rw[r.length,hlen]) (hb s vs K.br r.length) λ O' ad au qJ I gz hL hC=>?_) λ r s' z=>z
 ·refine wm (h _ _ _ au R.deeper ⟨O',ad,I.pad⟩) λ f s' z=>?_;refine eE z ?_;clear z;intro v z1 g S r;subst z1;exact⟨g,S,r⟩
set_option tactic.hygienic true in
theorem Ev.prop{x name:Str}{p pos:Pos}{C pr f:Addr}{fs:List (Str×D)}{d:D}(h:Ev c (n+1) E ρ (.Name x p) (.inst C fs))(hP:xr c.K C name pr f=true)(hf:P4 c n f [.inst C fs] d)(hd:autoParam (d.seen=true) rf):Ev c (n+1) E ρ (.Attribute (.Name x p) name pos) d:= λ A β O ad s R I=>by
 unfold xr at hP;simp only[bg,beq_iff_eq]at hP;refine xa hP ?_;clear hP;intro y1 h6;refine xa y1 ?_;clear y1;intro y2 h5;refine xa y2 ?_;clear y2;intro y3 h4;refine xa y3 ?_;clear y3;intro y4 h3;refine xa y4 ?_;clear y4;intro h1 h2;refine c0 (cL.mp h6) λ l R5 h6=>?_;cases l with
 |nil=>cases h6
 |cons g rest=>
  cases h6;refine hJ (h.go R I λ v au cZ bj r=>?_);have r':=r;refine iB r ?_;clear r;intro a dx zh;refine c_ zh ?_;clear zh;intro es m ps z1 j zh;refine cg zh ?_;clear zh;intro j ha Oz j;subst z1;have g1:aB c [] [] au {au with toks:=au.toks+1}:=(aB.refl ..).toks;have cd:=hf A.in1 O {au with toks:=au.toks+1} [.ref a] R.in1 ⟨bj.br.toks,bj.o.lt,bj.o.low⟩ (by exact⟨r',trivial⟩);refine get_bind bj.br.fZ (iI ha Oz) (oM h1).1 (findObj_data (by refine c0 (any_some h2) λ cd hc j=>?_;rw[hc];rfl) h3 h4 h5) (oM h1).2 (kg (prop_get (s:={au with toks:=au.toks+1}) bj.br.fZ R5 (a7 cd λ r s' z=>?_)));exact Rc z λ v z=>handed_on (z.2.2.handed hd) (z.after (cZ.trans g1))
end
section
variable {c:Cx}{n:Nat}{E:VE}{ρ ρ':List Sl}{O:List Addr}{s:ae}{A:aK}{X:ag→ae→Prop}
theorem itemsAre{p:Program}{w:a9}{vs:List ag}{ks:List Int}(h:fb vs ks):ItemsAre (intKind p w) ks vs:=by
 induction h with
 |nil=>exact .nil
 |cons n t _ ih=>exact .cons (qQ _ _ _ _) ih
theorem tQ{p:Program}{w:a9}{h:Heap}{b:Addr}{vs:List ag}{ks:List Int}(ht:lQ h b vs.toArray)(hi:fb vs ks):IsTupleKey (intKind p w) h ks b:=by
 refine nO ht ?_;clear ht;intro o ho hc m hd;exact⟨o,vs.toArray,m,ho,hc,hd,itemsAre hi⟩
theorem zd{vs:List ag}{ks:List Int}(h:fb vs ks):∀v∈vs,∃i t,v=.int i t:=by
 induction h with
 |nil=>exact List.forall_mem_nil _
 |cons n t _ ih=>exact aU.mpr ⟨⟨n,t,rfl⟩,ih⟩
theorem qi{b:Addr}{vs:List ag}{ks:List Int}{Q:Bool→ae→Prop}(ht:lQ s.heap b vs.toArray)(hi:fb vs ks)(h:Q false s):wpAny (model c.prog c.w) A (ofAClassStatement 8 (.ref b)) Q X s:=by
 refine nO ht ?_;clear ht;intro o ho hc m hd
 set_option smartUnfolding false in
 show wpAny _ _ (typeOf (.ref b)>>=_) _ _ s;refine aa (f6 (T:="tuple") ⟨o,ho,hc⟩ ?_);refine wP (by decide) ?_;refine v5 ?_;refine wF ?_;refine aa (gX ho hd ?_);show wpAny _ _ (forIn vs.toArray _ _>>=_) _ _ s;rw[← Array.forIn_toList];refine aa (z6 _ (λ rest r s'=>r.1=none∧s'=s∧∀v∈rest,∃i t,v=nH i t) _ ?_ ?_ _ _ ⟨rfl,rfl,zd hi⟩)
 ·rintro v rest r s' ⟨hr,rfl,pG⟩
  refine iB (pG v (.head _)) λ i t z1=>?_;subst z1
  set_option smartUnfolding false in
  show wpAny _ _ (pure false>>=_) _ _ _;refine v5 ?_;refine wF ?_;exact ah ⟨rfl,rfl,λ u hu=>pG u (.tail _ hu)⟩
 ·rintro⟨r1,r2⟩ s' ⟨hr,rfl,_⟩
  simp only at hr;subst hr;exact ah h
theorem tJ{b:Addr}{vs:List ag}{ks:List Int}{Q:Bool→ae→Prop}{d:Nat}(ht:lQ s.heap b vs.toArray)(hi:fb vs ks)(h:Q true s):wpAny (model c.prog c.w) A (hashByValue (d+1) (.ref b)) Q X s:=by
 refine nO ht ?_;clear ht;intro o ho hc m hd;refine aa (iL (T:="tuple") ⟨o,ho,hc⟩ PySem.F.slot_tuple_hash.lookup ?_);refine aa (gX ho hd ?_);show wpAny _ _ (forIn vs.toArray _ _>>=_) _ _ s;rw[← Array.forIn_toList];refine aa (z6 _ (λ rest r s'=>r.1=none∧s'=s∧∀v∈rest,∃i t,v=nH i t) _ ?_ ?_ _ _ ⟨rfl,rfl,zd hi⟩)
 ·rintro v rest r s' ⟨hr,rfl,pG⟩
  refine iB (pG v (.head _)) λ i t z1=>?_;subst z1;rw[show hashByValue d (.int i t)=pure true by cases d<;>rfl];refine v5 ?_;refine wF ?_;exact ah ⟨rfl,rfl,λ u hu=>pG u (.tail _ hu)⟩
 ·rintro⟨r1,r2⟩ s' ⟨hr,rfl,_⟩
  simp only at hr;subst hr;exact ah h
noncomputable def uY(h:Heap)(v:ag):Prop:=∃b vs ks,v=.ref b∧lQ h b vs.toArray∧fb vs ks
theorem Hj{x:ag}{ys:List ag}{Q:Bool→ae→Prop}(hx:uY s.heap x)(hy:∀y∈ys,uY s.heap y)(h:Q false s):wpAny (model c.prog c.w) A (searchCouldBeSeen x ys) Q X s:=by
 refine aa (z6 _ (λ rest r s'=>r.1=none∧s=s'∧∀v∈rest,uY s.heap v) _ ?_ ?_ _ _ ⟨rfl,rfl,hy⟩)
 ·rintro y rest r s' ⟨hr,rfl,pG⟩
  refine c_ hx ?_;clear hx;intro b vs ks z1 ht hi;subst z1;refine c_ (pG y (.head _)) λ b' i7 Rq z1 NZ Du=>?_;subst z1;have fin:∀v∈rest,uY s.heap v:= λ u hu=>pG u (.tail _ hu);dsimp only
  split
  ·exact ah ⟨rfl,rfl,fin⟩
  ·refine aa (wpAny_eqIsQuiet_tuple (tQ (p:=c.prog) (w:=c.w) ht hi) ?_);refine wF ?_;refine aa (wpAny_eqIsQuiet_tuple (tQ (p:=c.prog) (w:=c.w) NZ Du) ?_);refine wF ?_;refine aa (qi ht hi ?_);refine wF ?_;refine aa (qi NZ Du ?_);refine wF ?_;exact ah ⟨rfl,rfl,fin⟩
 ·rintro⟨r1,r2⟩ s' ⟨hr,rfl,_⟩
  simp only at hr;subst hr;exact ah h
theorem xc{w:a9}{p:Program}{h:Heap}{e:Int×ag}{k:List Nat}(x:JS O h e k):∃b,e.2=.ref b∧b∉O∧IsTupleKey (intKind p w) h (k.map qV) b:=by
 refine lY x ?_;clear x;intro z b vs h1 h2 h3 h4;exact⟨b,h1,h2,tQ h3 h4⟩
theorem bP.QT{h:Heap}{es:List (Int×ag)}{cs:List (List Nat)}(r:bP O h es cs):∀e∈es,uY h e.2:=
 r.ind (λ e he=>nn he) λ e z c z q z ih e' he=>by
  rcases mc he with rfl|he
  ·refine bO q.2 ?_;intro b vs h1 z h3 h4;exact⟨b,vs,_,h1,h3,h4⟩
  ·exact ih e' he
theorem bP.hashes{h:Heap}{es:List (Int×ag)}{cs:List (List Nat)}(r:bP O h es cs):es.map (·.1)=cs.map gy:=
 r.ind rfl λ e z c z q z ih=>by rw[a_,a_,q.1,ih]
theorem BW(st:TS)(b:Bool)(j:Nat):(st.tab b).put j=(⟨st.mask,bt st.place.toArray (b8 st.place.toArray j) j,#[],0,b,st.moves,true⟩,b8 st.place.toArray j):=rfl
theorem AY{mask moves:Nat}{place:Array Nat}{hs:Array Int}{rh:Nat}{t':SetTable}{order:Array Nat}(h:(Ax mask place #[] 0 true moves true).relaid hs rh=some (t',order))(b:Bool):
  (Ax mask place #[] 0 b moves true).relaid hs rh=some (⟨t'.mask,t'.place,#[],0,b,t'.moves,true⟩,order):=by
 unfold SetTable.relaid SetTable.laid at h⊢;cases hl:SetTable.layClean (lT rh-1) hs with
 |none=>rw[hl]at h;cases h
 |some owner=>
  rw[hl]at h;injection h with h
  injection h with h1 h2
  subst h1;subst h2;rfl
theorem yy{n:Nat}(h:n≤7):lT (lR n)≤sizeLine:=by
 have:∀n∈ay 8,lT (lR n)≤32:=by decide
 have:=this n (aM.mpr (by exact cY h));rw[cH];exact af this (aG _ _)
theorem uF{h:Heap}{a:Addr}{es:Array (Int×ag)}{m:Nat}{t:SetTable}(rP:Array (Int×ag))(t':SetTable)(ho:h.get? a=some (cS es m t)):(h.update a (jB rP t')).get? a=some (cS rP (m+1) t'):=by
 have:=b7 (jB rP t') ho (by rw[putSet_of _ _ rfl];rfl);rw[putSet_of _ _ rfl]at this;exact this
theorem J5{k:Nat}{st:TS}(kt:st∈l4 k):st.ids.length+1≤st.mask:=by
 have h1:(l4 1).all (λ st=>decide (st.ids.length+1≤st.mask))=true:=by decide +kernel
 have h2:(l4 2).all (λ st=>decide (st.ids.length+1≤st.mask))=true:=by decide +kernel
 have h3:(l4 3).all (λ st=>decide (st.ids.length+1≤st.mask))=true:=by decide +kernel
 exact L5 (M:= λ k=>st∈l4 k→st.ids.length+1≤st.mask) k (λ h=>nn h) (λ h=>of_decide_eq_true (bD.mp h1 _ h)) (λ h=>of_decide_eq_true (bD.mp h2 _ h)) (λ h=>of_decide_eq_true (bD.mp h3 _ h)) (λ k h=>nn h) kt
noncomputable def TS.plus(k:Nat)(st:TS)(x:Nat):TS:=if x∈st.ids then st else(st.add (nR k) x).getD st
theorem TS.xt{k:Nat}{st:TS}{x:Nat}(kt:st∈l4 k)(hx:x<(j9 k).length):st.plus k x∈l4 k∧(x∈st.ids→st.plus k x=st)∧(x∉st.ids→(st.plus k x).ids.Perm (x::st.ids)):=by
 unfold TS.plus
 by_cases h:x∈st.ids
 ·rw[if_pos h];exact⟨kt,λ z=>rfl,λ h'=>absurd h h'⟩
 ·rw[if_neg h];refine cI ((Ey kt).new x hx h) λ y h1 h2 h3=>?_;rw[h1];exact⟨h2,λ h'=>absurd h' h,λ z=>h3⟩
theorem yD{a:Addr}{x:ag}{h:Int}{j m:Nat}{es:Array (Int×ag)}{t:SetTable}(ho:s.heap.get? a=some (cS es m t))(hf:t.fits es.size=true)(hg:t.gaveWay=false)(hp:t.probe (λ i=>((es[i]?).map (·.1)).getD 0) h (t.probeStart h)=some (.empty j none)){Q:pV→ae→Prop}(hq:Q (.free j false) s):wpAny (model c.prog c.w) A (setSearch a x h true) Q X s:=
 aa (a8 ho rfl hf (wN (by rw[hg];decide) (by
  show wpAny _ A (_:Sem pV) _ _ _;generalize e:t.probe _ _ _=o;obtain rfl:o=_:=e.symm.trans hp;exact ah hq)))
theorem AQ{a b:Addr}{x:ag}{h eh:Int}{i j m:Nat}{nx:ir}{es:Array (Int×ag)}{t:SetTable}(ho:s.heap.get? a=some (cS es m t))(hf:t.fits es.size=true)(hg:t.gaveWay=false)(hp:t.probe (λ i=>((es[i]?).map (·.1)).getD 0) h (t.probeStart h)=some (.candidate j i nx))(he:es[i]? =some (eh,.ref b))(hs:∀{Q:Bool→ae→Prop},Q false s→wpAny (model c.prog c.w) A (searchCouldBeSeen x ((es.filter (·.1==h)).toList.map (·.2))) Q X s)(hq:∀{Q:Bool→ae→Prop},Q true s→wpAny (model c.prog c.w) A (eqBool (.ref b) x) Q X s){Q:pV→ae→Prop}(k:Q (.there none) s):wpAny (model c.prog c.w) A (setSearch a x h true) Q X s:=
 aa (a8 ho rfl hf (wN (by rw[hg];decide) (by
  show wpAny _ A (_:Sem pV) _ _ _;generalize e:t.probe _ _ _=o;obtain rfl:o=_:=e.symm.trans hp;have jp:∀f:Unit→Sem pV,wpAny (model c.prog c.w) A (f ()) Q X s→wpAny (model c.prog c.w) A (if(!t.led)=true then searchCouldBeSeen x ((es.filter (·.1==h)).toList.map (·.2))>>= λ z=>if z=true then(unsupported "set:the-search-would-show-the-table":Sem Unit)>>=f else f ()else f ()) Q X s:= λ f hk=>by
   split
   ·exact aa (hs (wN (by decide) hk))
   ·exact hk
  refine jp _ ?_;show wpAny _ A (_:Sem pV) _ _ _;generalize e2:es[i]? =o;obtain rfl:o=_:=e2.symm.trans he;exact aa (aV (hq (aa (a8 ho rfl hf (wP rfl (ah k)))))))))
theorem DI{a:Addr}{x:ag}{h:Int}{m:Nat}{es:Array (Int×ag)}{t:SetTable}(ho:s.heap.get? a=some (cS es m t))(hf:t.fits es.size=true)(hb:byScan x es=false)(hs:∀{Q:pV→ae→Prop},Q (.there none) s→wpAny (model c.prog c.w) A (setSearch a x h true) Q X s){Q:Bool→ae→Prop}(k:Q false s):wpAny (model c.prog c.w) A (setAddHashed a x h) Q X s:=
 aV (aa (a8 ho rfl hf (wN (by rw[hb];decide) (aa (hs (ah k))))))
theorem GR{a:Addr}{x:ag}{h:Int}{j m p:Nat}{es uJ:Array (Int×ag)}{t er:SetTable}(ho:s.heap.get? a=some (cS es m t))(hf:t.fits es.size=true)(hb:byScan x es=false)(hs:∀{Q:pV→ae→Prop},Q (.free j false) s→wpAny (model c.prog c.w) A (setSearch a x h true) Q X s)(Bg:t.put j=(er,p))(FW:er.plain=true)(hv:∀{Q:Bool→ae→Prop},Q true s→wpAny (model c.prog c.w) A (hashByValue 8 x) Q X s)(he:bt es p (h,x)=uJ)(hz:uJ.size≤sizeLine){Q:Bool→ae→Prop}(k0:er.tooFull=false→Q true {s with heap:=s.heap.update a (jB uJ er)})(k1:er.tooFull=true→wpAny (model c.prog c.w) A (setRelay a (lR (es.size+1))) (λ z s'=>Q true s') X {s with heap:=s.heap.update a (jB uJ er)}):wpAny (model c.prog c.w) A (setAddHashed a x h) Q X s:=by
 subst he;refine aV (aa (a8 ho rfl hf (wN (by rw[hb];decide) (aa (hs (aa (a8 ho rfl hf ?_)))))));dsimp only;generalize t.put j=o at Bg⊢;subst Bg;refine wP FW (aa (hv (aa (oN (t':=er) ho rfl ?_ hz))));cases e:er.tooFull with
 |true=>exact wP (show(!false&&er.tooFull)=true by rw[e];rfl) (aa (jc (k1 e) (λ z z q=>ah q) λ z z q=>q))
 |false=>exact wN (show¬(!false&&er.tooFull)=true by rw[e];decide) (ah (k0 e))
theorem CW{a:Addr}{m w:Nat}{es rP:Array (Int×ag)}{t t':SetTable}{od:Array Nat}(ho:s.heap.get? a=some (cS es m t))(hf:t.fits es.size=true)(hn:¬lT w>sizeLine)(hr:t.relaid (es.map (·.1)) w=some (t',od))(he:od.filterMap (es[·]?)=rP)(hz:rP.size=es.size)(hl:rP.size≤sizeLine){Q:Unit→ae→Prop}(k:Q () {s with heap:=s.heap.update a (jB rP t')}):wpAny (model c.prog c.w) A (setRelay a w) Q X s:=by
 subst he;refine aa (a8 ho rfl hf (wN hn ?_));dsimp only;generalize t.relaid _ _=o at hr⊢;subst hr;exact aa (wN (by rw[hz];simp) (ah (oN ho rfl k hl)))
theorem bP.Jg{k:Nat}{h:Heap}{es:Array (Int×ag)}{ids:Array Nat}(r:bP O h es.toList (ids.toList.map (fS k)))(od:Array Nat):bP O h (od.filterMap (es[·]?)).toList ((od.filterMap (ids[·]?)).toList.map (fS k)):=by
 have e:(λ i=>(ids.toList.map (fS k))[i]?)= λ i=>(ids[i]?).map (fS k):=funext λ i=>by rw[bU,kH]
 have e2:(λ i=>es.toList[i]?)= λ i=>es[i]? :=funext λ i=>kH;rw[BL,BL,List.map_filterMap,← e,← e2];exact r.pick od.toList
theorem bP.hsh{k:Nat}{h:Heap}{es:Array (Int×ag)}{ids:Array Nat}(r:bP O h es.toList (ids.toList.map (fS k)))(hl:∀i∈ids.toList,i<(j9 k).length):es.map (·.1)=ids.map λ x=>(nR k).getD x 0:=
 Array.toList_inj.mp (by
  rw[vf,vf,r.hashes,bK];exact ck λ i hi=>(BU (hl i hi)).symm)
theorem bP.zl{k:Nat}{h:Heap}{es:Array (Int×ag)}{ids:List Nat}(r:bP O h es.toList (ids.map (fS k)))(hl:∀i∈ids,i<(j9 k).length):(λ i=>((es[i]?).map (·.1)).getD 0)=zl (nR k) ids:=by
 have e:=bP.hsh (ids:=ids.toArray) r hl
 funext i
 rw[← Array.getElem?_map,e,Array.getElem?_map,List.getElem?_toArray];rfl
theorem pd{α:Type}(xs:Array α)(p:Nat)(x:α):(bt xs p x).size=xs.size+1:=by
 rw[← i6,jW,aY,aJ,← eM,← aY,D0,i6]
theorem TS.IT{hs:List Int}{st y:TS}{x:Nat}(hy:st.add hs x=some y):∃j,(st.tab true).probe (Mine.zl hs st.ids) (hs.getD x 0) ((st.tab true).probeStart (hs.getD x 0))=some (.empty j none)∧
  ((((st.tab true).put j).1.tooFull=false∧y=⟨(bt st.ids.toArray ((st.tab true).put j).2 x).toList,((st.tab true).put j).1.place.toList,((st.tab true).put j).1.mask,((st.tab true).put j).1.moves⟩)∨
   (((st.tab true).put j).1.tooFull=true∧∃t' od,((st.tab true).put j).1.relaid ((bt st.ids.toArray ((st.tab true).put j).2 x).map λ x=>hs.getD x 0) (lR (st.ids.length+1))=some (t',od)∧y=⟨(od.filterMap ((bt st.ids.toArray ((st.tab true).put j).2 x)[·]?)).toList,t'.place.toList,t'.mask,t'.moves⟩)):=by
 unfold TS.add at hy;generalize (st.tab true).probe _ _ _=o at hy⊢
 rcases o with _|⟨j,_|d⟩|_
 ·cases hy
 ·refine⟨j,rfl,?_⟩;dsimp only at hy;generalize (st.tab true).put j=u at hy⊢;cases e:u.1.tooFull with
  |false=>rw[e]at hy;exact .inl ⟨rfl,(cG hy).symm⟩
  |true=>
   rw[e]at hy;rw[if_pos rfl]at hy;generalize u.1.relaid _ _=o at hy⊢
   rcases o with _|⟨t',od⟩
   ·cases hy
   ·exact .inr ⟨rfl,t',od,rfl,(cG hy).symm⟩
 ·cases hy
 ·cases hy
theorem yA{a b:Addr}{k x:Nat}{st:TS}{es:Array (Int×ag)}{m:Nat}{Q:Bool→ae→Prop}(hu:A.units<cLine)(kt:st∈l4 k)(ho:s.heap.get? a=some (cS es m (st.tab !cN c.w)))(hE:bP O s.heap es.toList (st.ids.map (fS k)))(hx:x<(j9 k).length)(hb:JS O s.heap (gy (fS k x),.ref b) (fS k x))(hQ:∀r h' rP m',c9 a s.heap h'→h'.get? a=some (cS rP m' ((st.plus k x).tab !cN c.w))→bP O s.heap rP.toList ((st.plus k x).ids.map (fS k))→Q r {s with heap:=h'}):
  wpAny (model c.prog c.w) A (setAddHashed a (.ref b) (gy (fS k x))) Q X s:=by
 have T:=Ey kt;have hz:es.size=st.ids.length:=by have:=hE.length;simpa using this
 have hf:(st.tab !cN c.w).fits es.size=true:=by rw[hz];exact TS.fits T _
 have hH:=hE.zl T.lt;have hg:(st.tab !cN c.w).gaveWay=false:=by unfold SetTable.gaveWay;simp[TS.tab,T.odd]
 have hp:(st.tab !cN c.w).probe (λ i=>((es[i]?).map (·.1)).getD 0) (gy (fS k x)) ((st.tab !cN c.w).probeStart (gy (fS k x)))=(st.tab true).probe (zl (nR k) st.ids) ((nR k).getD x 0) ((st.tab true).probeStart ((nR k).getD x 0)):=by
  rw[C9,hH,BU hx];rfl
 have U0:byScan (.ref b) es=false:=rfl
 by_cases hm:x∈st.ids
 ·have FW:st.plus k x=st:=by unfold TS.plus;rw[if_pos hm]
  rw[FW]at hQ;refine lB (T.fV x hm) λ j i p he hi=>?_
  rcases hE.at i with⟨_,h2⟩|⟨⟨eh,ev⟩,cc,h1,h2,h3⟩
  ·rw[bU,hi]at h2;cases h2
  rw[bU,hi]at h2;obtain rfl:=cG h2;refine cI (xc (p:=c.prog) (w:=c.w) h3) λ b' hv u V7=>?_;refine cI (xc (p:=c.prog) (w:=c.w) hb) λ Px FQ u kb=>?_;obtain rfl:b=Px:=Value.ref.inj FQ;obtain rfl:ev=.ref b':=hv;exact DI ho hf U0 (AQ ho hf hg (hp.trans he) (kH▸h1) (λ hq=>Hj (ew hb.2 λ b vs h1 zh=>⟨b,vs,_,h1,zh.2.1,zh.2.2⟩) (λ y hy=>c0 (aL.mp hy) λ e' K9 z=>z▸hE.QT e' (D4.mpr (Array.mem_filter.mp (D4.mp K9)).1)) hq)
   λ hq=>wpAny_eqBool_tuple hu V7 kb (by rw[decide_eq_true rfl];exact hq)) (hQ false s.heap es m (Heap.SameBut.refl _ _) ho hE)
 ·refine cI (T.new x hx hm) λ y hy Yi Wg=>?_;have FW:st.plus k x=y:=by unfold TS.plus;rw[if_neg hm,hy];rfl
  rw[FW]at hQ;refine c0 (TS.IT hy) λ j he hy=>?_;have sR:(bt es (b8 st.place.toArray j) (gy (fS k x),dQ b)).size=st.ids.length+1:=by rw[pd,hz]
  have Ig:(bt st.place.toArray (b8 st.place.toArray j) j).size=st.ids.length+1:=by rw[pd];exact congrArg (· +1) T.len
  have gE:∀i∈(bt st.ids.toArray (b8 st.place.toArray j) x).toList,i<(j9 k).length:= λ i hi=>by
   rw[jW]at hi
   rcases aC.mp hi with hi|hi
   ·exact T.lt i (qb hi)
   ·rcases mc hi with rfl|hi
    ·exact hx
    ·exact T.lt i (List.mem_of_mem_drop hi)
  have Iq:bP O s.heap (bt es (b8 st.place.toArray j) (gy (fS k x),dQ b)).toList ((bt st.ids.toArray (b8 st.place.toArray j) x).toList.map (fS k)):=by
   rw[jW,jW,ia,a_,Az,List.map_drop];exact hE.insert hb _
  have h7:st.ids.length+1≤7:=cY T.T6;refine GR ho hf U0 (yD ho hf hg (hp.trans he)) (BW ..) rfl (λ hq=>by refine lY hb λ u bb vs Xo u Xm Xl=>?_;obtain rfl:=Value.ref.inj Xo;exact tJ Xm Xl hq) rfl (by rw[sR];exact cR (af h7 (by decide))) ?_ ?_
  all_goals
   rw[BW]at hy;dsimp only at hy;generalize bt st.ids.toArray (b8 st.place.toArray j) x=ids at*;have wB:=uF (bt es (b8 st.place.toArray j) (gy (fS k x),dQ b)) ⟨st.mask,bt st.place.toArray (b8 st.place.toArray j) j,#[],0,!cN c.w,st.moves,true⟩ ho;generalize bt es (b8 st.place.toArray j) (gy (fS k x),dQ b)=uJ at*;generalize bt st.place.toArray (b8 st.place.toArray j) j=pl at*
  ·intro zu
   rcases hy with⟨_,rfl⟩|⟨h,_⟩
   ·exact hQ true _ _ _ (bA ..) wB Iq
   ·exact absurd (h.symm.trans zu) (by decide)
  ·intro zu
   rcases hy with⟨h,_⟩|⟨_,t',od,R3,rfl⟩
   ·exact absurd (h.symm.trans zu) (by decide)
   ·have NN:(od.filterMap (uJ[·]?)).size=uJ.size:=by
     have h1:=(Iq.Jg od).length;have h2:=Wg.length_eq;rw[aE]at h1;rw[← i6,h1,sR];exact h2
    exact CW wB (by unfold pW ml;rw[sR,Ig];simp[J5 kt]) (Nat.not_lt_of_le (hz▸yy h7)) ((Iq.hsh gE).symm▸hz▸AY R3 (!cN c.w)) rfl NN (by rw[NN,sR];exact cR (af h7 (by decide)))
     (hQ true _ _ _ ((bA ..).trans (bA ..)) (uF _ _ wB) (Iq.Jg od))
end
section
variable {c:Cx}{n:Nat}{E:VE}{ρ ρ':List Sl}{O:List Addr}{s:ae}
theorem sV{p:Program}{w:a9}{A:aK}{X:ag→ae→Prop}{s:ae}{Q₁:ag→ae→Prop}(h:Q₁ (.ref s.heap.objs.size) {s with heap:=s.heap.push (bI w)}):
  codeAny (model p w) A (.call (.builtin "set.__new__") ⟨[.type "set"],[]⟩) (wants Q₁ X) s:=by
 refine fg ?_;show wpAny _ A.in1 (do checkBuiltinCall "set.__new__" ⟨[.type "set"],[]⟩;again (.builtin "set.__new__" ⟨[.type "set"],[]⟩)) _ _ s;refine aa (cU PySem.F.newCall_set_0 (ah ⟨bT oz _,bf AE ?_⟩));unfold Builtin.«set.__new__» pY;have gz:=mi;obtain⟨hp,g,d,tk,os⟩:=s;dsimp only
 wp_walk
 refine cQ (ah ?_);dsimp only;simp only[newObj];refine aa (wpAny_alloc (ah ?_));exact ah h
set_option maxHeartbeats 3200000 in
theorem zS{p:Program}{w:a9}{A:aK}{X:ag→ae→Prop}{s:ae}{Q:ag→ae→Prop}(h:Q (.ref s.heap.objs.size) {s with heap:=s.heap.push (bI w)}):
  wpAny (model p w) A (call (.type "set") []) Q X s:=by
 obtain⟨c,tl,Of⟩:=bJ.mro;have Jz:=bJ.made;have gz:=bJ.sub;refine kg (fg ?_);show wpAny _ _ (callAny (.type "set") _) _ _ _;refine ah ⟨sM _ (by decide +kernel),bf na ?_⟩;rw[ra (rZ "set" [] []) rfl];have h1:=bJ.notType;have h2:=bJ.canCreate;have UZ:=PySem.F.typeCall_set_0
 repeat (any_goals (first|assumption|wp_step))
 refine a7 (sV (X:=X) (Q₁:= λ obj au=>obj=.ref s.heap.objs.size∧au={s with heap:=s.heap.push (bI w)}) ⟨rfl,rfl⟩) λ r au hr=>?_;cases r with
 |error e=>exact hr
 |ok fl=>
  cases fl with
  |ret obj=>
   obtain⟨rfl,rfl⟩:=hr;have hS:(s.heap.push (bI w)).get? s.heap.objs.size=some (bI w):=av _ rfl;have hT:g_ {s with heap:=s.heap.push (bI w)} (.ref s.heap.objs.size) "set":=⟨_,hS,rfl⟩;have WS:=bJ.init.lookup;have OG:=bJ.init.bind (.ref s.heap.objs.size)
   repeat (any_goals (first|assumption|wp_step))
   refine a7 (f9 (R:=wants (λ r aH=>r=.none∧Q (.ref s.heap.objs.size) aH) X) bJ.init.plain Af (check_set_init hT ?_)) λ bx aH mF=>?_
   ·unfold Builtin.«set.__init__» noKeywords
    wp_walk
    exact⟨rfl,h⟩
   ·cases bx with
    |error e=>exact mF
    |ok Gl=>
     cases Gl with
     |ret r=>
      obtain⟨rfl,hq⟩:=mF
      repeat (any_goals (first|assumption|wp_step))
     |_=>exact mF.elim
  |_=>exact hr.elim
end
theorem mu{k:Nat}(h:1≤k)(h':k≤3):iC∈l4 k:=Rv h h' (by decide) (sL ..) (by decide)
section
variable {c:Cx}{n:Nat}{E:VE}{ρ ρ':List Sl}{O:List Addr}{s:ae}
theorem mI.Q1{k:Nat}(h:1≤k)(h':k≤3):mI c n (.type "set") [] [] (.k8 k iC):= λ A O s vs ks R K r r'=>by
 refine fH r' ?_;cases vs with
 |cons _ _=>have:=r.length;trivial
 |nil=>
  refine zS ⟨[s.heap.objs.size],aB.push (tk:=s.toks),K.br.push (tk:=s.toks),⟨_,#[],0,rfl,rfl,av _ rfl,mu h h',trivial⟩,λ a ha=>?_⟩;rw[aj]at ha;subst ha;exact⟨az _,by show _<(s.heap.push _).objs.size;rw[aW];exact aS _⟩
theorem v8{w:a9}{h:Heap}{es:Array (Int×ag)}{k:Nat}{st:TS}(kt:st∈l4 k)(hE:bP O h es.toList (st.ids.map (fS k)))(b:Bool):(st.tab b).fits es.size=true∧es.size=st.ids.length:=by
 have hz:es.size=st.ids.length:=by have:=hE.length;simpa using this
 exact⟨by rw[hz];exact TS.fits (Ey kt) _,hz⟩
theorem Fn.yZ{k:Nat}{st:TS}:Fn c n (.builtin "len") [.k8 k st] [] (.int st.ids.length):= λ A O s vs ks R K ec r'=>by
 refine fz ec λ v r=>?_;refine fH r' ?_;refine bh.yq r ?_;clear r;intro a es m ha ho kt hE;refine xa (v8 (w:=c.w) kt hE (!cN c.w)) λ hf hz=>?_;rw[← hz];exact call_len_set ho ⟨rfl,rfl,rfl⟩ rfl hf (by have:=(Ey kt).T6;lia) (Res.tok K.br ft)
theorem qg{A:aK}{β:dH}{ad:Nat→List Addr}{name:Str}{pos:Pos}{args:List Expr}{a:Addr}{T id:String}{ds:List D}(R:Rm A n)(I:Inv c E β O ad ρ s)(KZ:PlainAttrs T)(slot:Slot T name id)(Wn:typeOf (.builtin id)=pure (.type "method_descriptor"))(hT:s.TypeIs (.ref a) T)(hd:∀b,dQ a=.ref b→∃ob,s.heap.get? b=some ob∧ob.dict=none)(ha:cn c n E ρ args ds)(hp:(starEach args E.env).any (·.1)=false){Q:ag→ae→Prop}(h:∀vs s',aB c [] [] s s'→Inv c E β O ad ρ s'→a0 c.w O s'.heap vs ds→wpAny (model c.prog c.w) A (call (.builtin id) (.ref a::vs) []) Q aZ s'):
  MethodOnS c.prog c.w A aZ name (.ref a) pos (backTo pos (starEach args E.env)) Q s:=by
 refine⟨T,id,KZ,slot,Wn,hT,hd,?_⟩;refine fT (kws:=[]) (kwds:=[]) R I (show jz c (.builtin id)from trivial) ha .nil hp λ vs ks s' x I' r r'=>?_;refine fH r' ?_;exact h vs s' x I' r
theorem xn{A:aK}{a b:Addr}{k x:Nat}{st:TS}{es:Array (Int×ag)}{m:Nat}{Q:ag→ae→Prop}{X:ag→ae→Prop}(hu:A.in1.units<cLine)(kt:st∈l4 k)(ho:s.heap.get? a=some (cS es m (st.tab !cN c.w)))(hE:bP O s.heap es.toList (st.ids.map (fS k)))(hx:x<(j9 k).length)(hb:JS O s.heap (gy (fS k x),.ref b) (fS k x))(hQ:∀tk h' rP m',c9 a s.heap h'→h'.get? a=some (cS rP m' ((st.plus k x).tab !cN c.w))→bP O s.heap rP.toList ((st.plus k x).ids.map (fS k))→Q .none {s with heap:=h',toks:=tk}):
  wpAny (model c.prog c.w) A (call (.builtin "set.add") [.ref a,.ref b]) Q X s:=by
 refine bQ BH ⟨_,ho,rfl⟩ PySem.F.entry_set_add ?_ (PySem.F.args_set_add_2 _ _);unfold Builtin.«set.add» Builtin.Frozenset.oneOther;simp only[List.isEmpty_nil,bind_assoc];refine v5 ?_
 try dsimp only
 refine v5 ?_
 try dsimp only
 refine aa ?_;refine aV ?_;refine cI (xc (p:=c.prog) (w:=c.w) hb) λ b' hv z kb=>?_;injection hv with hv
 subst hv;refine aa (wpAny_pyHash_tuple hu kb ?_);refine yA (s:={s with toks:=s.toks+(((fS k x).map qV).length+1)}) hu kt ho hE hx hb λ r h' rP m' hs h1 h2=>?_;show wpAny _ _ (ret di) _ _ _;exact ah ⟨_,rfl,hQ _ h' rP m' hs h1 h2⟩
theorem Fc{w:a9}{h:Heap}{vs:List ag}{xs:List Nat}(r:a0 w O h vs (D.nats xs)):fb vs (xs.map qV):=by
 rw[dW]at r;exact mA r
theorem bc.IU(i:Nat){x:Str}{p apos pos pos':Pos}{e:Expr}{k y:Nat}{st:TS}(h:Ev c (n+1) E ρ e (.tup (D.nats (fS k y))))(hy:y<(j9 k).length)(hx:E.vn[i]? =some x)(dP:ρ[i]? =some (.own true (.k8 k st)))(i_:autoParam (attributeBase (.Name x p) "add" E.env (eval (.Name x p) E.env)=eval (.Name x p) E.env) rf)(rK:autoParam (((backTo pos (starEach [e] E.env)).all (λ x=> !x.1)&&(backToKw pos (keywordEach [] E.env)).all (λ x=>x.1.isSome)
   &&decide (([e]:List Expr).length+([]:List dT).length+(if([]:List dT).isEmpty then 0 else 1)<30))=true) rf)(iP:autoParam ((apos.endLine==pos.line)=true) rf)(hp:autoParam ((starEach [e] E.env).any (·.1)=false) rf)(N7:∀env,starEach [e] env=(false,eval e env)::starEach [] env:=by intros;rfl)
  (hi:autoParam (interactive E.env=false) rf) (hs:autoParam (swapsWith (.Call (.Attribute (.Name x p) "add" apos) [e] [] pos) none pos'.line E.env=pure false) rf):
  bc c (n+1) E ρ (.Expr (.Call (.Attribute (.Name x p) "add" apos) [e] [] pos) pos') (.next (ρ.set i (.own true (.k8 k (st.plus k y))))):= λ A β s R w0=>by
 refine iB w0 ?_;clear w0;intro O ad I;refine gZ (kG i_ rK iP ?_) hi hs;refine cI (I.slot hx dP) λ v b r kk=>?_;refine I.read hx b ?_;refine lB r ?_;clear r;intro a es m z1 zh;refine cg zh ?_;clear zh;intro jx ho kt hE;subst z1;refine qg R I PySem.F.plainAttrs_set BH PySem.F.type_set_add ⟨_,ho,rfl⟩ (λ b hb=>by injection hb with hb;subst hb;exact⟨_,ho,rfl⟩) (cn.cons h .nil N7) hp λ vs aH iR cu bx=>?_;refine fz bx λ u ru=>?_;refine bh.ql ru ?_;clear ru;intro t us ht FR MP;refine cI (cu.slot hx dP) λ v' b' r' k'=>?_;refine lB r' ?_;clear r';intro a' rP m' z1 zh;refine cg zh ?_;clear zh;intro i4 nj N5 Iq;subst z1;have:a'=a:=by rw[jx]at i4;simpa using i4.symm
 subst this;have kz:a'∈ad i:=by rw[i4];exact .head _
 refine dc (xn R.in1.u0 N5 nj Iq hy ⟨rfl,t,us,rfl,ht,FR,Fc MP⟩ λ tk h' Tl m2 Ap h1 h2 up=>?_);have g:aB c [a'] [] aH {aH with heap:=h',toks:=tk}:=SameBut.grow (tk:=tk) Ap nj eZ;have S:bF c {aH with heap:=h',toks:=tk}:=SameBut.br (tk:=tk) cu.br Ap (cu.low _ (k' _ kz).1);have mj:tC [a'] O aH:= λ b hb=>by obtain rfl:=m1 hb;exact .inl (k' _ kz).1
 refine⟨rfl,[]++O,_,cu.jj (N:=[]) (fp:=ad i) hx dP g S (λ b hb=>by obtain rfl:=m1 hb;exact kz) b' ⟨a',Tl,m2,rfl,i4,h1,(TS.xt N5 hy).1,bP.kept (Kept.ok g mj) (nM.refl _ _) h2⟩ (λ z=>nn) λ b hb=>.inl hb⟩
end
section
variable {c:Cx}{n:Nat}{E:VE}{ρ ρ':List Sl}{O:List Addr}{s:ae}
structure GW(w:a9)(t:SetTable)(place:List Nat)(es:Array (Int×ag)):Prop where
 fits:t.fits es.size=true
 plain:t.plain=true
 led:t.led= !cN w
 pl:t.place=place.toArray
 len:place.length=es.size
 TH:∀i,i≤es.size→b8 place.toArray (slotAt place i)=i
theorem QV{w:a9}{h:Heap}{es:Array (Int×ag)}{k:Nat}{st:TS}(kt:st∈l4 k)(hE:bP O h es.toList (st.ids.map (fS k))):GW w (st.tab !cN w) st.place es:=by
 refine xa (v8 (w:=w) kt hE (!cN w)) λ hf hz=>?_;have T:=Ey kt;exact⟨hf,rfl,rfl,rfl,by rw[T.len,hz],λ i hi=>T.TH i (by exact af hi (dg hz))⟩
theorem sb{A:aK}{X:ag→ae→Prop}{a:Addr}{t:SetTable}{place:List Nat}{es:Array (Int×ag)}{m slot i:Nat}{Q:Option (ag×Nat)→ae→Prop}(ho:s.heap.get? a=some (cS es m t))(W:GW c.w t place es)(hs:cN c.w=false→slot=slotAt place i)(hi:i≤es.size)(h:∀ie,(cN c.w=false→i<es.size→ie=slotAt place (i+1))→Q (((told c.w a m es)[i]?).map λ e=>(e.2,ie)) s):
  wpAny (model c.prog c.w) A (setNext a slot i m) Q X s:=by
 have hf:=W.fits;refine aa (a8 ho rfl hf ?_);refine aa (aa (cQ (ah ?_)));show wpAny _ _ (if(cN c.w)=true then _ else _) _ _ _;cases hb:cN c.w with
 |true=>
  refine wP rfl ?_;simp only[bne_self_eq_false,aR,if_false];refine aa (aa (a8 ho rfl hf ?_));refine aa (aa (cQ (ah ?_)));show wpAny _ _ (if(cN c.w)=true then _ else _) _ _ _;rw[hb,if_pos rfl];refine aa (cQ (ah (ah ?_)));have:=h slot (by simp[hb]);unfold told at this;rw[hb,if_pos rfl]at this;show Q (Option.map (λ e=>(e.snd,slot)) (pickOrder (c.w.params.setOrder a m) es)[i]?) s;simpa using this
 |false=>
  have ni:=hs hb;subst ni;refine wN (by decide) ?_;have Le:=W.TH i hi;show wpAny _ _ (if(!t.plain&&decide (es.size>1))=true then _ else _) _ _ _;rw[W.plain,if_neg (by simp)];refine aa ?_;show wpAny _ _ (if(!t.led&& !es.isEmpty)=true then _ else _) _ _ _;rw[W.led,hb,if_neg (by simp)];refine ah ?_;rw[W.pl,Le];show wpAny _ _ (pure (match es[i]?,place.toArray[i]? with
   |some (_,x),some j=>some (x,j+1)
   |_,_=>none)) _ _ _
  refine ah ?_;have key:=h (place.getD i 0+1) λ z gE=>by rfl
  unfold told at key;rw[hb,if_neg (by decide)]at key;have hl:=W.len
  by_cases gE:i<es.size
  ·have e1:place.toArray[i]? =some (place.getD i 0):=by simp[show i<place.length by exact D9 hl gE]
   have e2:es[i]? =some es[i]:=by simp[gE]
   have e3:es.toList[i]? =some es[i]:=by simp[gE]
   rw[e1,e2];rw[e3]at key;exact key
  ·have e1:place.toArray[i]? =none:=by simp;lia
   have e3:es.toList[i]? =none:=by simp;exact cw gE
   have e2:es[i]? =none:=by simpa using e3
   rw[e1,e2];rw[e3]at key;exact key
theorem vD{A:aK}{X:ag→ae→Prop}{I a:Addr}{t:SetTable}{place:List Nat}{es:Array (Int×ag)}{m slot i:Nat}{e:Int×ag}{Q:Option ag→ae→Prop}(hI:s.heap.get? I=some (fX slot i (.ref a) es.size m))(ho:s.heap.get? a=some (cS es m t))(W:GW c.w t place es)(hs:cN c.w=false→slot=slotAt place i)(hi:i<es.size)(he:(told c.w a m es)[i]? =some e)(hQ:∀h' ie,h'.get? I=some (fX ie (i+1) (.ref a) es.size m)→c9 I s.heap h'→(cN c.w=false→ie=slotAt place (i+1))→Q (some e.2) {s with heap:=h'}):
  wpAny (model c.prog c.w) A (pyNext (.ref I)) Q X s:=by
 have hT:s.TypeIs (.ref I) "set_iterator":=⟨_,hI,rfl⟩;have hf:=W.fits;refine aa (gu (cD (name:=d8 "__next__") hT de (bQ de hT iT ?_ (jq _))));show wpAny _ _ (fieldsOf (.ref I)>>=_) _ _ s;refine aa (s8 hI rfl ?_);show wpAny _ _ (setEntries a>>=_) _ _ s;refine aa (aa (a8 ho rfl hf (ah ?_)));refine wN (by simp) ?_;refine aa (sb (slot:=slot) (i:=i) ho W hs (bX hi) λ ie eN=>?_);rw[show((m:Int)).toNat=m from rfl,he];dsimp only[jf];have h1:=b7 (sI (·.setIfInBounds 0 (rawInt ie))) hI rfl;refine aa (ll hI rfl (by exact bB _) ?_);refine aa (ll h1 rfl (by exact aG _ _) ?_);refine ah ⟨_,rfl,ah (hQ _ ie ?_ ((bA ..).trans (bA ..)) λ hb=>eN hb hi)⟩;exact b7 (sI (·.setIfInBounds 1 (rawInt ((i:Int)+1)))) h1 rfl
theorem vE{A:aK}{X:ag→ae→Prop}{I a:Addr}{t:SetTable}{place:List Nat}{es:Array (Int×ag)}{m slot:Nat}{Q:Option ag→ae→Prop}(hh:A.handled=none)(hI:s.heap.get? I=some (fX slot es.size (.ref a) es.size m))(ho:s.heap.get? a=some (cS es m t))(W:GW c.w t place es)(hs:cN c.w=false→slot=slotAt place es.size)(hQ:∀h',p_ I s.heap h'→Q none {s with heap:=h'}):
  wpAny (model c.prog c.w) A (pyNext (.ref I)) Q X s:=by
 have hT:s.TypeIs (.ref I) "set_iterator":=⟨_,hI,rfl⟩;have hf:=W.fits;have he:(told c.w a m es)[es.size]? =none:=by
  have:=(jQ c.w a m es).length_eq;exact bk (by rw[this];simp)
 refine aa (gu (cD (name:=d8 "__next__") hT de (bQ de hT iT ?_ (jq _))));show wpAny _ _ (fieldsOf (.ref I)>>=_) _ _ s;refine aa (s8 hI rfl ?_);show wpAny _ _ (setEntries a>>=_) _ _ s;refine aa (aa (a8 ho rfl hf (ah ?_)));dsimp only;refine wN (by simp) ?_;refine aa (sb (slot:=slot) (i:=es.size) ho W hs (az _) λ ie eN=>?_);rw[show((m:Int)).toNat=m from rfl,he];dsimp only[Option.map_none];refine aa (ll hI rfl (by exact aG _ _) ?_);show wpAny _ _ (newExc (.type "StopIteration") []>>=_) _ _ _;refine aa ?_;refine aa (bo ?_ (by exact bV _));refine aa (m:=firstArgMember _ _) (cU (a:=di) (by first|rfl|(simp only[firstArgMember];rfl)) ?_);refine bo ?_ (by size_fits);refine aa (oW ?_);rw[show A.in1.handled=none from hh];refine aa (ah (sY ?_));refine aa (cj (T:="StopIteration") (b:=true) ⟨_,av _ rfl,rfl⟩ nI ?_);exact ah (hQ _ (((bA ..).extBut.push _).push _))
noncomputable abbrev yp(c:List Nat):D:=.tup (D.nats c)
theorem Hr{w:a9}{h:Heap}{e:Int×ag}{k:List Nat}(x:JS O h e k):bh w O h e.2 (yp k):=by
 refine lY x ?_;clear x;intro z b vs h1 h2 h3 h4;rw[h1];exact⟨b,vs,rfl,h2,h3,by rw[dW];exact uW h4⟩
theorem nN.k8{A:aK}{tg:Expr}{I a:Addr}{k:Snap}{t:SetTable}{place:List Nat}{es:Array (Int×ag)}{m:Nat}{cs:List (List Nat)}(hh:A.handled=none)(ho:k.s.heap.get? a=some (cS es m t))(ha:a∉k.O)(W:GW c.w t place es)(hE:bP k.O k.s.heap (told c.w a m es) cs)(hI:I∈k.O)(hK:I∉k.K):
  nN c A tg (.ref I) k [] (λ F ds s=>F=[I]∧∃i slot,s.heap.get? I=some (fX slot i (.ref a) es.size m)∧i≤es.size∧(cN c.w=false→slot=slotAt place i)∧ds=(cs.map yp).drop i) where
 det:= λ h h'=>h.1.trans h'.1.symm
 frame:=by
  rintro F V G' ds s s' ⟨rfl,i,slot,fV,r⟩ x S hV _
  exact⟨rfl,i,slot,x.keep _ _ (λ h=>hV _ h (.head _)) fV (bW (by simp)),r⟩
 next:= λ {F ds d s} S hs hB w0=>by
  refine lY w0 ?_;clear w0;intro hF i slot fV hi ni e;subst hF;have hlen:(told c.w a m es).length=es.size:=by rw[(jQ c.w a m es).length_eq];simp
  have F1:cs.length=es.size:=by rw[← hE.length,hlen]
  have gE:i<es.size:=by
   rcases oY i es.size with h|h
   ·exact h
   ·rw[oQ (by rw[aE];exact af (dg F1) h)]at e;cases e
  rcases hE.at i with⟨h1,_⟩|⟨en,cc,h1,h2,h3⟩
  ·rw[List.getElem?_eq_none_iff]at h1;lia
  ·have hd:(cs.map yp).drop i=yp cc::(cs.map yp).drop (i+1):=by
    rw[eo (by rw[aE];exact D9 F1 gE)]
    congr 1
    rw[List.getElem_map];rw[aq (by lia)]at h2;injection h2 with h2;rw[h2]
   rw[hd]at e;injection e with e1 e2
   subst e1;refine vD fV (hs.obj ha ho eZ) W ni gE h1 λ h' ie mY eN KW=>⟨_,rfl,?_⟩;have g:aB c [I] [] s {s with heap:=h'}:=SameBut.grow (tk:=s.toks) eN fV (bW (by simp));have Cf:=hs.step g λ b hb=>by obtain rfl:=m1 hb;exact⟨.inl hI,hK⟩
   refine ib mY rfl (by decide) ⟨g,SameBut.br (tk:=s.toks) S eN (hB I (.head _)),[I],rW.refl _ _ _,Cf.nice (Hr h3),rfl,i+1,ie,mY,by trivial,KW,e2⟩
 done:= λ {F s} S hs hB w0=>by
  refine lY w0 ?_;clear w0;intro hF i slot fV hi ni e;subst hF;have hlen:(told c.w a m es).length=es.size:=by rw[(jQ c.w a m es).length_eq];simp
  have F1:cs.length=es.size:=by rw[← hE.length,hlen]
  have Qr:i=es.size:=by
   have:=congrArg vU e;rw[vz,aE]at this;simp at this;lia
  subst Qr;refine dc (vE hh fV (hs.obj ha ho eZ) W ni λ h' he up=>⟨rfl,ExtBut.grow (tk:=s.toks) up.heap he fV (bW (by simp)),ExtBut.br (tk:=s.toks) S up.heap he (hB I (.head _))⟩)
 self:= λ {A' F ds s} S w0=>by obtain⟨_,i,slot,fV,_⟩:=w0;exact qf fV rfl ⟨rfl,rfl⟩
theorem Ib.k8{tg:Expr}{k:Nat}{st:TS}:Ib c n tg (.k8 k st) (λ ds=>∃cs:List (List Nat),cs.Perm (st.ids.map (fS k))∧ds=cs.map yp):= λ A O s v R K r=>by
 refine bh.yq r ?_;clear r;intro a es m ha ho kt hE;have W:=QV (w:=c.w) kt hE;have hf:=W.fits;refine c0 (hE.perm (jQ c.w a m es)) λ cs Xg Xh=>?_;have hT:s.TypeIs (.ref a) "set":=⟨_,ho,rfl⟩;refine oO hT j7 (bQ j7 hT nq ?_ (ot _));refine v5 ?_;refine aa (aa (aa (a8 ho rfl hf (ah (ah ?_)))));refine aa (aa (a8 ho rfl hf ?_));refine aa (aa (cQ (ah ?_)));refine ah ?_;rw[if_neg (by
  show¬((!cN c.w&&(!(st.tab !cN c.w).plain&&decide (es.size>1)))=true);rw[W.plain];simp)]
 refine aa (ah (aa (x4 ho rfl hf ?_)));simp only[newFields];refine aa (bo ?_);have g:aB c [] [] s {s with heap:=s.heap.push (fX 0 0 (.ref a) es.size m)}:=aB.push (tk:=s.toks);have zz:a≠s.heap.objs.size:=dM (aI ho);have hI:(s.heap.push (fX 0 0 (.ref a) es.size m)).get? s.heap.objs.size=some (fX 0 0 (.ref a) es.size m):=av _ rfl;have SE:bP ([s.heap.objs.size]++O) (s.heap.push (fX 0 0 (.ref a) es.size m)) (told c.w a m es) cs:=bP.kept (Kept.ok g λ z=>nn) (λ b hb=>(aC.mp hb).elim (λ hb=>.inr (by rw[aj]at hb;subst hb;exact az _)) .inl) Xh;refine ah ⟨_,rfl,"set_iterator",_,⟨_,hI,rfl⟩,de.lookup,g,K.br.push (tk:=s.toks),cs.map yp,⟨cs,Xg,rfl⟩,[s.heap.objs.size],[],λ b h=>?_,λ z=>nn,λ A' R'=>
  ⟨_,nN.k8 (cs:=cs) (a:=a) (m:=m) (es:=es) R'.handled (aA _ ho) (λ h=>?_) W SE (.head _) (by simp),rfl,0,0,hI,bV _,λ z=>rfl,rfl⟩⟩
 ·rw[aj]at h;subst h;exact⟨az _,by rw[aW];exact aS _⟩
 ·rcases aC.mp h with h|h
  ·exact zz (aj.mp h)
  ·exact ha h
end
noncomputable def gO(M:qU)(A:aK)(Z:End→ae→Prop)(cd:Code)(t:Sem Fin)(fs:List Frame)(s:ae):Prop:=
 ∀Γ p,Γ.code=cd→Γ.Woken A→∃e s',Runs M Γ p t fs s e s'∧Z e s'
section
variable {M:qU}{A:aK}{Z Z':End→ae→Prop}{cd:Code}{fs:List Frame}{s:ae}{t:Sem Fin}
theorem gO.mono(h:gO M A Z cd t fs s)(k:∀e s',Z e s'→Z' e s'):gO M A Z' cd t fs s:= λ Γ p hc Ao=>
 let⟨e,s',hr,hz⟩:=h Γ p hc Ao; ⟨e,s',hr,k e s' hz⟩
theorem tq{α:Type}{m:Sem α}{K:α→Sem Fin}{H:ag→Sem Fin}{gd lv}(h:wpAny M (A.over cd fs) m (λ a s'=>gO M A Z cd (K a) fs s') aZ s):
  gO M A Z cd (m.wrap K H gd lv) fs s:=by
 rintro Γ p rfl Ao
 exact runs_wrap_of_wp K H gd lv m (h (Γ.over fs) p (Ao.over fs)) (λ a p' s' h'=>h' Γ p' rfl Ao) (λ x p' s' h'=>h'.elim)
theorem dS{α β:Type}{m:Sem α}{K:α→Sem β}{K':β→Sem Fin}{H':ag→Sem Fin}{gd lv}(h:wpAny M (A.over cd fs) m (λ a s'=>gO M A Z cd ((K a).wrap K' H' gd lv) fs s') aZ s):gO M A Z cd ((m>>=K).wrap K' H' gd lv) fs s:=by
 rw[fR,iq];exact tq h
theorem JD{p':Pos}{k:Unit→Sem Fin}(h:gO M A Z cd (k ()) fs s):gO M A Z cd (.at p' k) fs s:=
 tq (m:=standAt p') (K:=k) (H:=.raise) (gd:=id) (lv:=id) (bS h)
theorem Gg{l:List ag}{k:Unit→Sem Fin}(h:gO M A Z cd (k ()) fs s):gO M A Z cd (.point l k) fs s:=
 tq (m:=point) (K:=k) (H:=.raise) (gd:=id) (lv:= λ z=>l) (wpAny_point h)
theorem Iv{c':Code}{h g l}{k:iw→Sem Fin}(hc:∀p,gO M A Z c' (M.den c') (.ret k h g l cd p []::fs) s):
  gO M A Z cd (.call c' h g l k) fs s:=by
 rintro Γ p rfl Ao
 refine ew (hc p (Γ.goto c') p rfl (Ao.goto c')) λ e s' hr he=>?_;exact⟨e,s',runs_call_seg hr,he⟩
theorem It{k h g l c₁ nB kp}(r:iw)(hk:gO M A Z c₁ (k r) fs s):gO M A Z cd (leafOf r) (.ret k h g l c₁ nB kp::fs) s:=by
 rintro Γ p rfl Ao
 refine ew (hk (Γ.goto c₁) nB rfl (Ao.goto c₁)) λ e s' hr he=>?_;exact⟨e,s',Runs.pop r hr,he⟩
theorem zG{c':Code}(hq:c'.quiet=true)(hc:gO M A Z c' (M.den c') fs s):gO M A Z cd (.pure (.again c')) fs s:=by
 rintro Γ p rfl Ao
 refine ew (hc (Γ.goto c') p rfl (Ao.goto c')) λ e s' hr he=>?_;exact⟨e,s',Runs.head (c₁:=c') (λ z z x=>.again hq x) hr,he⟩
theorem Ll(r:iw)(h:Z (.ret r) s):gO M A Z cd (leafOf r) [] s:=by
 rintro Γ p rfl _
 exact⟨.ret r,s,Runs.leaf r,h⟩
theorem Gf{v g l}{k:Resume→Sem Fin}(zv:splitAtGen fs=none)(h:∀p,Z (.susp v g l k cd p fs) s):gO M A Z cd (.yield v g l k) fs s:=by
 rintro Γ p rfl _
 exact⟨_,s,Runs.yield' fs zv,h p⟩
noncomputable def u1(M:qU)(A:aK)(Z:End→ae→Prop)(gs:mh)(r:Resume)(s:ae):Prop:=
 match gs with
 |.fresh c=>r=.send .none∧gO M A Z c (M.den c) [] s
 |.suspended k _ c _ fs _=>gO M A Z c (k r) fs s
 |_=>False
theorem o9{E:ag→ae→Prop}{g:Nat}{gs:mh}{r:Resume}{l:List ag}{α:Type}{k:GenResult→Sem α}{Q:α→ae→Prop}(hg:s.gens[g]? =some gs)(nk:u1 M A Z gs r (s.setGen g .running))(hZ:∀e au,Z e au→e.quiet=true∧wpAny M A (k e.result) Q E (au.setGen g e.genState)):wpAny M A (.resume g r l k) Q E s:=by
 intro Γ p Ao;have hB:∀c,(Γ.wake c p).Woken A:= λ c=>Ao.wake c p;cases gs with
 |fresh c=>
  refine xa nk ?_;clear nk;intro z1 hs;cases z1;refine ew (hs (Γ.wake c p) p rfl (hB c)) λ rO au hr he=>?_;exact⟨_,_,by unfold Wakes;rw[hg];exact⟨rO,au,hr,(hZ rO au he).1,rfl,rfl⟩,(hZ rO au he).2 Γ p Ao⟩
 |suspended oc V0 Pt Kr Ve cl=>
  refine ew (nk (Γ.wake Pt p) Kr rfl (hB Pt)) λ rO au hr he=>?_;exact⟨_,_,by unfold Wakes;rw[hg];exact⟨rO,au,hr,(hZ rO au he).1,rfl,rfl⟩,(hZ rO au he).2 Γ p Ao⟩
 |running=>exact nk.elim
 |finished=>exact nk.elim
end
noncomputable def X9(Q:Option ag→ae→Prop)(g:Nat):End→ae→Prop
 |.ret r,au=>r=.ok (.ret .none)∧∀h',(∀b o,au.heap.get? b=some o→h'.get? b=some o)→Q none {au.setGen g .finished with heap:=h'}
 |.susp v gd l k cd p fs,au=>(qO v gd l k cd p fs).quiet=true∧Q (some v) (au.setGen g (qO v gd l k cd p fs).genState)
section
variable {prog:Program}{w:a9}{A:aK}{E:ag→ae→Prop}{s:ae}
theorem lZ{a:Addr}{g:Nat}{gs:mh}{Z:End→ae→Prop}{Q:Option ag→ae→Prop}(hh:A.handled=none)(hl:s.heap.NoLimit)(FT:A.depth<recursionLimit)(hg:s.heap.IsGen a g)(Oq:s.gens[g]? =some gs)(nk:u1 (model prog w) A.in1 Z gs (.send .none) (s.setGen g .running))(hZ:∀e au,Z e au→X9 Q g e au):
  wpAny (model prog w) A (pyNext (.ref a)) Q E s:=by
 refine aa (gu (cD (name:=d8 "__next__") hg.typeIs oX
  (bQ oX hg.typeIs entry_gen_next ?_ (args_gen_next _))))
 show wpAny _ A.in1 (qd (.ref a) (.send .none)) _ _ s;refine aa (aV (wpAny_genNumber hg (aa (wpAny_genState Oq ?_))));cases gs with
 |running=>exact nk.elim
 |finished=>exact nk.elim
 |_=>
  refine aa (wpAny_roomToWake hl FT ?_);show wpAny _ A.in1 (.resume g (.send .none) [] _) _ _ s;refine o9 Oq nk λ e au hz=>?_;have hz:=hZ e au hz;cases e with
  |ret x=>
   obtain⟨rfl,hp⟩:=hz;refine⟨rfl,?_⟩;show wpAny _ A.in1 (newExc (.type "StopIteration") []>>=_) _ _ _;refine aa ?_;refine aa (bo ?_ (by exact bV _));refine aa (m:=firstArgMember _ _) (cU (a:=di) (by first|rfl|(simp only[firstArgMember];rfl)) ?_);refine bo ?_ (by size_fits);refine aa (aa (oW ?_))
   first|rw[show A.in1.handled=none from hh]|dsimp only[hh]
   refine sY ?_;refine aa (cj (T:="StopIteration") (b:=true) ⟨_,av _ rfl,rfl⟩ nI ?_);exact ah (hp _ λ b o hb=>aA _ (aA _ hb))
  |susp v gd l k cd p fs=>
   exact⟨hz.1,ah ⟨v,rfl,ah hz.2⟩⟩
end
section
set_option backward.match.sparseCases false
theorem vM{M:qU}{A:aK}{Z:End→ae→Prop}{cd:Code}{fs:List Frame}{s:ae}{env:Env}{K:Flow→Sem Fin}{H:ag→Sem Fin}{gd:Bool→Bool}{lv:List ag→List ag}{e:Expr}{JY pos:Pos}(zv:splitAtGen fs=none)(h:wpAny M (A.over cd fs) (eval e env) (λ v s'=>∀kk l p,(∀k_ Z',gO M A Z' cd (K .next) fs k_→gO M A Z' cd (kk (.send .none)) fs k_)→Z (.susp v (gd false) l kk cd p fs) s') aZ s)(SA:env.scope.isCoroutine=false)(hi:interactive env=false):gO M A Z cd ((exec (.Expr (.Yield (some e) JY) pos) env).wrap K H gd lv) fs s:=by
 rw[exec_Expr env _ pos hi rfl];show gO M A Z cd (.at pos λ z=>((eval e env>>= λ v=>(standAt JY>>= λ z=>yieldOut env v))>>= λ x=>
  dropValue (.Yield (some e) JY) pos x).wrap K H gd lv) fs s
 have hy:∀v,yieldOut env v=yieldValue v:= λ v=>by simp only[yieldOut,SA,aR,if_false]
 simp only[hy];refine JD ?_;rw[fR,fR,iq,iq];refine tq (wm h λ v s' h'=>?_);exact JD (Gf zv λ p=>h' _ _ p λ k_ Z' hx=>hx)
structure GE(env:Env)(x y:Str):Prop where
 kind:env.scope.kind=.function
 kx:env.kindOf x=some .local
 ky:env.kindOf y=some .local
 ne:x≠y
 co:env.scope.isCoroutine=false
 dx:(x==("__debug__":Str))=false
 dy:(y==("__debug__":Str))=false
theorem GE.inter{env:Env}{x y:Str}(H:GE env x y):interactive env=false:=by
 unfold interactive;rw[H.kind];rfl
noncomputable def Good(c:Cx)(k:Snap)(L I ax:Addr)(i:Nat)(t:ae):Prop:=bF c t∧cB c k t∧t.heap.IsListIter I ax i∧∃m,t.heap.Ns L m
noncomputable def Zf(c:Cx)(A:aK)(k:Snap)(I ax:Addr)(tg:Expr)(bd:List Stmt)(env:Env):List ag→Nat→ae→End→ae→Prop
 |[],i,s₀,e,s'=>e=.ret (.ok (.ret .none))∧aB c [env.locals,I] [] s₀ s'∧bF c s'
 |v::vr,i,s₀,e,s'=>∃gd l kk p fs,e=.susp v gd l kk (.forLoop tg (.ref I) bd [] env) p fs∧e.quiet=true∧aB c [env.locals,I] [] s₀ s'∧bF c s'∧s'.heap.IsListIter I ax (i+1)∧(∃m,s'.heap.Ns env.locals m)∧
   ∀t,Good c k env.locals I ax (i+1) t→gO (model c.prog c.w) A (Zf c A k I ax tg bd env vr (i+1) t) (.forLoop tg (.ref I) bd [] env) (kk (.send .none)) fs t
section
variable {c:Cx}{A:aK}{k:Snap}{env:Env}{x y nm:Str}{I ax:Addr}{vs:List ag}
theorem Ir(H:GE env x y)(hl:k.s.heap.IsList ax vs.toArray)(hx:ax∉k.O)(hh:A.handled=none)(hL:c.B≤env.locals)(hI:c.B≤I)(U8:I≠env.locals)(Yv:∀b∈[env.locals,I],(b∈k.O∨k.s.heap.objs.size≤b)∧b∉k.K){p1 p2 p3 p4 pf:Pos}{kf:iw→Sem Fin}{lf:List ag}{cf:Code}(hk:∀Z s,Z (.ret (.ok (.ret .none))) s→gO (model c.prog c.w) A Z cf (kf (.ok .next)) [] s):∀(vr:List ag) (i:Nat) (Ho t:ae),vs.drop i=vr→Good c k env.locals I ax i t→aB c [env.locals,I] [] Ho t→
  gO (model c.prog c.w) A (Zf c A k I ax (.Name y p1) [.Expr (.Yield (some (.Name y p2)) p3) p4] env vr i Ho) (.forLoop (.Name y p1) (.ref I) [.Expr (.Yield (some (.Name y p2)) p3) p4] [] env)
   ((model c.prog c.w).den (.forLoop (.Name y p1) (.ref I) [.Expr (.Yield (some (.Name y p2)) p3) p4] [] env)) [.ret kf none false lf cf pf []] t:=by
 have W0:∀cd,(A.over cd [.ret kf none false lf cf pf []]).handled=none:= λ cd=>by
  trivial
 intro vr
 induction vr with
 |nil=>
  intro i Ho t hd hg hG;refine cg hg ?_;clear hg;intro S hs fV hn;show gO _ A _ _ ((forTurn (.Name y p1) (.ref I) [.Expr (.Yield (some (.Name y p2)) p3) p4] [] env).onRaise (λ x=>do noteFrame x env;theTreesLotGoes x)) _ t;rw[gc];simp only[forTurn];refine dS (bS ?_);have hle:vs.length≤i:=by simpa using hd
  refine cI (id fV) λ o ho hc zx=>?_;refine dS (wpAny_onRaise (dc (wpAny_pyNext_list_end (W0 _) fV (hs.isList hx hl) (by simpa using hle) λ h' he up=>?_)));have g:aB c [I] [] t {t with heap:=h'}:=ExtBut.grow (tk:=t.toks) up.heap he ho (bW (by rw[hc];trivial));have S':bF c {t with heap:=h'}:=ExtBut.br (tk:=t.toks) S up.heap he hI;refine zG rfl ?_;show gO _ A _ _ (leafOf (.ok .next)) _ _;exact It (.ok .next) (hk _ _ ⟨rfl,hG.trans (g.mono (λ b h=>.inl (.tail _ h)) λ z=>nn),S'⟩)
 |cons v vr ih=>
  intro i Ho t hd hg hG;refine xa hg ?_;clear hg;intro S zh;refine Hi zh ?_;clear zh;intro hs fV m hn;show gO _ A _ _ ((forTurn (.Name y p1) (.ref I) [.Expr (.Yield (some (.Name y p2)) p3) p4] [] env).onRaise (λ x=>do noteFrame x env;theTreesLotGoes x)) _ t;rw[gc];simp only[forTurn];refine dS (bS ?_);have hv:vs[i]? =some v:=by
   have:(vs.drop i)[0]? =some v:=by rw[hd];rfl
   simpa using this
  have iQ:vs.drop (i+1)=vr:=by rw[← qa,hd];rfl
  refine cI (id fV) λ o ho hc zx=>?_;refine dS (wpAny_onRaise (wpAny_pyNext_list_item fV (hs.isList hx hl) (by simpa using hv) λ h' mY eN=>?_));refine cI (id mY) λ o' nj G9 Xd=>?_;have g:aB c [I] [] t {t with heap:=h'}:=SameBut.grow (tk:=t.toks) eN ho (bW (by rw[hc];trivial));have lM:bF c {t with heap:=h'}:=SameBut.br (tk:=t.toks) S eN hI;have uB:h'.Ns env.locals m:=g.ns (λ h=>U8 (aj.mp h).symm) hn;refine dS (ib nj G9 (by decide) ?_);refine dS (wpAny_assign_Name (wpAny_storeName_local H.ky uB (λ cM Cg mE=>?_) (by rw[H.kind];rfl)));have i9:∀a o,a∉ [env.locals]→h'.get? a=some o→cM.get? a=some o:= λ a o ha e=>mE.extBut a o (λ h=>ha (by simp[h])) e;have lb:h'.objs.size≤cM.objs.size:=by rw[mE.1];exact az _
  have iR:aB c [env.locals] [] {t with heap:=h'} {t with heap:=cM,toks:=t.toks+1}:=by
   refine aB.of_keep (s:={t with heap:=h'}) (tk:=t.toks+1) lb i9 λ a ha o e=>?_;rw[aj]at ha;subst ha;refine c_ uB ?_;clear uB;intro o' es ep nj iQ z;have e:h'.get? env.locals=some o:=e;rw[e]at nj;cases nj;exact cP iQ
  have jy:bF c {t with heap:=cM,toks:=t.toks+1}:=lM.at (s:={t with heap:=h'}) (tk:=t.toks+1) lb i9 λ a ha=>by
   rw[aj]at ha;subst ha;exact hL
  have lI:aB c [env.locals,I] [] t {t with heap:=cM,toks:=t.toks+1}:=(g.mono (λ b h=>.inl (.tail _ h)) λ z=>nn).trans (iR.mono (λ b h=>.inl (by rw[aj]at h;exact h▸ .head _)) λ z=>nn);rw[fR,iq,execs_cons_wrap];refine vM rfl (vS (f7 H.kind H.ky Cg (if_pos rfl) λ kk l p WU=>?_) H.dy) H.co H.inter;refine⟨_,_,_,_,_,rfl,rfl,hG.trans lI,jy,?_,⟨_,Cg⟩,λ t' Qu=>WU _ _ ?_⟩
  ·refine cI (id mY) λ o2 wB Dx Bk=>?_;exact⟨o2,i9 _ _ (λ h=>U8 (aj.mp h)) wB,Dx,Bk⟩
  ·exact zG rfl (ih (i+1) t' t' iQ Qu (.refl ..))
theorem Iu{body:List Stmt}{Z:End→ae→Prop}{fs:List Frame}{s:ae}(h:gO (model c.prog c.w) A Z (.func body env) ((execs body env).wrap (λ f=>.pure (.done (.ret (match f with|.ret v=>v|_=>.none))))
   (λ e=>(leaving env e).wrap (λ z=>.raise e) .raise id id) id id) fs s):
  gO (model c.prog c.w) A Z (.func body env) ((model c.prog c.w).den (.func body env)) fs s:=by
 show gO _ A Z _ (.point [] λ z=>((execs body env).onRaise (leaving env))>>=_) fs s;refine Gg ?_;rw[gc,fR,iq];rw[Sem.wrap_congr (execs body env) _ _ (K':= λ f=>.pure (.done (.ret (match f with|.ret v=>v|_=>.none))))
  (H':= λ e=>(leaving env e).wrap (λ z=>.raise e) .raise id id) (λ f=>by cases f<;>rfl)
  (λ e=>by rw[Sem.bind_eq_wrap,iq];rfl)]
 exact h
theorem Iw(H:GE env x y)(hl:k.s.heap.IsList ax vs.toArray)(hx:ax∉k.O)(hh:A.handled=none)(hL:c.B≤env.locals)(XE:(env.locals∈k.O∨k.s.heap.objs.size≤env.locals)∧env.locals∉k.K)(OL:∀b∈k.K,b<k.s.heap.objs.size){p1 p2 p3 p4 p5 p6 p7:Pos}{a dx C:Addr}{es:List cV}{m':Nat}(h1:k.s.heap.get? a=some (ig C dx))(h2:k.s.heap.get? dx=some (dictOf es m'))(hA:attrOk c.K C nm=true)(ha:a∉k.O)(hd:dx∉k.O)(Lh:getL nm es=some (some (.ref ax))){m:Str→Option ag}{t:ae}(S:bF c t)(hs:cB c k t)(hn:t.heap.Ns env.locals m)(hm:m x=some (.ref a)):
  gO (model c.prog c.w) A (λ e s'=>∃er,aB c [] [] t er∧er.heap.objs.size=t.heap.objs.size+1∧Zf c A k t.heap.objs.size ax (.Name y p1) [.Expr (.Yield (some (.Name y p2)) p3) p4] env vs 0 er e s') (.func [.For (.Name y p1) (.Attribute (.Name x p5) nm p6) [.Expr (.Yield (some (.Name y p2)) p3) p4] [] p7] env)
   ((model c.prog c.w).den (.func [.For (.Name y p1) (.Attribute (.Name x p5) nm p6) [.Expr (.Yield (some (.Name y p2)) p3) p4] [] p7] env)) [] t:=by
 refine Iu ?_;rw[execs_cons_wrap,exec_For];refine dS (bS ?_);have keep:∀b o,b∉k.O→qE o=false→k.s.heap.get? b=some o→t.heap.get? b=some o:= λ b o hb ht e=>by
  refine ew hs ?_;clear hs;intro V G' g hV;exact g.keep b o (λ h=>(hV b h).1.elim hb λ hle=>ak _ (ab (aI e) hle)) e ht
 have Co:=keep _ _ ha (bW (by simp)) h1;have wJ:=keep _ _ hd (cP rfl) h2;refine dS (hJ (vS (f7 H.kind H.kx hn hm ?_) H.dx));refine jP S Co wJ hA Lh rfl ?_;refine dS (cU rfl ?_);refine dS (bS ?_);have gE:=hs.isList hx hl;refine dS (aV (wpAny_pyIter_list (s:={t with toks:=t.toks+1}) gE ?_));have g:aB c [] [] t {t with heap:=t.heap.push {cls:=.type "list_iterator",data:=.fields #[.ref ax,.int 0 0]},toks:=t.toks+1}:=aB.push;have S':bF c {t with heap:=t.heap.push {cls:=.type "list_iterator",data:=.fields #[.ref ax,.int 0 0]},toks:=t.toks+1}:=S.push;have XD:=hn.lt;refine gO.mono (Z:=Zf c A k t.heap.objs.size ax (.Name y p1) [.Expr (.Yield (some (.Name y p2)) p3) p4] env vs 0 _) ?_ λ e s' hz=>⟨_,g,aW ..,hz⟩;refine Iv λ p=>?_;refine Ir (lf:=[]) H hl hx hh hL (af S.size (az _)) (dA XD) (λ b hb=>?_) (λ Z s hz=>?_) vs 0 _ _ rfl ⟨S',hs.JE g,⟨_,av _ rfl,rfl,rfl⟩,_,hn.push _⟩ (.refl ..)
 ·rcases mc hb with rfl|hb
  ·exact XE
  ·rw[aj]at hb;subst hb;exact⟨.inr hs.size,λ h=>ak _ (ab (OL _ h) hs.size)⟩
 ·exact Ll (.ok (.ret .none)) hz
end
end
section
set_option backward.match.sparseCases false
structure BE where
 p1:Pos
 p2:Pos
 p3:Pos
 p4:Pos
 p5:Pos
 p6:Pos
 p7:Pos
structure GP where
 k:Snap
 g:Nat
 a:Addr
 env:Env
 x:Str
 y:Str
 nm:Str
 sf:Addr
 dx:Addr
 C:Addr
 ax:Addr
 es:List cV
 m':Nat
 vs:List ag
 ds₀:List D
 q:BE
noncomputable abbrev BE.body(q:BE)(x y nm:Str):List Stmt:=[.For (.Name y q.p1) (.Attribute (.Name x q.p5) nm q.p6) [.Expr (.Yield (some (.Name y q.p2)) q.p3) q.p4] [] q.p7]
noncomputable abbrev GP.tg(p:GP):Expr:=.Name p.y p.q.p1
noncomputable abbrev GP.bd(p:GP):List Stmt:=[.Expr (.Yield (some (.Name p.y p.q.p2)) p.q.p3) p.q.p4]
noncomputable abbrev GP.lp(p:GP)(I:Addr):Code:=.forLoop p.tg (.ref I) p.bd [] p.env
structure fA(p:GP)(F:List Addr)(ds:List D)(s:ae):Prop where
 eF:F=[p.a,p.env.locals]
 eD:ds=p.ds₀
 hf:s.gens[p.g]? =some (.fresh (.func (p.q.body p.x p.y p.nm) p.env))
 hn:∃m,s.heap.Ns p.env.locals m∧m p.x=some (.ref p.sf)
structure fB(c:Cx)(A:aK)(p:GP)(I:Addr)(i:Nat)(gs:mh)(F:List Addr)(ds:List D)(s:ae):Prop where
 eF:F=[p.a,p.env.locals,I]
 hI:p.k.s.heap.objs.size≤I∧I≠p.a
 hf:s.gens[p.g]? =some gs
 at':∃kk l pp fs cl,gs=.suspended kk l (p.lp I) pp fs cl
 fV:s.heap.IsListIter I p.ax i
 eD:ds=p.ds₀.drop i
 hn:∃m,s.heap.Ns p.env.locals m
 go:∀t,Good c p.k p.env.locals I p.ax i t→u1 (model c.prog c.w) A.in1 (Zf c A.in1 p.k I p.ax p.tg p.bd p.env (p.vs.drop i) i t) gs (.send .none) t
structure fP(c:Cx)(A:aK)(p:GP)(F:List Addr)(ds:List D)(s:ae):Prop where
 gen:s.heap.IsGen p.a p.g
 lt:p.g<s.gens.size
 at':fA p F ds s∨∃I i gs,fB c A p I i gs F ds s
structure GF(c:Cx)(A:aK)(p:GP):Prop where
 R:Rm A 1
 H:GE p.env p.x p.y
 hl:p.k.s.heap.IsList p.ax p.vs.toArray
 hx:p.ax∉p.k.O
 hr:a0 c.w p.k.O p.k.s.heap p.vs p.ds₀
 OL:p.k.K=[]
 h1:p.k.s.heap.get? p.sf=some (ig p.C p.dx)
 h2:p.k.s.heap.get? p.dx=some (dictOf p.es p.m')
 hA:attrOk c.K p.C p.nm=true
 ha:p.sf∉p.k.O
 hd:p.dx∉p.k.O
 Lh:getL p.nm p.es=some (some (.ref p.ax))
 Cm:p.a∈p.k.O
 U7:p.env.locals∈p.k.O
 Mk:p.a≠p.env.locals
 Xp:p.a<p.k.s.heap.objs.size
 Yu:p.env.locals<p.k.s.heap.objs.size
structure LQ(c:Cx)(k:Snap)(g:Nat)(P:List Addr→List D→ae→Prop)(F:List Addr)(d:D)(ds:List D)(t:ae)(v:ag)(s:ae):Prop where
 gr:aB c F [g] t s
 S:bF c s
 ex:∃F',rW F F' t s∧uZ c k F' t s v d∧P F' ds s
structure GI(c:Cx)(A:aK)(k:Snap)(g:Nat)(a:Addr)(P:List Addr→List D→ae→Prop):Prop where
 R:Rm A 1
 gen:∀{F ds s},P F ds s→s.heap.IsGen a g
 lt:∀{F ds s},P F ds s→∀b∈F,b<s.heap.objs.size
 det:∀{F F':List Addr} {ds lK:List D} {s:ae},P F ds s→P F' lK s→F=F'
 frame:∀{F V:List Addr} {G':List Nat} {ds:List D} {s s':ae},P F ds s→aB c V G' s s'→(∀a∈V,a∉F)→(∀g'∈G',g'∉ [g]∧g'<s.gens.size∨s.gens.size≤g')→P F ds s'
 next:∀{F:List Addr} {d:D} {ds:List D} {t:ae},bF c t→cB c k t→(∀a∈F,c.B≤a)→P F (d::ds) t→
  ∃gs Z,t.gens[g]? =some gs∧u1 (model c.prog c.w) A.in1 Z gs (.send .none) (t.setGen g .running)∧∀e au,Z e au→∃v gd l kk cd pp fs,e=.susp v gd l kk cd pp fs∧e.quiet=true∧LQ c k g P F d ds t v (au.setGen g e.genState)
 done:∀{F:List Addr} {t:ae},bF c t→cB c k t→(∀a∈F,c.B≤a)→P F [] t→
  ∃gs Z,t.gens[g]? =some gs∧u1 (model c.prog c.w) A.in1 Z gs (.send .none) (t.setGen g .running)∧∀e au,Z e au→e=.ret (.ok (.ret .none))∧aB c F [g] t (au.setGen g .finished)∧bF c (au.setGen g .finished)
section
variable {c:Cx}{A:aK}{p:GP}{F F':List Addr}{ds lK:List D}{s t au:ae}{e:End}{I:Addr}{i:Nat}
theorem IsListIter.grow{W:List Addr}{G:List Nat}{t t':ae}{I ax:Addr}{i:Nat}(x:aB c W G t t')(ha:I∉W)(h:t.heap.IsListIter I ax i):t'.heap.IsListIter I ax i:=
 cI h λ o ho hc r=>⟨o,x.keep I o ha ho (bW (by rw[hc];trivial)),hc,r⟩
noncomputable def Rz:Code→ag
 |.forLoop _ it _ _ _=>it
 |_=>.none
noncomputable def XZ(a L:Addr):mh→List Addr
 |.suspended _ _ cd _ _ _=>match Rz cd with|.ref I=>[a,L,I]|_=>[]
 |_=>[a,L]
theorem fP.eF(h:fP c A p F ds s):(s.gens[p.g]?).map (XZ p.a p.env.locals)=some F:=by
 rcases h.at' with b|⟨I,i,gs,b⟩
 ·rw[b.hf,b.eF];rfl
 ·rw[b.hf,b.eF];obtain⟨kk,l,pp,fs,cl,rfl⟩:=b.at';rfl
theorem fP.frame{V:List Addr}{G':List Nat}{s':ae}(h:fP c A p F ds s)(y:aB c V G' s s')(hV:∀a∈V,a∉F)(hG:∀g'∈G',g'∉ [p.g]∧g'<s.gens.size∨s.gens.size≤g'):fP c A p F ds s':=by
 have Qt:p.g∉G':= λ h'=>(hG _ h').elim (λ h=>h.1 (.head _)) λ h'=>ak _ (ab h.lt h');have k:∀a,a∈F→a∉V:= λ a h h'=>hV a h' h;have gn:= λ ha:p.a∈F=>IsGen.grow y (k _ ha) h.gen;have lt:=ab h.lt y.dv
 rcases h.at' with b|⟨I,i,gs,b⟩<;>have e:=b.eF
 ·exact⟨gn (e▸ .head _),lt,.inl ⟨e,b.eD,y.gens _ _ Qt b.hf,c0 b.hn λ m hn hm=>⟨m,y.ns (k _ (e▸ .tail _ (.head _))) hn,hm⟩⟩⟩
 ·exact⟨gn (e▸ .head _),lt,.inr ⟨I,i,gs,e,b.hI,y.gens _ _ Qt b.hf,b.at',IsListIter.grow y (k _ (e▸ .tail _ (.tail _ (.head _)))) b.fV,b.eD,xe b.hn λ m hn=>⟨m,y.ns (k _ (e▸ .tail _ (.head _))) hn⟩,b.go⟩⟩
theorem fP.V1(h:fP c A p F ds s):∀b∈F,b<s.heap.objs.size:=by
 have ha:p.a<s.heap.objs.size:=lB h.gen λ j j j ho j=>aI ho
 rcases h.at' with b|⟨I,i,gs,b⟩<;>rw[b.eF]<;>intro z hz
 ·have hn:p.env.locals<s.heap.objs.size:=c0 b.hn λ j hn j=>hn.lt
  rcases mc hz with rfl|hz
  ·exact ha
  ·exact m1 hz▸hn
 ·have hn:p.env.locals<s.heap.objs.size:=xe b.hn λ j hn=>hn.lt
  rcases mc hz with rfl|hz
  ·exact ha
  rcases mc hz with rfl|hz
  ·exact hn
  ·exact m1 hz▸c0 b.fV λ j ho j=>aI ho
structure LP(c:Cx)(A:aK)(p:GP)(F:List Addr)(ds:List D)(t:ae)(e:End)(au:ae)(I:Addr)(i:Nat)(er:ae):Prop where
 hd:p.ds₀.drop i=ds
 SW:p.a∈F∧p.env.locals∈F
 XM:∀b∈F,b∈[p.a,p.env.locals,I]
 hI:I∈F∨(t.heap.objs.size≤I∧I<er.heap.objs.size)
 hk:p.k.s.heap.objs.size≤I∧I≠p.a
 g:aB c [] [] (t.setGen p.g .running) er
 z:Zf c A.in1 p.k I p.ax p.tg p.bd p.env (p.vs.drop i) i er e au
theorem fP.wake(K:GF c A p)(S:bF c t)(hs:cB c p.k t)(hB:∀a∈F,c.B≤a)(h:fP c A p F ds t):
  ∃gs Z,t.gens[p.g]? =some gs∧u1 (model c.prog c.w) A.in1 Z gs (.send .none) (t.setGen p.g .running)∧∀e au,Z e au→∃I i er,LP c A p F ds t e au I i er:=by
 have g0:aB c [] [p.g] t (t.setGen p.g .running):=aB.gen;have S0:bF c (t.setGen p.g .running):=S.gen rfl;have Jx:cB c p.k (t.setGen p.g .running):=hs.step g0 λ z=>nn
 rcases h.at' with b|⟨I,i,gs,b⟩<;>have e:=b.eF
 ·refine c0 b.hn λ m hn hm=>?_;refine⟨_,_,b.hf,⟨rfl,Iw (A:=A.in1) K.H K.hl K.hx K.R.handled (hB _ (e▸ .tail _ (.head _))) ⟨.inl K.U7,by rw[K.OL];simp⟩ (by rw[K.OL];simp) K.h1 K.h2 K.hA K.ha K.hd K.Lh S0 Jx hn hm⟩,λ e' au hz=>cI hz λ er XW RL hz=>?_⟩;have UJ:p.k.s.heap.objs.size≤t.heap.objs.size:=hs.size;exact⟨t.heap.objs.size,0,er,b.eD.symm,e▸ ⟨.head _,.tail _ (.head _)⟩,λ b hb=>by
   rw[e]at hb
   rcases mc hb with rfl|hb
   ·exact .head _
   ·exact m1 hb▸ .tail _ (.head _),.inr ⟨az _,by rw[show er.heap.objs.size=t.heap.objs.size+1 from RL];exact aS _⟩,⟨UJ,dA (ab K.Xp UJ)⟩,XW,hz⟩
 ·exact⟨_,_,b.hf,b.go _ ⟨S0,Jx,b.fV,b.hn⟩,λ e' au hz=>⟨I,i,_,b.eD.symm,e▸ ⟨.head _,.tail _ (.head _)⟩,λ b hb=>e▸hb,.inl (e▸ .tail _ (.tail _ (.head _))),b.hI,.refl ..,hz⟩⟩
theorem LP.all{er:ae}{gs:mh}(w:LP c A p F ds t e au I i er)(gr:aB c [p.env.locals,I] [] er au):aB c F [p.g] t (au.setGen p.g gs):=by
 have g0:aB c [] [p.g] t (t.setGen p.g .running):=aB.gen;have g2:aB c [] [p.g] au (au.setGen p.g gs):=aB.gen;refine(((g0.mono (O':=F) (G':=[p.g]) (λ z=>nn) λ z h=>.inl h).comp w.g (λ z=>nn) λ z=>nn).comp gr (λ b hb=>?_) λ z=>nn).comp g2 (λ z=>nn) λ z h=>.inl h
 rcases mc hb with rfl|hb
 ·exact .inl w.SW.2
 ·exact m1 hb▸w.hI.imp id And.left
theorem LP.yield{er:ae}{d:D}{ds:List D}(K:GF c A p)(hs:cB c p.k t)(h:fP c A p F (d::ds) t)(w:LP c A p F (d::ds) t e au I i er):
  ∃v gd l kk cd pp fs,e=.susp v gd l kk cd pp fs∧e.quiet=true∧LQ c p.k p.g (fP c A p) F d ds t v (au.setGen p.g e.genState):=by
 have Xc:p.ds₀[i]? =some d:=by
  have:(p.ds₀.drop i)[0]? =some d:=by rw[w.hd];rfl
  simpa using this
 refine c0 (K.hr.at Xc) λ v hv rv=>?_;have gE:i<p.vs.length:=(aw.mp hv).1;have RT:p.vs.drop i=v::p.vs.drop (i+1):=by
  rw[eo gE];rw[aq gE]at hv;cases hv;rfl
 have hz:=w.z;rw[RT]at hz;refine iu hz λ gd l kk zh=>bO zh λ pp fs z1 hq gr zh=>cg zh λ S1 fV hn nk=>?_;subst z1;refine⟨v,gd,l,kk,_,pp,fs,rfl,hq,?_⟩;have hb:=End.bare_of_quiet hq;have lI:=w.all (gs:=(qO v gd l kk (p.lp I) pp fs).genState) gr;have Ln:p.g<au.gens.size:=ab h.lt (af (aB.gen (c:=c) (s:=t) (g:=p.g) (x:=.running)).dv (af w.g.dv gr.dv));have g2:aB c [] [p.g] au (au.setGen p.g (qO v gd l kk (p.lp I) pp fs).genState):=aB.gen;have gn:aB c [p.env.locals,I] [p.g] t (au.setGen p.g (qO v gd l kk (p.lp I) pp fs).genState):=(((aB.gen (c:=c) (x:=.running)).mono (O':=[p.env.locals,I]) (G':=[p.g]) (λ j=>nn) λ j h=>.inl h).comp w.g (λ j=>nn) λ j=>nn).comp gr (λ b hb=>.inl hb) (λ j=>nn)|>.comp g2 (λ j=>nn) λ j h=>.inl h
 refine⟨lI,S1.gen hb,[p.a,p.env.locals,I],λ b h=>?_,(hs.step lI λ b hb=>?_).nice rv,IsGen.grow gn (λ h=>(aD.mp h).elim K.Mk λ h=>w.hk.2 (m1 h)) h.gen,ab Ln g2.dv,.inr ⟨I,i+1,.suspended kk l (p.lp I) pp fs (gd||fs.any Frame.guarded),rfl,w.hk,?_,⟨kk,l,pp,fs,_,rfl⟩,fV,?_,hn,nk⟩⟩
 ·rcases mc h with rfl|h
  ·exact .inl w.SW.1
  rcases mc h with rfl|h
  ·exact .inl w.SW.2
  ·exact m1 h▸w.hI.imp id λ h=>⟨h.1,ab h.2 gr.size⟩
 ·rw[K.OL];refine⟨?_,nn⟩
  rcases mc (w.XM b hb)with rfl|h
  ·exact .inl K.Cm
  rcases mc h with rfl|h
  ·exact .inl K.U7
  ·exact m1 h▸ .inr w.hk.1
 ·show(au.gens.setIfInBounds p.g _)[p.g]? =_;rw[lP,if_pos rfl,if_pos Ln];rfl
 ·rw[← qa,w.hd];rfl
theorem LP.ends{er:ae}(K:GF c A p)(w:LP c A p F [] t e au I i er):e=.ret (.ok (.ret .none))∧aB c F [p.g] t (au.setGen p.g .finished)∧bF c (au.setGen p.g .finished):=by
 have RT:p.vs.drop i=[]:=List.drop_eq_nil_of_le (K.hr.length▸Em.mp w.hd);have hz:=w.z;rw[RT]at hz;exact⟨hz.1,w.all hz.2.1,hz.2.2.gen rfl⟩
theorem fP.gi(K:GF c A p):GI c A p.k p.g p.a (fP c A p) where
 R:=K.R
 gen:=fP.gen
 lt:=fP.V1
 det:= λ h h'=>cG (h.eF.symm.trans h'.eF)
 frame:=fP.frame
 next:= λ S hs hB h=>dj (h.wake K S hs hB) λ gs Z hf nk hz=>⟨gs,Z,hf,nk,λ e au q=>iu (hz e au q) λ I i er w=>w.yield K hs h⟩
 done:= λ S hs hB h=>dj (h.wake K S hs hB) λ gs Z hf nk hz=>⟨gs,Z,hf,nk,λ e au q=>iu (hz e au q) λ I i er w=>w.ends K⟩
theorem nN.S_{k:Snap}{g:Nat}{a:Addr}{P:List Addr→List D→ae→Prop}{EC:Expr}(K:GI c A k g a P):nN c A EC (.ref a) k [g] P where
 det:=K.det
 frame:= λ h y S hV hG=>K.frame h y hV hG
 next:= λ {F ds d t} S hs hB h=>by
  refine dj (K.next S hs hB h) λ gs Z hf nk hz=>?_;refine lZ K.R.handled S.nolimit K.R.d0 (K.gen h) hf nk λ e au q=>?_;refine xe (hz e au q) λ v zh=>iu zh λ gd l kk zh=>iu zh λ cd pp fs zh=>jH zh λ z1 hq r=>?_;subst z1;refine cI r.ex λ F' hu hn hp=>?_;refine c_ (K.gen hp) λ o Yg qn ho hc z=>?_;exact⟨hq,v,rfl,ib ho hc (by decide) ⟨r.gr,r.S,F',hu,hn,hp⟩⟩
 done:= λ {F t} S hs hB h=>by
  refine dj (K.done S hs hB h) λ gs Z hf nk hz=>?_;refine dc (jc (lZ (Q:= λ r s'=>t.heap.objs.size≤s'.heap.objs.size→r=none∧aB c F [g] t s'∧bF c s') K.R.handled S.nolimit K.R.d0 (K.gen h) hf nk λ e au q=>?_) (λ r s' q up=>q up.heap) λ z z f z=>f);refine jH (hz e au q) λ z1 gr S'=>?_;subst z1;exact⟨rfl,λ h' vL vk=>⟨rfl,gr.after vk vL,S'.keep (af S.size vk) vL⟩⟩
 self:= λ {A' F ds t} S h=>wpAny_pyIter_gen (K.gen h) ⟨rfl,rfl⟩
end
end
theorem DM{M:qU}{A:aK}{E:ag→ae→Prop}{s:ae}{K:Frag}{x C f:Addr}{ox:Obj}{od:Option Obj}{name:Str}{refuse:Sem ag}{Q:Option ag→ae→Prop}(X:K.In s.heap)(I:InstAt s.heap x ox C od)(hs:findIn K (.ref C) name=some (some (.ref f)))(hf:isFn K (.ref f)=true)(h:wpAny M A (call (.ref f) [.ref x]) (λ v=>Q (some v)) E s):wpAny M A (callSpecialIfBoundUnlessNone? (.ref x) name refuse) Q E s:=by
 refine aV (aa (aa (show wpAny M A (specialOf _ _) _ _ _ from aa (I.type.here ((jr X hs).here ?_)))));have fin:wpAny M A (if(dQ f==di)=true then(refuse>>= λ v=>pure (some v))else(call (.ref f) [.ref x]>>= λ v=>pure (some v))) Q E s:=
  wN (by simp) (aa (jc h (λ v s' h'=>ah h') λ z z h'=>h'))
 exact aa (cQ (wI (λ _=>aa ((bind_fn X _ (beq_iff_eq.mp hf)).here (ah fin))) λ _=>je (aa ((bind_fn X _ (beq_iff_eq.mp hf)).here (ah fin)))))
noncomputable def Cp(sc:iU)(x y:Str):Bool:=sc.isGenerator&&(sc.names.lookup x==some .local)&&(sc.names.lookup y==some .local)&& !(x==y)&& !(x==("__debug__":Str))&& !(y==("__debug__":Str))
section
variable {c:Cx}{n:Nat}
noncomputable def LW(c:Cx)(O:List Addr)(s:ae)(ds:List D)(it:ag)(s':ae):Prop:=
 ∃(a g:Nat) (L:Addr),it=.ref a∧s'.heap.IsGen a g∧(s.heap.objs.size≤a∧a<s'.heap.objs.size)∧(s.heap.objs.size≤L∧L<s'.heap.objs.size)∧a≠L∧(s.gens.size≤g∧g<s'.gens.size)∧
  ∀k:Snap,aB c [] [] s' k.s→bF c k.s→k.K=[]→a∈k.O→L∈k.O→(∀b∈k.O,b∈O∨s.heap.objs.size≤b)→∀A,Rm A 1→∃P,GI c A k g a P∧P [a,L] ds k.s
theorem qh{C f:Addr}{fs:List (Str×D)}{ds:List D}{nm x y:Str}{fd:FuncData}{body:List Stmt}(q:BE)(F:nG c f fd body)(hb:body=q.body x y nm)(hg:Cp fd.scope x y=true)(wD:findIn c.K (.ref C) "__iter__"=some (some (.ref f)))(Ow:isFn c.K (.ref f)=true)(hA:attrOk c.K C nm=true)(Eb:fs.lookup nm=some (.lst ds))(zy:∀s v,bF c s→iy s fd ⟨[v],[]⟩ [(x,v)]){A:aK}{O:List Addr}{s:ae}{v:ag}(R:Rm A 1)(K:Ok c O s)(r:bh c.w O s.heap v (.inst C fs)):wpAny (model c.prog c.w) A (pyIter v) (λ it s'=>aB c [] [] s s'∧bF c s'∧LW c O s ds it s') aZ s:=by
 have ec:=r;refine bh.qH r ?_;clear r;intro a dx es m ps Cm Xe h1 h2 Sn rf;refine c0 (rf.lookup Eb) λ lv Il rl=>?_;refine bO rl ?_;clear rl;intro ax vs z1 Xq pe VN;subst z1;have pe:=pe.isList;simp only[Cp,bg,beq_iff_eq,j6]at hg;refine xa hg ?_;clear hg;intro y1 X6;refine xa y1 ?_;clear y1;intro y2 Tw;refine xa y2 ?_;clear y2;intro y3 L7;refine xa y3 ?_;clear y3;intro y4 ky;refine xa y4 ?_;clear y4;intro ij kx;have hI:=iI h1 h2;refine aa (show wpAny _ A (specialOf _ _) _ _ _ from aa (hI.type.here ((jr K.br.fZ wD).here ?_)));show wpAny _ A (callSpecialIfBoundUnlessNone? (.ref a) "__iter__" _>>=_) _ _ s;refine aa (DM K.br.fZ hI wD Ow ?_);refine c0 F.at_ λ o ho hd=>?_;refine kg (codeAny_call_generator R.d0 (K.br.fZ _ _ ho) hd F.co ij (hb▸F.body) (F.Cv K.br) (zy s (.ref a) K.br _ _ _ _ ?_));rw[F.Vq];refine DX F.kind (λ z hz=>?_) λ env he au cZ=>?_
 ·rw[aj]at hz;subst hz;exact .inl kx
 have K9:env=callEnvC fd s.heap.objs.size f:=he;subst K9;have Ml:=cZ.toInCall.ns;have zE:=Ml.lt;have hz:s.heap.objs.size≤au.heap.objs.size:=af cZ.toInCall.fresh (bX zE);have vL:∀b o,s.heap.get? b=some o→au.heap.get? b=some o:=cZ.toInCall.keep;have g:aB c [] [] s au:=by
  refine ew cZ.done λ ct tk he j=>?_;rw[he]at hz vL⊢;exact .step hz vL
 have lM:bF c au:=by
  refine ew cZ.done λ ct tk he j=>?_;rw[he]at hz vL⊢;exact K.br.step hz vL
 refine⟨lM.nolimit,?_⟩;generalize R0:({au with
   gens:=au.gens.push (.fresh (.func (q.body x y nm) (callEnvC fd s.heap.objs.size f))),toks:=au.toks+1+1,
   heap:=au.heap.push {cls:=.type "generator",data:=.fields #[.int au.gens.size 0,.str fd.name au.toks,.str fd.qualname (au.toks+1)]}}:ae)=s₅
 have JC:s₅.heap=au.heap.push {cls:=.type "generator",data:=.fields #[.int au.gens.size 0,.str fd.name au.toks,.str fd.qualname (au.toks+1)]}:=by rw[← R0]
 have Hb:s₅.gens=au.gens.push (.fresh (.func (q.body x y nm) (callEnvC fd s.heap.objs.size f))):=by rw[← R0]
 have eG:∀b o,au.heap.get? b=some o→s₅.heap.get? b=some o:= λ b o e=>by rw[JC];exact aA _ e
 have iJ:s₅.heap.objs.size=au.heap.objs.size+1:=by rw[JC,aW]
 have zt:s₅.gens.size=au.gens.size+1:=by rw[Hb,hY]
 have AG:aB c [] [] au s₅:=⟨by rw[iJ];exact bq _,λ a o j e j=>eG a o e,λ a o e j=>.inl (eG a o e),λ g y j e=>by
  rw[Hb,BM (rL e)];rw[mM (rL e)]at e;exact e,by rw[zt];exact bq _,by rw[← R0]⟩
 have Bz:bF c s₅:=by
  refine⟨lM.ok,λ a o e=>eG _ _ (lM.fZ a o e),let⟨mc,hn,h0⟩:=lM.nolimit; ⟨mc,hn.keeps eG,h0⟩,lM.g.keeps eG,lM.b.keeps eG,eG _ _ lM.mod,λ p hp=>let⟨ps,h1,h2⟩:=lM.tab p hp; ⟨ps,h1.keeps eG,h2.keeps eG⟩,?_,by rw[iJ];exact eS lM.size⟩;rw[Hb];exact lM.bare.push rfl
 have F7:s₅.heap.IsGen au.heap.objs.size au.gens.size:=by rw[JC];exact⟨_,_,_,av _ rfl,rfl,rfl,rfl⟩
 have lI:aB c [] [] s s₅:=g.trans AG;have Lk:s.heap.objs.size≤(callEnvC fd s.heap.objs.size f).locals:=cZ.toInCall.fresh;refine aa (iL F7.typeIs oX.lookup ?_);refine ah ⟨lI,Bz,au.heap.objs.size,au.gens.size,(callEnvC fd s.heap.objs.size f).locals,rfl,F7,⟨hz,by rw[iJ];exact aS _⟩,⟨Lk,by rw[iJ];exact cx zE⟩,dA zE,⟨g.dv,by rw[zt];exact aS _⟩,λ k xk Sk WV SI SU UL A' R'=>?_⟩;have lI:=lI.trans xk;have lt:∀b o,s.heap.get? b=some o→b∉O→b∉k.O:= λ b o e Xj h=>(UL b h).elim Xj λ h=>ak _ (ab (aI e) h);have gk:∀b o,qE o=false→s.heap.get? b=some o→k.s.heap.get? b=some o:= λ b o ht e=>lI.keep b o (by simp) e ht;have SG:ax∉k.O:=by
  refine c0 pe ?_;clear pe;intro o ho j;exact lt _ _ ho Xq
 have XI:GE (callEnvC fd s.heap.objs.size f) x y:=⟨F.kind,kx,ky,by simpa using L7,F.co,Tw,X6⟩;have NM:s₅.heap.objs.size≤k.s.heap.objs.size:=xk.size;have hG:GF c A' ⟨k,au.gens.size,au.heap.objs.size,callEnvC fd s.heap.objs.size f,x,y,nm,a,dx,C,ax,es,m,vs,ds,q⟩:=⟨R',XI,lI.isList (nn) pe,SG,lI.fk (λ j=>nn) UL VN,WV,gk _ _ (bW (by simp)) h1,gk _ _ (cP rfl) h2,hA,lt _ _ h1 Cm,lt _ _ h2 Xe,(Sn nm).trans (congrArg some Il),SI,SU,dA zE,ab (by rw[iJ];exact aS _) NM,ab (by rw[iJ];exact cx zE) NM⟩;refine⟨_,fP.gi hG,
  IsGen.grow xk (by simp) F7,ab (by rw[zt];exact aS _) xk.dv,.inl ⟨rfl,rfl,xk.gens _ _ (by simp) (by rw[Hb];exact Al ..),_,xk.ns (by simp) (Ml.keeps eG),zV kx (by simp) (.head _)⟩⟩
theorem Ib.inst{tg:Expr}{C f:Addr}{fs:List (Str×D)}{ds:List D}{nm x y:Str}{fd:FuncData}{body:List Stmt}(q:BE)(F:nG c f fd body)(hb:body=q.body x y nm)(hg:Cp fd.scope x y=true)(wD:findIn c.K (.ref C) "__iter__"=some (some (.ref f)))(Ow:isFn c.K (.ref f)=true)(hA:attrOk c.K C nm=true)(Eb:fs.lookup nm=some (.lst ds))(zy:∀s v,bF c s→iy s fd ⟨[v],[]⟩ [(x,v)]):
  Ib c (n+1) tg (.inst C fs) (· =ds):= λ A O s v R K r=>
 wm (qh q F hb hg wD Ow hA Eb zy (R.le (aG 1 n)) K r) λ it s' z=>by
  refine jH z ?_;clear z;intro g S zh;refine cJ zh ?_;clear zh;intro a gn L z1 ij ha zh;refine cg zh ?_;clear zh;intro hL Mk Im h;subst z1;refine⟨g,S,ds,rfl,[a,L],[gn],λ b hb=>?_,λ b hb=>?_,λ A' R'=>?_⟩
  ·rcases mc hb with rfl|hb
   ·exact ha
   ·rw[aj]at hb;subst hb;exact hL
  ·rw[aj]at hb;subst hb;exact Im
  ·refine c0 (h ⟨s',[a,L]++O,[]⟩ (.refl ..) S rfl (.head _) (.tail _ (.head _)) (λ b hb=>(aC.mp hb).elim (λ hb=>.inr (by
    rcases mc hb with rfl|hb
    ·exact ha.1
    ·rw[aj]at hb;subst hb;exact hL.1)) .inl) A' (R'.le (aG 1 n))) λ P hG hP=>?_
   exact⟨_,nN.S_ hG,hP⟩
end
set_option maxHeartbeats 1000000 in
theorem uh(prog:Program)(w:a9)(p:Addr):MeetsIn prog w (Builtin.«enumerate.__new__» ⟨[.type "enumerate",.ref p],[]⟩) (λ A R s=>
  wpAny (model prog w) A.in1 (pyIter (.ref p)) (λ it s'=>R (.ok (.ret (.ref s'.heap.objs.size))) {s' with heap:=s'.heap.push {cls:=.type "enumerate",data:=.fields #[.none,.bool false,it,rawInt 0,.none,.none]}}) (λ e s'=>R (.error e) s') s):=
 .of_wp λ A R s h=>by
  have gz:=PySem.sub_enumerate;obtain⟨hp,g,d,tk,os⟩:=s;have hI:∀{Q:ag→ae→Prop},(∀it s',R (.ok (.ret (.ref s'.heap.objs.size))) {s' with heap:=s'.heap.push {cls:=.type "enumerate",data:=.fields #[.none,.bool false,it,rawInt 0,.none,.none]}}→Q it s')→
   wpAny (model prog w) A.in1 (pyIter (.ref p)) Q (λ e s'=>R (.error e) s') ⟨hp,g,d,tk,os⟩:= λ k=>wk h k
  wp_walk using hI
  refine wpAny_stack_any λ st=>ah ?_;generalize Builtin.SmallTypes.calledThroughType.match_1 _ _ _ _=short;cases short
  all_goals
   wp_walk using hI
   rintro it ⟨Aq,g',d',Yc,Ye⟩ hr
   wp_walk
   exact⟨_,rfl,hr⟩
section
variable {prog:Program}{w:a9}{A:aK}{E:ag→ae→Prop}{s:ae}
theorem uT{p:Addr}{Q:ag→ae→Prop}(h:wpAny (model prog w) A.in1.in1 (pyIter (.ref p)) (λ it s'=>Q (.ref s'.heap.objs.size) {s' with heap:=s'.heap.push {cls:=.type "enumerate",data:=.fields #[.none,.bool false,it,rawInt 0,.none,.none]}}) E s):
  wpAny (model prog w) A (call (.type "enumerate") [.ref p]) Q E s:=
 callType_newIn PySem.F.called_enumerate (by decide) (PySem.F.typeCall_enumerate_1 _) (PySem.F.newCall_enumerate_1 _) (λ obj=>PySem.F.args_object_init_2 obj _) PySem.F.entry_enumerate_new (uh prog w p)
  (wk h λ it s' q=>⟨⟨_,av _ rfl,rfl⟩,q⟩)
noncomputable def X_(Q:ag→ae→Prop)(E:ag→ae→Prop)(g:Nat):End→ae→Prop
 |.ret r,au=>r=.ok (.ret .none)∧∀h' x,(∀b o,au.heap.get? b=some o→h'.get? b=some o)→(∃o,h'.get? x=some o∧o.cls=.type "StopIteration")→E (.ref x) {au.setGen g .finished with heap:=h'}
 |.susp v gd l k cd p fs,au=>(qO v gd l k cd p fs).quiet=true∧Q v (au.setGen g (qO v gd l k cd p fs).genState)
theorem l0{a:Addr}{g:Nat}{gs:mh}{Z:End→ae→Prop}{Q:ag→ae→Prop}(hh:A.handled=none)(hl:s.heap.NoLimit)(FT:A.depth<recursionLimit)(hg:s.heap.IsGen a g)(Oq:s.gens[g]? =some gs)(nk:u1 (model prog w) A.in1 Z gs (.send .none) (s.setGen g .running))(hZ:∀e au,Z e au→X_ Q E g e au):
  wpAny (model prog w) A (pX (.ref a)) Q E s:=by
 refine aa (cD (name:=d8 "__next__") hg.typeIs oX
  (bQ oX hg.typeIs entry_gen_next ?_ (args_gen_next _)))
 show wpAny _ A.in1 (qd (.ref a) (.send .none)) _ _ s;refine aa (aV (wpAny_genNumber hg (aa (wpAny_genState Oq ?_))));cases gs with
 |running=>exact nk.elim
 |finished=>exact nk.elim
 |_=>
  refine aa (wpAny_roomToWake hl FT ?_);show wpAny _ A.in1 (.resume g (.send .none) [] _) _ _ s;refine o9 Oq nk λ e au hz=>?_;have hz:=hZ e au hz;cases e with
  |ret x=>
   obtain⟨rfl,hp⟩:=hz;refine⟨rfl,?_⟩;show wpAny _ A.in1 (newExc (.type "StopIteration") []>>=_) _ _ _;refine aa ?_;refine aa (bo ?_ (by exact bV _));refine aa (m:=firstArgMember _ _) (cU (a:=di) (by first|rfl|(simp only[firstArgMember];rfl)) ?_);refine bo ?_ (by size_fits);refine aa (aa (oW ?_))
   first|rw[show A.in1.handled=none from hh]|rw[hh]
   refine sY ?_;exact hp _ _ (λ b o hb=>aA _ (aA _ hb)) ⟨_,av _ rfl,rfl⟩
  |susp v gd l k cd p fs=>
   exact⟨hz.1,ah ⟨v,rfl,ah hz.2⟩⟩
theorem wM{e it:Addr}{i:Nat}{old:ag}{K:ag→ae→Prop}{Q:Option ag→ae→Prop}{X:ag→ae→Prop}(he:z4 s.heap e it i old)(hn:wpAny (model prog w) A.in1 (pX (.ref it)) (λ v au=>z4 au.heap e it i old∧K v au) X s)(hX:∀x s',X x s'→wpAny (model prog w) A (do if ← isInstance x (.type "StopIteration")then pure none else throw x) Q E s')(hQ:∀v au h' tk,K v au→IsEnumOut h' e it ((i:Int)+1) v au.heap.objs.size→h'.get? au.heap.objs.size=some {cls:=.type "tuple",data:=.seq #[.int i tk,v]}→h'.objs.size=au.heap.objs.size+1→
   (∀b o,b≠e→au.heap.get? b=some o→h'.get? b=some o)→Q (some (.ref au.heap.objs.size)) {au with heap:=h',toks:=tk+1}):
  wpAny (model prog w) A (pyNext (.ref e)) Q E s:=by
 have hT:s.TypeIs (.ref e) "enumerate":=⟨_,he,rfl⟩;refine aa (gu (cD (name:=d8 "__next__") hT vC
  (bQ vC hT PySem.F.entry_enumerate_next ?_ (PySem.F.args_enumerate_next_1 _))))
 show wpAny _ _ (field (.ref e) 2>>=_) _ _ _;refine aa (kE he rfl (x:=.ref it) rfl ?_);refine aa (jc hn (λ x au hk=>?_) λ x s' hx=>hX x s' hx);refine xa hk ?_;clear hk;intro wG hk;obtain⟨ct,g,d,tk,os⟩:=au
 replace wG:z4 ct e it i old:=wG
 show wpAny _ _ (field (.ref e) 3>>=_) _ _ ⟨ct,g,d,tk,os⟩;refine aa (kE wG rfl (x:=rawInt i) rfl ?_);show wpAny _ _ (field (.ref e) 4>>=_) _ _ ⟨ct,g,d,tk,os⟩;refine aa (kE wG rfl (x:=.none) rfl ?_);show wpAny _ _ (mkInt i>>=_) _ _ ⟨ct,g,d,tk,os⟩;refine aa (Aw ?_);show wpAny _ _ (setField (.ref e) 3 (rawInt ((i:Int)+1))>>=_) _ _ ⟨ct,g,d,tk+1,os⟩;refine aa (iz wG (by exact aG _ _) λ cM Ck mE=>?_)
 replace mE:c9 e ct cM:=mE
 replace Ck:z4 cM e it ((i:Int)+1) old:=Ck
 show wpAny _ _ (setField (.ref e) 4 .none>>=_) _ _ ⟨cM,g,d,tk+1,os⟩;refine aa (iz Ck (by exact bq _) λ mD Cj zk=>?_)
 replace zk:c9 e cM mD:=zk
 replace Cj:z4 mD e it ((i:Int)+1) old:=Cj
 show wpAny _ _ (newTuple [.int i tk,x]>>=_) _ _ ⟨mD,g,d,tk+1,os⟩;refine aa (DR ?_);have Ci:z4 (mD.push {cls:=.type "tuple",data:=.seq #[.int i tk,x]}) e it ((i:Int)+1) old:=aA _ Cj;generalize Ch:mD.push {cls:=.type "tuple",data:=.seq #[.int i tk,x]}=pE at Ci;have lb:mD.objs.size=ct.objs.size:=by rw[zk.1,mE.1]
 have Mf:e<ct.objs.size:=aI wG;have NV:pE.get? ct.objs.size=some {cls:=.type "tuple",data:=.seq #[.int i tk,x]}:=by rw[← Ch,← lb];exact av _ rfl
 have NI:pE.objs.size=ct.objs.size+1:=by rw[← Ch,aW,lb]
 have Oi:∀b o,b≠e→ct.get? b=some o→pE.get? b=some o:= λ b o Lf hb=>by
  rw[← Ch];exact aA _ (zk.extBut b o Lf (mE.extBut b o Lf hb))
 show wpAny _ _ (mN (.ref e)>>=_) _ _ ⟨pE,g,d,tk+1,os⟩;rw[lb];clear Ch Cj zk Ck mE lb;refine aa ?_
 ·unfold mN;refine aa (kE Ci rfl (x:=.none) rfl (ah ?_));refine wT ?_;refine aa (gq ?_);refine aa (kE Ci rfl (x:=old) rfl ?_);refine aa (iz Ci (by exact az _) λ zf Ga zj=>?_)
  replace zj:c9 e pE zf:=zj
  replace Ga:z4 zf e it ((i:Int)+1) x:=Ga
  show wpAny _ _ (mn (.ref e) (.ref ct.objs.size)>>=_) _ _ ⟨zf,g,d,tk+1,os⟩;refine aa ?_
  ·unfold mn;refine aa (iz Ga (by exact bB _) λ Bf F_ zi=>?_)
   replace zi:c9 e zf Bf:=zi
   replace F_:IsEnumOut Bf e it ((i:Int)+1) x ct.objs.size:=F_
   refine iz F_ (by exact aG _ _) λ FL F9 zg=>?_
   replace zg:c9 e Bf FL:=zg
   replace F9:IsEnumOut FL e it ((i:Int)+1) x ct.objs.size:=F9
   refine aa (jd (ah ⟨_,rfl,ah (hQ x ⟨ct,g,d,tk,os⟩ FL tk hk F9 ?_ ?_ ?_)⟩))
   ·exact zg.extBut _ _ (dA Mf) (zi.extBut _ _ (dA Mf) (zj.extBut _ _ (dA Mf) NV))
   ·rw[zg.1,zi.1,zj.1,NI]
   ·exact λ b o Lf hb=>zg.extBut b o Lf (zi.extBut b o Lf (zj.extBut b o Lf (Oi b o Lf hb)))
end
noncomputable def il:Nat→List D→List D
 |_,[]=>[]
 |i,d::ds=>.tup [.int i,d]::il (i+1) ds
noncomputable def eP(P:List Addr→List D→ae→Prop)(e a:Addr):List Addr→List D→ae→Prop:= λ F ds s=>
 ∃lW l9 i old,F=e::lW∧e∉lW∧P lW l9 s∧z4 s.heap e a (i:Nat) old∧ds=il i l9
section
variable {c:Cx}{A:aK}{k:Snap}{a e:Addr}{g:Nat}{P:List Addr→List D→ae→Prop}
theorem CK{M:qU}{x:ag}{s:ae}{Q:Option ag→ae→Prop}{E:ag→ae→Prop}(h:∃b,x=.ref b∧∃o,s.heap.get? b=some o∧o.cls=.type "StopIteration")(hQ:Q none s):wpAny M A (do if ← isInstance x (.type "StopIteration")then pure none else throw x) Q E s:=by
 refine eX h ?_;clear h;intro b z1 o ho hc;subst z1;exact aa (cj (T:="StopIteration") (b:=true) ⟨o,ho,hc⟩ nI (ah hQ))
theorem nN.enum{elts:List Expr}{x1}{pos:Pos}(R:Rm A 1)(K:GI c A.in1 k g a P)(W7:e∈k.O)(Yn:e<k.s.heap.objs.size):nN c A (.Tuple elts x1 pos) (.ref e) k [g] (eP P e a) where
 det:= λ w w'=>iu w λ lW l9 i zh=>eE zh λ old e1 z h z=>iu w' λ P0 JH j zh=>eE zh λ VU e2 z h' z=>by rw[e1,e2,K.det h h']
 frame:= λ w y S hV hG=>iu w λ lW l9 i zh=>eE zh λ old e1 ku h zh=>⟨lW,l9,i,old,e1,ku,K.frame h y (λ b hb hf=>hV b hb (e1▸ .tail _ hf)) hG,y.keep e _ (λ h=>hV _ h (e1▸ .head _)) zh.1 (bW (by simp)),zh.2⟩
 next:= λ {F ds d t} S hs hB w0=>by
  refine iu w0 λ lW l9 i zh=>eE zh λ old hF ku h zh=>xa zh λ he hd=>?_;clear w0;subst hF;cases l9 with
  |nil=>cases hd
  |cons d₁ l9=>
  obtain⟨rfl,rfl⟩:=vW hd;refine dj (K.next S hs (λ b hb=>hB b (.tail _ hb)) h) λ gs Z hf nk hz=>?_;have gE:=K.lt h;have het:e<t.heap.objs.size:=aI he;refine wM (K:=LQ c k g P lW d₁ l9 t) (X:=aZ) he
   (l0 K.R.handled S.nolimit K.R.d0 (K.gen h) hf nk λ e' au q'=>?_) (λ z z f=>f.elim) λ v au h' tk r ho hT lb i9=>?_
  ·refine xe (hz e' au q') λ v zh=>iu zh λ gd l kk zh=>iu zh λ cd pp fs zh=>jH zh λ z1 hq r=>?_;subst z1;exact⟨hq,r.gr.keep e _ ku he (bW (by simp)),r⟩
  ·refine cI r.ex λ F' hu hn hp=>?_;refine⟨_,rfl,wpAny_letOwnedTupleGo_enum ho λ pI Su rI=>?_⟩;have N0:pI.objs.size=au.heap.objs.size+1:=by rw[rI.1];exact lb
   have UW:e<au.heap.objs.size:=ab het r.gr.size;have UM:∀b o,b∉ [e]→au.heap.get? b=some o→pI.get? b=some o:= λ b o hb e'=>rI.extBut b o (λ h=>hb (h▸ .head _)) (i9 b o (λ h=>hb (h▸ .head _)) e');have Ee:pI.get? au.heap.objs.size=some {cls:=.type "tuple",data:=.seq #[.int i tk,v]}:=rI.extBut _ _ (dA UW) hT;have UU:e∉F':=hu.not ku het;have RJ:au.heap.objs.size≤pI.objs.size:=N0▸bq _;have g2:aB c [e] [] au {au with heap:=pI,toks:=tk+1}:=.of_keep RJ UM λ b hb o eb=>by
    obtain rfl:=m1 hb;rw[r.gr.keep _ _ ku he (bW (by simp))]at eb;cases eb;exact bW (by simp)
   have S2:bF c {au with heap:=pI,toks:=tk+1}:=r.S.at (O:=[e]) RJ UM λ b hb=>m1 hb▸hB _ (.head _);have lI:aB c (e::lW) [g] t {au with heap:=pI,toks:=tk+1}:=(r.gr.mono (λ b hb=>.inl (.tail _ hb)) λ z h=>.inl h).comp g2 (λ b hb=>.inl (m1 hb▸ .head _)) λ z=>nn;have OO:=K.lt hp;refine⟨lI,S2,e::F',λ b hb=>?_,λ O XC U6=>?_,F',l9,i+1,v,rfl,UU,K.frame hp g2 (λ b hb hf=>UU (m1 hb▸hf)) (λ z=>nn),Su,rfl⟩
   ·rcases mc hb with rfl|hb
    ·exact .inl (.head _)
    ·exact(hu b hb).imp (λ h=>.tail _ h) λ h=>⟨h.1,ab h.2 RJ⟩
   ·have r1:bh c.w (e::O) au.heap v d₁:=hn (e::O) (λ b hb=>(aD.mp hb).elim (λ h=>.inl (h▸W7)) (XC b)) λ b hb=>(aD.mp hb).elim (λ h=>.inl (h▸het)) λ hb=>(U6 b hb).elim .inl λ hb=>(aD.mp hb).elim (λ h=>.inl (h▸het)) .inr;have r2:bh c.w O pI v d₁:=g2.rep (λ b hb=>.inl (m1 hb▸ .head _)) (λ b hb=>.inl (.tail _ hb)) r1;refine⟨au.heap.objs.size,[.int i tk,v],rfl,λ Xw=>?_,⟨_,Ee,rfl,_,rfl⟩,⟨_,rfl⟩,r2,trivial⟩
    rcases U6 _ Xw with h|h
    ·exact ak _ (ab h r.gr.size)
    ·exact(aD.mp h).elim (λ h=>ak _ (h▸UW)) λ h=>ak _ (OO _ h)
 done:= λ {F t} S hs hB w0=>by
  refine iu w0 λ lW l9 i zh=>eE zh λ old hF ku h zh=>xa zh λ he hd=>?_;clear w0;subst hF;cases l9 with
  |cons d₁ l9=>cases hd
  |nil=>
  refine dj (K.done S hs (λ b hb=>hB b (.tail _ hb)) h) λ gs Z hf nk hz=>?_;refine dc (jc (wM (K:= λ z z=>False) (X:= λ x s'=>(∃b,x=.ref b∧∃o,s'.heap.get? b=some o∧o.cls=.type "StopIteration")∧(t.heap.objs.size≤s'.heap.objs.size→aB c (e::lW) [g] t s'∧bF c s')) (Q:= λ r s'=>t.heap.objs.size≤s'.heap.objs.size→r=none∧aB c (e::lW) [g] t s'∧bF c s') (E:= λ z z=>False) he
   (l0 K.R.handled S.nolimit K.R.d0 (K.gen h) hf nk λ e' au q'=>?_) (λ x s' hx=>CK hx.1 λ vk=>⟨rfl,hx.2 vk⟩) λ z z z z f=>f.elim) (λ r s' q up=>q up.heap) λ z z f z=>f)
  refine jH (hz e' au q') λ z1 gr S'=>?_;subst z1;exact⟨rfl,λ h' x vL hx=>⟨⟨x,rfl,hx⟩,λ vk=>⟨(gr.mono (λ b hb=>.inl (.tail _ hb)) λ z h=>.inl h).after vk vL,S'.keep (af S.size vk) vL⟩⟩⟩
 self:= λ {A' F ds t} S w0=>iu w0 λ lW l9 i zh=>eE zh λ old z z z zh=>wpAny_pyIter_enum zh.1 ⟨rfl,rfl⟩
end
section
variable {c:Cx}{n:Nat}{E:VE}{ρ:List Sl}
theorem kd.enum{elts:List Expr}{x1}{nU p pos pz:Pos}{z:Str}{C f:Addr}{fs:List (Str×D)}{ds:List D}{nm x y:Str}{fd:FuncData}{body:List Stmt}(q:BE)(F:nG c f fd body)(hb:body=q.body x y nm)(hg:Cp fd.scope x y=true)(wD:findIn c.K (.ref C) "__iter__"=some (some (.ref f)))(Ow:isFn c.K (.ref f)=true)(hA:attrOk c.K C nm=true)(Eb:fs.lookup nm=some (.lst ds))(zy:∀s v,bF c s→iy s fd ⟨[v],[]⟩ [(x,v)])(hx:E.env.kindOf "enumerate"=some .globalImplicit)(Im:cX c "enumerate" (.type "enumerate"))(h:Ev c (n+4) E ρ (.Name z pz) (.inst C fs)):
  kd c (n+4) E ρ (.Call (.Name "enumerate" p) [.Name z pz] [] pos) (.Tuple elts x1 nU) (· =il 0 ds):= λ A β O ad s R I=>
 fL (iN I hx Im rfl (fT R I (show jz c (.type "enumerate")from trivial) (cn.cons h .nil) .nil rfl λ vs ks au cZ bj r r'=>by
  have K4:ks=[]:=by
   cases ks with
   |nil=>rfl
   |cons a b=>exact r'.elim
  subst K4;obtain⟨v,rfl⟩:∃v,vs=[v]:=CD.mp r.length;have r:=r.1;have ec:=r;refine iB ec ?_;clear ec;intro pa j zh;refine lB zh ?_;clear zh;intro j j j z1 j;subst z1;refine uT (wm (qh q F hb hg wD Ow hA Eb zy (R.le (aG 3 _)).in1.in1 bj.o r) λ it aH z=>?_);refine jH z ?_;clear z;intro g2 S2 zh;refine cJ zh ?_;clear zh;intro a gn L z1 ij ha zh;refine cg zh ?_;clear zh;intro hL Mk Im hk;subst z1;refine wpAny_pyIter_enum (it:=a) (i:=0) (old:=.none) (av _ rfl) ?_;have g3:aB c [] [] aH {aH with heap:=aH.heap.push {cls:=.type "enumerate",data:=.fields #[.none,.bool false,.ref a,rawInt 0,.none,.none]}}:=aB.push (tk:=aH.toks);have S3:bF c {aH with heap:=aH.heap.push {cls:=.type "enumerate",data:=.fields #[.none,.bool false,.ref a,rawInt 0,.none,.none]}}:=S2.push (tk:=aH.toks);have vj:s.heap.objs.size≤au.heap.objs.size:=cZ.size;have Ce:au.heap.objs.size≤aH.heap.objs.size:=g2.size;have NN:(aH.heap.push {cls:=.type "enumerate",data:=.fields #[.none,.bool false,.ref a,rawInt 0,.none,.none]}).objs.size=aH.heap.objs.size+1:=aW ..;refine⟨(cZ.trans g2).trans g3,S3,_,rfl,[aH.heap.objs.size,a,L],[gn],λ b hb=>?_,λ b hb=>?_,λ A' R'=>?_⟩
  ·show s.heap.objs.size≤b∧b<(aH.heap.push _).objs.size;rw[NN]
   rcases mc hb with rfl|hb
   ·exact⟨af vj Ce,aS _⟩
   rcases mc hb with rfl|hb
   ·exact⟨af vj ha.1,cx ha.2⟩
   ·rw[aj]at hb;subst hb;exact⟨af vj hL.1,cx hL.2⟩
  ·rw[aj]at hb;subst hb;exact⟨af cZ.dv Im.1,Im.2⟩
  ·refine c0 (hk ⟨{aH with heap:=aH.heap.push {cls:=.type "enumerate",data:=.fields #[.none,.bool false,.ref a,rawInt 0,.none,.none]}},[aH.heap.objs.size,a,L]++O,[]⟩ g3 S3 rfl (.tail _ (.head _)) (.tail _ (.tail _ (.head _))) (λ b hb=>(aC.mp hb).elim (λ hb=>.inr (by
    rcases mc hb with rfl|hb
    ·exact Ce
    rcases mc hb with rfl|hb
    ·exact ha.1
    ·rw[aj]at hb;subst hb;exact hL.1)) .inl) A'.in1 (R'.le (aG 2 _)).in1) λ P XH hP=>?_
   refine⟨_,nN.enum (R'.le (aG 1 _)) XH (.head _) (by show _<(aH.heap.push _).objs.size;rw[NN];exact aS _),[a,L],ds,0,.none,rfl,λ hm=>?_,hP,av _ rfl,rfl⟩
   rcases aD.mp hm with hm|hm
   ·exact ak _ (hm▸ha.2)
   ·rw[aj]at hm;exact ak _ (hm▸hL.2)))
end
section
variable {c:Cx}{n:Nat}{E:VE}{ρ ρ':List Sl}
theorem bc.PD{elts:List Expr}{k:Nat}{nU pos:Pos}{e:Expr}{ds:List D}(h:Ev c n E ρ e (.tup ds))(t:ju c n E ρ (.Tuple elts k nU) (.tup ds) ρ')(hs:autoParam (swapsWithSole [.Tuple elts k nU] e pos.line E.env=pure false) rf)(hw:autoParam (swappedStores [.Tuple elts k nU] e E.env=pure none) rf):bc c n E ρ (.Assign [.Tuple elts k nU] e pos) (.next ρ'):= λ A β s R w0=>iB w0 λ O ad I=>
 Assign_Tuple (h.go R I λ v au x bj r=>wm (t A β O ad au v R bj r) λ z s' q=>by
  refine ew q ?_;clear q;intro ad' W I' z;exact⟨rfl,O,ad',I'⟩) hs hw
theorem CJ{A:aK}{s:ae}{t:Addr}{vs:List ag}{k:Nat}(hh:A.handled=none)(ht:lQ s.heap t vs.toArray)(hk:vs.length=k):wpAny (model c.prog c.w) A (unpackItems (.ref t) k none)
  (λ r s'=>r=vs∧∃h',s'={s with heap:=h'}∧s.heap.objs.size≤h'.objs.size∧∀a o,s.heap.get? a=some o→h'.get? a=some o) aZ s:=by
 subst hk;refine dc ?_;show wpAny _ A (unpackItems (.ref t) vs.toArray.size none) _ _ s;exact wpAny_unpackItems_tuple hh ht λ h' he up=>⟨rfl,h',rfl,up.heap,λ a o e=>he a o (dM (aI e)) e⟩
theorem bc.MI(i j:Nat){x y:Str}{p1 p2 nU pos p':Pos}{k k':Nat}{e f:Expr}{d₁ d₂:D}(h:Ev c n E ρ (.Tuple [e,f] k' p') (.tup [d₁,d₂]))(hx:E.vn[i]? =some x)(hy:E.vn[j]? =some y)(hi:i<E.k)(hj:j<E.k)(hl:i<ρ.length)(nE:j<ρ.length)(hs:autoParam (swapsWithSole [.Tuple [.Name x p1,.Name y p2] k nU] (.Tuple [e,f] k' p') pos.line E.env=pure false) rf)(hw:autoParam (swappedStores [.Tuple [.Name x p1,.Name y p2] k nU] (.Tuple [e,f] k' p') E.env=pure (some [x,y])) rf):
  bc c n E ρ (.Assign [.Tuple [.Name x p1,.Name y p2] k nU] (.Tuple [e,f] k' p') pos) (.next ((ρ.set j (.val d₂)).set i (.val d₁))):= λ A β s R w0=>iB w0 λ O ad I=>by
  refine Assign_Tuple_swapped (names:=[x,y]) ?_ hs hw;refine h.go R I λ v au cZ bj r=>?_;refine bh.ql r ?_;clear r;intro a vs ha ht r;obtain⟨eQ,eO,rfl⟩:∃a b,vs=[a,b]:=ui r.length λ a b=>⟨a,b,rfl⟩;refine wm (CJ (k:=2) R.handled ht rfl) λ r' s' q=>?_;refine xa q ?_;clear q;intro z1 zh;refine cI zh ?_;clear zh;intro h' z2 hz hk;subst z1;subst z2;have g:aB c [] [] au {au with heap:=h'}:=.of_keep (tk:=au.toks) hz (λ a o z e=>hk a o e) λ z=>nn;have S:bF c {au with heap:=h'}:=bj.br.at (O:=[]) (tk:=au.toks) hz (λ a o z e=>hk a o e) λ z=>nn;have cu:=bj.fU g S;have r:=g.j_ r;show wpAny _ A (assignInOrder [bindName E.env y,bindName E.env x] [eO,eQ]) _ _ _;refine aa (aV (wpAny_bindName (mr cu hj hy nE (sl:=.val d₂) (fp:=[]) ⟨rfl,r.2.1⟩ (λ z z z h=>nn h) λ cq w jT Dz NQ z=>?_)));refine aa (aV (wpAny_bindName (mr jT hi hx (by rw[jt];exact hl) (sl:=.val d₁) (fp:=[]) ⟨rfl,Dz.rep (λ a h=>.inl (by rw[aj]at h;exact h▸NQ)) (λ a h=>.inl h) r.1⟩ (λ z z z h=>nn h) λ d7 w' i5 z z z=>?_)));exact ah ⟨rfl,O,_,i5⟩
theorem gH.Pk{a b:Int}(h0:b≠0)(hb:b.natAbs<2^64):gH c n .FloorDiv (.int a) (.int b) (.int (a.fdiv b)):= λ A O s eQ eO R K bC bx=>by
 refine bh.ef bC λ t=>bh.ef bx λ u=>?_;refine floordiv_int h0 (Res.tok K.br ft) (.inl (PyProof.noPylong_of_log2 ?_));have:b.natAbs.log2<64:=(Nat.log2_lt (Int.natAbs_ne_zero.mpr h0)).mpr hb;exact af this (aG _ _)
end
section
set_option backward.match.sparseCases false
noncomputable def rX(c:Cx)(n:Nat)(op:mf)(d₁ d₂ d:D):Prop:=
 ∀(A:aK) (O:List Addr) (s:ae) (eQ eO:ag),Rm A n→Ok c O s→bh c.w O s.heap eQ d₁→bh c.w O s.heap eO d₂→wpAny (model c.prog c.w) A (binaryOp op eQ eO) (λ v s'=>aB c [] [] s s'∧bF c s'∧∀O',(∀a∈O',a<s.heap.objs.size)→bh c.w O' s'.heap v d) aZ s
noncomputable def T8:Option (Option ag)→Bool
 |some none=>true
 |some (some (.ref _))=>true
 |_=>false
theorem Kq{o:Option (Option ag)}(h:T8 o=true):∃rc,o=some rc∧(rc=none∨∃g:Addr,rc=some (.ref g)):=by
 cases o with
 |none=>cases h
 |some r=>cases r with
  |none=>exact⟨_,rfl,.inl rfl⟩
  |some v=>cases v with
   |ref g=>exact⟨_,rfl,.inr ⟨g,rfl⟩⟩
   |_=>exact absurd h eu
noncomputable def wt(K:Frag)(C:Addr)(T nm:String)(f:Addr):Bool:=qy K C (dY nm) f&&T8 (findIn K (.ref C) (dunderR nm))&&
 (findIn K (.type T) (dY nm)).isSome&&(findIn K (.type T) (dunderR nm)).isSome&&subIn K (.type T) (.ref C)==some false
section
variable {c:Cx}{n:Nat}{E:VE}{ρ ρ':List Sl}
theorem rX.bin{op:mf}{d₁ d₂ d:D}(h:rX c n op d₁ d₂ d):gH c n op d₁ d₂ d:= λ A O s eQ eO R K bC bx=>
 wm (h A O s eQ eO R K bC bx) λ v s' q=>⟨q.1,q.2.1,q.2.2 O K.lt⟩
theorem xZ.bin{l r:Expr}{op:mf}{pos:Pos}{d₁ d₂ d:D}(ct:Ev c n E ρ l d₁)(cM:Ev c n E ρ r d₂)(h:rX c n op d₁ d₂ d):xZ c n E ρ (.BinOp l op r pos) d:= λ A β O ad s R I=>
 wpAny_BinOp (ct.go R I λ v au cZ bj bC=>cM.go R bj λ u aH cF cu bx=>
  wm (h A O aH v u R cu.o (cF.rep0 bC) bx) λ z z q=>⟨(cZ.trans cF).trans q.1,q.2.1,λ O' Dy=>q.2.2 O' λ a ha=>ab (Dy a ha) (cZ.trans cF).size⟩)
set_option tactic.hygienic true in
theorem bh.VX{w:a9}{O:List Addr}{h:Heap}{v:ag}{d:D}(hd:d.seen=true)(r:bh w O h v d):v≠.notImplemented:=by
 have k:∀a,dQ a≠.notImplemented:= λ a h=>by cases h
 cases d
 case none=>obtain rfl:=r;intro h;cases h
 case bool b=>obtain rfl:=r;intro h;cases h
 case int i=>exact bh.ef r λ t h=>by cases h
 case str x=>exact bh.ri r λ t h=>by cases h
 case tup ds=>exact bh.ql r λ a z z z z=>k a
 case lst ds=>exact bh.n7 r λ a z z z z=>k a
 case dm xs=>exact bh.sm r λ a z z z z z z=>k a
 case k8 j st=>exact bh.yq r λ a z z z z z z=>k a
 case inst C fs=>exact bh.qH r λ a z z z z z z z z z z=>k a
 case dJ sQ=>exact bh.Cd r λ a z z z z z z=>k a
 case D5 x y=>exact bh.ES r λ a z z z z z=>k a
 case lit=>exact absurd hd eu
 case any=>exact absurd hd eu
theorem bh.back{w:a9}{O:List Addr}{h:Heap}{v:ag}{d:D}{Q:ag→ae→Prop}{s:ae}(hd:d.seen=true)(r:bh w O h v d)(q:Q v s):lr Q v s:=by
 have n:=bh.VX hd r;cases v
 case notImplemented=>exact absurd rfl n
 all_goals exact q
theorem rX.inst{op:mf}{C f:Addr}{fs gs:List (Str×D)}{d:D}(ho:qy c.K C (dY op.info.2) f=true)(h:P2 c n (.ref f) [.inst C fs,.inst C gs] [] d)(hd:autoParam (d.seen=true) rf):rX c n op (.inst C fs) (.inst C gs) d:= λ A O s eQ eO R K bC bx=>by
 have nZ:=bC;have qt:=bx;refine iB bC ?_;clear bC;intro a dx zh;refine c_ zh ?_;clear zh;intro es m ps z1 z zh;refine cg zh ?_;clear zh;intro z h1 h2 z;subst z1;refine iB bx ?_;clear bx;intro b dy zh;refine c_ zh ?_;clear zh;intro rP m' C8 z1 z zh;refine cg zh ?_;clear zh;intro z Co wJ z;subst z1;unfold qy at ho;simp only[bg,beq_iff_eq]at ho;refine xa ho ?_;clear ho;intro y1 hc;refine xa y1 ?_;clear y1;intro hs hf;refine FF K.br h1 h2 (iI Co wJ).type hc hs hf (wm (h A O s _ _ R K (by exact⟨nZ,qt,trivial⟩) (by trivial)) λ v s' q=>?_);exact(q.2.2 O K.lt).back hd q
theorem rX.Jq{op:mf}{C f:Addr}{fs:List (Str×D)}{i:Int}{d:D}(ho:wt c.K C "int" op.info.2 f=true)(h:P2 c n (.ref f) [.inst C fs,.int i] [] d)(hd:autoParam (d.seen=true) rf):rX c n op (.inst C fs) (.int i) d:= λ A O s eQ eO R K bC bx=>by
 have nZ:=bC;have qt:=bx;refine iB bC ?_;clear bC;intro a dx zh;refine c_ zh ?_;clear zh;intro es m ps z1 z zh;refine cg zh ?_;clear zh;intro z h1 h2 z;subst z1;refine xe bx ?_;clear bx;intro t z1;subst z1;unfold wt qy at ho;simp only[bg,beq_iff_eq]at ho;refine xa ho ?_;clear ho;intro y1 h5;refine xa y1 ?_;clear y1;intro y2 h4;refine xa y2 ?_;clear y2;intro y3 h3;refine xa y3 ?_;clear y3;intro y4 hr;refine xa y4 ?_;clear y4;intro y5 hc;refine xa y5 ?_;clear y5;intro hs hf;refine xe (dF.mp h3) λ fo h3=>?_;refine xe (dF.mp h4) λ ro h4=>?_;refine c0 (Kq hr) λ rc Ma Wz=>?_;refine Dm (T:="int") K.br h1 h2 rfl hc hs hf Ma Wz h3 h4 h5 (wm (h A O s _ _ R K (by exact⟨nZ,qt,trivial⟩) (by trivial)) λ v s' q=>?_);exact(q.2.2 O K.lt).back hd q
theorem cC.inst{op:CmpOp}{C f:Addr}{fs gs:List (Str×D)}{b:Bool}(ho:qy c.K C (cmpInfo op).2.1 f=true)(h:Fn c n (.ref f) [.inst C fs,.inst C gs] [] (.bool b))(WE:∀x y,compareOp op x y=richCompare op x y:=by intros;rfl):cC c n op (.inst C fs) (.inst C gs) b:= λ A O s eQ eO R K bC bx=>by
 have nZ:=bC;have qt:=bx;refine iB bC ?_;clear bC;intro a dx zh;refine c_ zh ?_;clear zh;intro es m ps z1 z zh;refine cg zh ?_;clear zh;intro z h1 h2 z;subst z1;refine iB bx ?_;clear bx;intro b' dy zh;refine c_ zh ?_;clear zh;intro rP m' C8 z1 z zh;refine cg zh ?_;clear zh;intro z Co wJ z;subst z1;unfold qy at ho;simp only[bg,beq_iff_eq]at ho;refine xa ho ?_;clear ho;intro y1 hc;refine xa y1 ?_;clear y1;intro hs hf;rw[WE];refine FE R.u0 K.br h1 h2 (iI Co wJ).type (by unfold notFirst;simp) hs hf (wm (h A O s _ _ R K (by exact⟨nZ,qt,trivial⟩) (by trivial)) λ v s' q=>?_);exact q.2.2.back rfl q
theorem bc.qv{e:Expr}{pos:Pos}{q:OD}(h:gF c n E ρ e q):bc c n E ρ (.Return (some e) pos) (.qv q):= λ A β s R w0=>iB w0 λ O ad I=>
 x6 (wm (h A β O ad s R I) λ v au z=>by
  refine eE z ?_;clear z;intro fp g S r hf;exact⟨v,fp,rfl,(I.fU g S).grow,S,r.less λ a ha=>(aC.mp ha).elim (λ h=>aF _ h) λ h=>ao _ (I.sub a h),λ a ha=>⟨.inr (af I.grow.size (hf a ha).1),(hf a ha).2⟩⟩)
theorem bc.Ra(i:Nat){x:Str}{p pos:Pos}{q:OD}(hx:E.vn[i]? =some x)(dP:ρ[i]? =some (Sl.own true q)):bc c n E ρ (.Return (some (.Name x p)) pos) (.qv q):= λ A β s R w0=>iB w0 λ O ad I=>by
 refine cI (I.slot hx dP) λ v b r k=>?_;refine x6 (I.read hx b ?_);exact⟨v,ad i,rfl,I.grow,I.br,r.less λ a ha=>(aC.mp ha).elim (λ h=>(k a h).1) λ h=>I.sub a h,λ a ha=>⟨(k a ha).2.2.2.1 rfl,(k a ha).2.2.2.2.2⟩⟩
end
end
section
variable {c:Cx}{n:Nat}{E:VE}{ρ ρ':List Sl}{β:dH}{O:List Addr}{ad:Nat→List Addr}{s:ae}
theorem Tr.or3{e f g:Expr}{pos:Pos}{b b' Px:Bool}(h:Tr c n E ρ e b)(h':b=false→Tr c n E ρ f b')(pI:b=false→b'=false→Tr c n E ρ g Px):Tr c n E ρ (.BoolOp .Or [e,f,g] pos) (b||b'||Px):= λ A β O ad s R I=>by
 refine u9 (iS (h.go R I λ au x bj=>?_));cases b with
 |true=>simp only[if_true];exact⟨by trivial,x,bj.br⟩
 |false=>
  simp only[aR,if_false,AA];refine iS ((h' rfl).go R bj λ aH cF cu=>?_);cases b' with
  |true=>simp only[if_true];exact⟨by trivial,x.trans cF,cu.br⟩
  |false=>
   simp only[aR,if_false,AA];refine iS ((pI rfl rfl).go R cu λ cq qe jT=>?_);cases Px with
   |true=>simp only[if_true];exact⟨by trivial,(x.trans cF).trans qe,jT.br⟩
   |false=>simp only[aR,if_false];exact wpAny_allTrue_Or_nil ⟨by trivial,(x.trans cF).trans qe,jT.br⟩
theorem Ev.qN{e f:Expr}{pos:Pos}{p:Bool}{d₁ d₂:D}(h:Ev c n E ρ e d₁)(ht:kA c n d₁ p)(cM:p=true→Ev c n E ρ f d₂):Ev c n E ρ (.BoolOp .And [e,f] pos) (if p then d₂ else d₁):= λ A β O ad s R I=>by
 refine wpAny_And2 (h.go R I λ v au x bj r=>wm (ht A O au v R bj.o r) λ b' aH q=>?_);obtain⟨rfl,cF,S⟩:=q;have cu:=bj.fU cF S;cases b' with
 |false=>simp only[aR,if_false];exact⟨x.trans cF,S,cF.rep0 r⟩
 |true=>simp only[if_true];exact(cM rfl).go R cu λ v cq qe jT r=>⟨(x.trans cF).trans qe,jT.br,r⟩
theorem Ev.TK{e f:Expr}{pos:Pos}{p q:Bool}(h:Ev c n E ρ e (.bool p))(cM:p=true→Ev c n E ρ f (.bool q)):Ev c n E ρ (.BoolOp .And [e,f] pos) (.bool (p&&q)):=by
 have:=Ev.qN (pos:=pos) h kA.bool cM;cases p<;>exact this
theorem Fn.Ft{C f:Addr}{fs:List (Str×D)}{k:Int}(hs:findIn c.K (.ref C) "__len__"=some (some (.ref f)))(hf:isFn c.K (.ref f)=true)(h:Fn c n (.ref f) [.inst C fs] [] (.int k))(h0:0≤k)(h1:k<2^63):Fn c (n+1) (.builtin "len") [.inst C fs] [] (.int k):= λ A O s vs ks R K ec r'=>by
 refine c0 (AX ec) λ v z1 r=>?_;subst z1;cases yL r';have r1:=r;refine iB r ?_;clear r;intro a dx zh;refine c_ zh ?_;clear zh;intro es m ps z1 z zh;refine cg zh ?_;clear zh;intro z hi hd z;subst z1;refine yl kind_len plain_len entry_len (args_len1 _) ?_;refine aa (m:=oneArg "len" _) (ah ?_);refine aa (m:=callSpecial? (.ref a) (d8 "__len__")) (special_fn K.br.fZ (iI hi hd) hs (beq_iff_eq.mp hf) (wm (h A.in1 O s _ _ R.in1 K ec r') λ r s' hr=>?_));refine jH hr ?_;clear hr;intro g S rr;refine bh.ef rr ?_;clear rr;intro t;refine aa (aV (ah ?_));refine aa (jd ?_);show wpAny _ _ (if k<0 then _ else _) _ _ _;refine wN (by lia) ?_;show wpAny _ _ (if k ≥ 2^63 then _ else _) _ _ _;refine wN (by lia) ?_;exact aa (Aw (ah ⟨_,rfl,g.toks,S.toks,ft⟩))
theorem bc.putL(i:Nat){x name:Str}{p p' pos:Pos}{e:Expr}{C:Addr}{u:Option Addr}{fs:List (Str×D)}{ds:List D}(h:gF c n E ρ e (.lst ds))(hx:E.vn[i]? =some x)(dP:ρ[i]? =some (Sl.own true (.inst u C fs)))(hA:fh c.K C name=true)(zv:fs.length≤900)(hs:autoParam (swapsWith e (some (.Attribute (.Name x p) name p')) pos.line E.env=pure false) rf):bc c n E ρ (.Assign [.Attribute (.Name x p) name p'] e pos) (.next (ρ.set i (.own true (.ka u C fs name ds)))):= λ A β s R w0=>iB w0 λ O ad I=>
 yg (wm (h A β O ad s R I) λ v au z=>by
  refine eE z ?_;clear z;intro fp g1 S1 ol hf;refine bO ol ?_;clear ol;intro l vs z1 z2 hl NR;subst z1;subst z2;have bj:=I.fU g1 S1;refine cI (I.slot hx dP) λ VF LH mW oc=>?_;refine iB mW ?_;clear mW;intro Bv dx zh;refine c_ zh ?_;clear zh;intro es m ps z1 jx zh;refine cg zh ?_;clear zh;intro hu ku OT zh;refine cg zh ?_;clear zh;intro OR hz hg MR;subst z1;have h1:=g1.keep Bv _ (by simp) OT (bW (by simp));have h2:=g1.keep dx _ (by simp) OR (cP rfl);have b:Bound au.heap E.env x (.ref Bv):=g1.bound (by simp) (by simp) LH;refine bj.read hx b ?_;refine tH bj.br h1 h2 hA (by rw[hg];rfl) (by exact af hz zv) λ h' m' tk hd Ap=>?_;have kz:dx∈ad i:=by rw[jx];exact .tail _ (.head _)
  have G7:=hf l (.head _);have Qj:Bv≠l:= λ e=>by
   have:=(I.small i Bv (by rw[jx];exact .head _)).2.1;exact ak _ (ab this (e▸G7.1))
  have Qi:dx≠l:= λ e=>by
   have:=(I.small i dx kz).2.1;exact ak _ (ab this (e▸G7.1))
  have g:aB c [dx] [] au {au with heap:=h',toks:=tk}:=SameBut.grow Ap h2 (cP rfl);have S:bF c {au with heap:=h',toks:=tk}:=SameBut.br bj.br Ap (bj.low _ (oc _ kz).1);have mj:tC [dx] O au:= λ b hb=>by obtain rfl:=m1 hb;exact .inl (oc _ kz).1
  have OI:tC [dx] ([l]++O) au:= λ b hb=>(mj b hb).imp (λ h=>.tail _ h) id;have lI:aB c [dx] [] s {au with heap:=h',toks:=tk}:=(g1.mono (λ j=>nn) λ j=>nn).trans g;refine⟨rfl,[l]++O,_,I.jj (N:=[l]) (fp:=[Bv,dx,l]) hx dP lI S (λ b hb=>by obtain rfl:=m1 hb;exact kz) LH ⟨Bv,dx,l,_,m',ps,vs,rfl,rfl,hu,ku,Qj,Qi,Ap.extBut _ _ ku h1,hd,?_,λ y=>?_,?_,g.jh (λ h=>Qi (aj.mp h).symm) hl,g.fk OI (.refl _ au) NR⟩ (λ b hb=>?_) λ b hb=>?_⟩
  ·have:=n4 (x:=name) (hsh:=jN c.w.params name) (key:=.str name (au.toks+1)) (v:=.ref l) es;lia
  ·rw[zH (hg y)]
  ·exact g.yM OI (.refl _ au) (g1.yM (λ j=>nn) (λ b hb=>(aC.mp hb).elim (λ hb=>.inr (by obtain rfl:=m1 hb;exact G7.1)) .inl) MR)
  ·obtain rfl:=m1 hb;exact⟨G7.1,ab G7.2 g.size⟩
  ·rw[jx]
   rcases mc hb with rfl|hb
   ·exact .inl (.head _)
   rcases mc hb with rfl|hb
   ·exact .inl (.tail _ (.head _))
   ·exact .inr hb) hs
theorem Ev.Pz(i:Nat){x name y:Str}{p pos:Pos}{C:Addr}{u:Option Addr}{m:Bool}{fs:List (Str×D)}{ds:List D}{d:D}(hx:E.vn[i]? =some x)(dP:ρ[i]? =some (Sl.own m (.ka u C fs y ds)))(hA:attrOk c.K C name=true)(hf:fs.lookup name=some d)(hy:autoParam ((name==y)=false) rf)(hd:autoParam (d.seen=true) rf):Ev c n E ρ (.Attribute (.Name x p) name pos) d:= λ A β O ad s R I=>by
 refine cI (I.slot hx dP) λ v b r k=>?_;refine xe r ?_;clear r;intro a zh;refine iu zh ?_;clear zh;intro dx l es zh;refine cJ zh ?_;clear zh;intro m ps vs z1 jx hu zh;refine cg zh ?_;clear zh;intro z z z zh;refine cg zh ?_;clear zh;intro h1 h2 hz zh;refine cg zh ?_;clear zh;intro hg r z z;subst z1;refine c0 (r.lookup hf) λ v hv r=>?_;refine hJ (I.read hx b (jP I.br h1 h2 hA (v:=v) ?_ (r.handed hd) ⟨(aB.refl ..).toks,I.br.toks,r⟩));rw[hg,if_neg (by simpa using hy),hv]
theorem bc.IS(i:Nat){x name:Str}{p p' apos pos pos':Pos}{e:Expr}{C:Addr}{u:Option Addr}{fs:List (Str×D)}{ds:List D}{d:D}(h:Ev c n E ρ e d)(hx:E.vn[i]? =some x)(dP:ρ[i]? =some (.own true (.ka u C fs name ds)))(hA:attrOk c.K C name=true)(hz:ds.length≤900)(i_:autoParam (attributeBase (.Attribute (.Name x p) name p') "append" E.env (eval (.Attribute (.Name x p) name p') E.env)=eval (.Attribute (.Name x p) name p') E.env) rf)(rK:autoParam (((backTo pos (starEach [e] E.env)).all (λ x=> !x.1)&&(backToKw pos (keywordEach [] E.env)).all (λ x=>x.1.isSome)
   &&decide (([e]:List Expr).length+([]:List dT).length+(if([]:List dT).isEmpty then 0 else 1)<30))=true) rf)(iP:autoParam ((apos.endLine==pos.line)=true) rf)(uz:autoParam (backTo pos (starEach [e] E.env)=[(false,eval e E.env)]) rf)(hi:autoParam (interactive E.env=false) rf)(hs:autoParam (swapsWith (.Call (.Attribute (.Attribute (.Name x p) name p') "append" apos) [e] [] pos) none pos'.line E.env=pure false) rf):
  bc c n E ρ (.Expr (.Call (.Attribute (.Attribute (.Name x p) name p') "append" apos) [e] [] pos) pos') (.next (ρ.set i (.own true (.ka u C fs name (ds++[d]))))):= λ A β s R w0=>iB w0 λ O ad I=>by
 refine gZ (oP i_ rK iP uz ?_) hi hs;refine cI (I.slot hx dP) λ v b r k=>?_;refine xe r ?_;clear r;intro a zh;refine iu zh ?_;clear zh;intro dx l es zh;refine cJ zh ?_;clear zh;intro m ps vs z1 jx hu zh;refine cg zh ?_;clear zh;intro R_ xJ Oe zh;refine cg zh ?_;clear zh;intro h1 h2 sR zh;refine cg zh ?_;clear zh;intro hg rf hl hr;subst z1;have g0:aB c [] [] s {s with toks:=s.toks+1}:=(aB.refl ..).toks;refine hJ (I.read hx b (jP I.br h1 h2 hA (by rw[hg,if_pos rfl]) rfl ⟨l,_,rfl,hl,h.go R (I.fU g0 I.br.toks) λ y aH iR cu bx=>?_⟩));have gg:=g0.trans iR;have nE:=gg.jh (nn) hl;have Ea:=gg.j_ hr;have Co:=gg.keep a _ (nn) h1 (bW (by simp));have wJ:=gg.keep dx _ (nn) h2 (cP rfl);have Q_:=gg.Jd rf;have D_:=Ea.length;refine dc (kn nE (λ h' uC eN up=>?_) (cR (by simp only[ba];exact vi D_ hz rfl)));have kz:l∈ad i:=by rw[jx];exact .tail _ (.tail _ (.head _))
 refine bO nE ?_;clear nE;intro mW Fd jm oh z ik;have g:aB c [l] [] aH {aH with heap:=h'}:=SameBut.grow (tk:=aH.toks) eN jm (c8 ik);have S:bF c {aH with heap:=h'}:=SameBut.br (tk:=aH.toks) cu.br eN (cu.low _ (k _ kz).1);have mj:tC [l] O aH:= λ b hb=>by obtain rfl:=m1 hb;exact .inl (k _ kz).1
 refine⟨rfl,[]++O,_,cu.jj (N:=[]) (fp:=ad i) hx dP g S (λ b hb=>by obtain rfl:=m1 hb;exact kz) (gg.bound (by simp) (by simp) b) ⟨a,dx,l,es,m,ps,vs++[y],rfl,jx,hu,R_,xJ,Oe,eN.extBut _ _ xJ Co,eN.extBut _ _ Oe wJ,sR,hg,g.yM mj (.refl O aH) Q_,by simpa using uC,(g.fk mj (.refl O aH) Ea).append (g.rep mj (.refl O aH) bx)⟩ (λ z h=>nn h) λ b hb=>.inl hb⟩
end
section
variable {c:Cx}{n:Nat}{E:VE}{ρ ρ':List Sl}{β:dH}{O:List Addr}{ad:Nat→List Addr}{s:ae}
theorem Inv.Kj(I:Inv c E β O ad ρ s){i:Nat}{x:Str}{d d':D}(hx:E.vn[i]? =some x)(dP:ρ[i]? =some (.val d))(h:∀v,bh c.w O s.heap v d→bh c.w O s.heap v d'):Inv c E β O ad (ρ.set i (.val d')) s:=by
 have hl:i<ρ.length:=(aw.mp dP).1;refine⟨I.ok,I.br,I.grow,I.lt,I.low,I.sub,I.n8,I.new,I.ns,I.cells,I.uG,I.tu,I.CG,I.CH,λ j y hj=>?_,I.mG,I.out⟩
 by_cases Ec:j=i
 ·subst Ec;have:=I.vars j y hj;rw[ai,dP]at this;rw[ai,bp hl];refine mq this ?_;clear this;intro e v b r;exact⟨e,v,b,h v r⟩
 ·rw[ai,aQ (Ne.symm Ec),← ai];exact I.vars j y hj
theorem Bt{A:aK}{l:Addr}{vs:List ag}{x:ag}{xss:List (List Int)}{xs:List Int}{Q:ag→ae→Prop}{X:ag→ae→Prop}(R:Rm A 1)(hl:eB s.heap l vs.toArray)(r:a0 c.w O s.heap vs (D.jl xss))(rx:bh c.w O s.heap x (.lst (D.ints xs)))(h:Q (.int (xss.countP λ y=>decide (y=xs):Nat) s.toks) {s with toks:=s.toks+1}):wpAny (model c.prog c.w) A (call (.builtin "list.count") [.ref l,x]) Q X s:=by
 obtain⟨⟨cls,dd,data,sl⟩,n,ho,hc,zx,hd⟩:=id hl;simp only at hc hd zx;subst hc hd zx;have Nw:=xF (n:=6) (xs:=xss);have Nv:=(og (n:=7) (xs:=xs)).lst;refine xe (Nw.1 _ _ _ _ r) λ as mx=>?_;refine xe (Nv.1 _ _ _ _ rx) λ bs mV=>?_;have qC:=Nw.2;have l₂:=Nv.2;have:=R.units;refine DP yh ⟨_,ho,rfl⟩ PySem.F.entry_list_count (PySem.F.args_list_count_2 _ _) (PySem.SeqAt.list_countAt l vs.toArray n none sl x _) ⟨ho,SeqAt.items_eqAt (vs:=vs.toArray) (by simpa using mx) mV qC.1 l₂.1 (Nat.min_comm _ _▸Pj (az 1) (eS qC.2) R.units),?_⟩;have e:vs.toArray.toList.countP (λ y=>PyData.eqv (SeqAt.readOf s.heap y) (P7 xs))=xss.countP λ y=>decide (y=xs):=by
  rw[← LB zM,← SeqAt.readsAll_map _ _ _ qC.1 mx,List.countP_map];rfl
 rw[e];exact h
theorem Ev.count{x:Str}{p apos pos:Pos}{e:Expr}{xss:List (List Int)}{xs:List Int}(ct:Ev c (n+1) E ρ (.Name x p) (.lst (D.jl xss)))(h:Ev c (n+1) E ρ e (.lst (D.ints xs)))(i_:autoParam (attributeBase (.Name x p) "count" E.env (eval (.Name x p) E.env)=eval (.Name x p) E.env) rf)(rK:autoParam (((backTo pos (starEach [e] E.env)).all (λ x=> !x.1)&&(backToKw pos (keywordEach [] E.env)).all (λ x=>x.1.isSome)
   &&decide (([e]:List Expr).length+([]:List dT).length+(if([]:List dT).isEmpty then 0 else 1)<30))=true) rf)(iP:autoParam ((apos.endLine==pos.line)=true) rf)(hp:autoParam ((starEach [e] E.env).any (·.1)=false) rf)(N7:∀env,starEach [e] env=(false,eval e env)::starEach [] env:=by intros;rfl):Ev c (n+1) E ρ (.Call (.Attribute (.Name x p) "count" apos) [e] [] pos) (.int (xss.countP λ y=>decide (y=xs):Nat)):= λ A β O ad s R I=>by
 refine kG i_ rK iP (ct.go R I λ v au qJ bj bC=>?_);have nZ:=bC;refine bh.n7 bC ?_;clear bC;intro l vs Qk hl NR;refine bO (id hl) λ o m ho hc xK hd=>?_;refine qg R bj m_ yh PySem.F.type_list_count ⟨_,ho,hc⟩ (λ b hb=>by injection hb with hb;subst hb;exact⟨_,ho,xK⟩) (cn.cons h .nil N7) hp λ us aH iR cu bx=>?_;refine fz bx λ u ru=>?_;exact Bt (R.le (aG 1 n)) (iR.jh (by simp) hl) (iR.j_ NR) ru ⟨(qJ.trans iR).toks,cu.br.toks,ft⟩
end
section
variable {c:Cx}{n:Nat}{E:VE}{ρ ρ':List Sl}{β:dH}{O BA:List Addr}{ad:Nat→List Addr}{s:ae}
theorem C6{w:a9}{h:Heap}{a dx l C V:Addr}{es:List cV}{m:Nat}{y cZ cF:Str}{vs:Array ag}{v:ag}{d:D}{xs:List Nat}(hd:d.flat=true)(SP:V≠C)(h1:h.get? a=some (ig C dx))(h2:h.get? dx=some (dictOf es m))(hl:eB h l vs)(hy:getL y es=some (some (.ref l)))(KV:(y==cZ)=false)(NP:(y==cF)=false)(hO:∀b∈O,b∈BA∨b=a∨b=dx∨b=l)(r:bh w BA h v (.inst V [(cZ,d),(cF,.dm xs)])):bh w O h v (.inst V [(cZ,d),(cF,.dm xs)]):=by
 refine bh.qH r ?_;clear r;intro a' Tw rP m' C8 G_ Sv e1 e2 Qu rf;refine bO hl ?_;clear hl;intro ol nl Oa uD UX zx;have Eb:C8.lookup y=none:=by
  refine ez.lookup_none rf ?_;rw[aX,KV,aX,NP];rfl
 refine⟨a',Tw,rP,m',C8,rfl,λ h=>?_,λ h=>?_,e1,e2,Qu,?_⟩
 ·rcases hO _ h with h|rfl|rfl|rfl
  ·exact G_ h
  ·rw[h1]at e1;injection e1 with e1;injection e1 with e1 _ _ _;injection e1 with e1;exact SP e1.symm
  ·rw[h2]at e1;injection e1 with e1;injection e1 with e1 _ _ _;cases e1
  ·rw[Oa]at e1;injection e1 with e1;subst e1;first|(exact nn uD;done)|exact absurd uD (by simp)
 ·rcases hO _ h with h|rfl|rfl|rfl
  ·exact Sv h
  ·rw[h1]at e2;injection e2 with e2;injection e2 with e2 _ _ _;cases e2
  ·rw[h2]at e2;injection e2 with e2
   have:es=rP:=by
    have:=congrArg Obj.data e2;simp only[dictOf]at this;injection this with this _
    simpa using this
   subst this;have:=Qu y;rw[hy,Eb]at this;cases this
  ·rw[Oa]at e2;injection e2 with e2;subst e2;first|(exact nn uD;done)|exact absurd uD (by trivial)
 ·match C8,rf with
  |[nB,rt],rf=>
   refine⟨rf.1,bh.flat hd rf.2.1,rf.2.2.1,?_,trivial⟩;have q:=rf.2.2.2.1;refine cJ q ?_;clear q;intro as ts k e has ho q;refine⟨as,ts,k,e,λ h=>?_,ho,q⟩
   rcases hO _ h with h|rfl|rfl|rfl
   ·exact has h
   ·rw[h1]at ho;injection ho with ho;injection ho with ho _ _ _;first|(exact nn ho;done)|exact absurd ho (by simp)
   ·rw[h2]at ho;injection ho with ho;injection ho with ho _ _ _;first|(exact nn ho;done)|exact absurd ho (by trivial)
   ·rw[Oa]at ho;injection ho with ho;subst ho;first|(exact nn uD;done)|exact absurd uD (by trivial)
  |[],rf=>exact rf.elim
  |[_],rf=>exact rf.2.2.elim
  |_::_::_::_,rf=>exact rf.2.2.2.2.elim
theorem bc.TL(i:Nat){x sj y sx vx cZ cF:Str}{p apos pos pos' p1 p2 p3 p4 p5:Pos}{e ee:Expr}{C V f:Addr}{fd:FuncData}{body:List Stmt}{u:Option Addr}{fs:List (Str×D)}{ds:List D}{d₁ dw:D}{xs:List Nat}(h:Ev c (n+1) E (ρ.set i (.val (.inst C ((y,.lst ds)::fs)))) e d₁)(hx:E.vn[i]? =some x)(dP:ρ[i]? =some (.own true (.ka u C fs y ds)))(hM:jS c.K C sj f=true)(zv:((y,D.lst ds)::fs).lookup sj=none)(F:nG c f fd body)(k:rN fd [sx,vx] 2=true)(ij:fd.scope.isGenerator=false)(hb:∀s v w,bF c s→iy s fd ⟨[v,w],[]⟩ [(sx,v),(vx,w)])(OE:body=[.Expr (.Call (.Attribute (.Attribute (.Name sx p1) y p2) "append" p3) [ee] [] p4) p5])(hE:∀L,Ev c n (mO fd L f [sx,vx]) [.val (.inst C ((y,.lst ds)::fs)),.val d₁] ee (.inst V [(cZ,dw),(cF,.dm xs)]))(hA:attrOk c.K C y=true)(hz:ds.length≤900)(SP:V≠C)(W9:dw.flat=true)(KV:autoParam ((y==cZ)=false) rf)(NP:autoParam ((y==cF)=false) rf)(i_:autoParam (attributeBase (.Name x p) sj E.env (eval (.Name x p) E.env)=eval (.Name x p) E.env) rf)(zw:autoParam (methodCallForm (1+0) (backTo pos (starEach [e] E.env)) (backToKw pos (keywordEach [] E.env))=true) rf)(iP:autoParam ((apos.endLine==pos.line)=true) rf)(hp:autoParam ((starEach [e] E.env).any (·.1)=false) rf)(N7:∀env,starEach [e] env=(false,eval e env)::starEach [] env:=by intros;rfl)
  (hi:autoParam (interactive E.env=false) rf) (hs:autoParam (swapsWith (.Call (.Attribute (.Name x p) sj apos) [e] [] pos) none pos'.line E.env=pure false) rf)
  (Lg:∀L,attributeBase (.Attribute (.Name sx p1) y p2) "append" (callEnvC fd L f) (eval (.Attribute (.Name sx p1) y p2) (callEnvC fd L f))=eval (.Attribute (.Name sx p1) y p2) (callEnvC fd L f):=by intros;rfl)
  (Oy:∀L,((backTo p4 (starEach [ee] (callEnvC fd L f))).all (λ x=> !x.1)&&(backToKw p4 (keywordEach [] (callEnvC fd L f))).all (λ x=>x.1.isSome)
   &&decide (([ee]:List Expr).length+([]:List dT).length+(if([]:List dT).isEmpty then 0 else 1)<30))=true:=by intros;rfl)
  (K3:autoParam ((p3.endLine==p4.line)=true) rf)
  (Ij:∀L,backTo p4 (starEach [ee] (callEnvC fd L f))=[(false,eval ee (callEnvC fd L f))]:=by intros;rfl)
  (Du:∀L,interactive (callEnvC fd L f)=false:=by intros;rfl) (eN:∀L,swapsWith (.Call (.Attribute (.Attribute (.Name sx p1) y p2) "append" p3) [ee] [] p4) none p5.line (callEnvC fd L f)=pure false:=by intros;rfl):
  bc c (n+1) E ρ (.Expr (.Call (.Attribute (.Name x p) sj apos) [e] [] pos) pos') (.next (ρ.set i (.own true (.ka u C fs y (ds++[.inst V [(cZ,dw),(cF,.dm xs)]]))))):= λ A β s R w0=>by
 refine iB w0 ?_;clear w0;intro O ad I;refine gZ ?_ hi hs;have I':=I.freeze hx dP (d:=.inst C ((y,.lst ds)::fs)) rfl;refine cI (I.slot hx dP) λ v b r kk=>?_;have U5:∀a∈O.filter (λ a=>decide (a∉ad i)),a∈O∧a∉ad i:= λ a h=>by simpa using aN.mp h
 have rD:bh c.w (O.filter λ a=>decide (a∉ad i)) s.heap v (.inst C ((y,.lst ds)::fs)):=r.Bm rfl (λ a ha h=>(U5 a h).2 ha) λ a h=>(U5 a h).1;refine xe r ?_;clear r;intro a zh;refine iu zh ?_;clear zh;intro dx l es zh;refine cJ zh ?_;clear zh;intro m ps vs z1 jx hu zh;refine cg zh ?_;clear zh;intro R_ xJ Oe zh;refine cg zh ?_;clear zh;intro h1 h2 sR zh;refine cg zh ?_;clear zh;intro hg rf hl hr;subst z1;refine aa (I.read hx b ?_);refine aa (bS ?_);unfold methodCall;rw[show([e]:List Expr).length+([]:List dT).length=1+0 from rfl,zw];have ku:¬sj=y:= λ hh=>by subst hh;simp at zv
 have Sq:fs.lookup sj=none:=by
  rw[aX,show(sj==y)=false by simpa using ku]at zv;exact zv
 refine aa (aV (show wpAny _ _ (getMethod _ _ _) _ _ _ from tK I.br h1 h2 hM (by rw[hg,if_neg ku,ez.lookup_none rf Sq]) ?_));have Dp:methodCallPos true (.Name x p) E.env apos pos=pure pos:=by unfold methodCallPos;simp[iP]
 refine aa (cU Dp ?_);refine fT (kws:=[]) (kwds:=[]) R I' (sk hM) (cn.cons h .nil N7) .nil hp λ us ks aH iR cu bx qt=>?_;refine fz bx λ w MO=>?_;refine fH qt ?_;have PX:=cu.o;refine nQ (vn:=[sx,vx]) (np:=2) (vs:=[.ref a,w]) (W:=[]) (G:=[]) F k ij R (.fk (ds:=[.lit (.ref a),d₁]) PX ⟨rfl,MO,trivial⟩) rfl (hb aH (.ref a) w PX.br) λ BA zY cq Dz jT gz z z=>?_;have QE:=iR.trans Dz;have OS:=QE.keep a _ (by simp) h1 (bW (by simp));have OQ:=QE.keep dx _ (by simp) h2 (cP rfl);have FY:=QE.jh (by simp) hl;rw[OE];refine lX (gZ (oP (Lg _) (Oy _) K3 (Ij _) ?_) (Du _) (eN _));obtain⟨VB,TG,Q5⟩:∃v,Bound cq.heap (callEnvC fd aH.heap.objs.size f) sx v∧bh c.w BA cq.heap v (.lit (.ref a)):=by
  have:=jT.vars 0 sx rfl;refine mq this ?_;clear this;intro z v b r;exact⟨v,b,r⟩
 subst Q5;have g0:aB c [] [] cq {cq with toks:=cq.toks+1}:=(aB.refl ..).toks;refine hJ (jT.read (i:=0) rfl TG (jP jT.br OS OQ hA (by rw[hg,if_pos rfl]) rfl ⟨l,_,rfl,FY,?_⟩));have vk:nM (O.filter λ a=>decide (a∉ad i)) BA aH:= λ b hb=>jT.new b hb;have JW:Inv c (mO fd aH.heap.objs.size f [sx,vx]) _ BA zY [.val (.inst C ((y,.lst ds)::fs)),.val d₁] cq:=jT.Kj (i:=0) rfl rfl λ v hv=>by
  subst hv;exact Dz.rep (λ z=>nn) vk (iR.rep0 rD)
 refine(hE aH.heap.objs.size).go R.deeper (JW.fU g0 JW.br.toks) λ Mp d7 SZ i5 Q4=>?_;have gg:=(QE.trans g0).trans SZ;have nE:=gg.jh (nn) hl;have Ea:=gg.j_ hr;have Co:=gg.keep a _ (nn) h1 (bW (by simp));have wJ:=gg.keep dx _ (nn) h2 (cP rfl);have Q_:=gg.Jd rf;have D_:=Ea.length;have kz:l∈ad i:=by rw[jx];exact .tail _ (.tail _ (.head _))
 have CY:bh c.w O d7.heap Mp (.inst V [(cZ,dw),(cF,.dm xs)]):=C6 W9 SP Co wJ nE (by rw[hg,if_pos rfl]) KV NP (λ b hb=>by
  by_cases OG:b∈ad i
  ·rw[jx]at OG;refine .inr ?_
   rcases aD.mp OG with h|h
   ·exact .inl h
   rcases aD.mp h with h|h
   ·exact .inr (.inl h)
   ·exact .inr (.inr (aj.mp h))
  ·exact .inl (gz b (ao _ (aN.mpr ⟨hb,by simpa using OG⟩)))) Q4
 refine dc (kn nE (λ h' uC eN up=>?_) (cR (by simp only[ba];exact vi D_ hz rfl)));refine bO nE ?_;clear nE;intro mW Fd jm oh z ik;have g:aB c [l] [] d7 {d7 with heap:=h'}:=SameBut.grow (tk:=d7.toks) eN jm (c8 ik);have S:bF c {d7 with heap:=h'}:=SameBut.br (tk:=d7.toks) i5.br eN (I.low _ (kk _ kz).1);have mj:tC [l] O d7:= λ b hb=>by obtain rfl:=m1 hb;exact .inl (kk _ kz).1
 have gA:aB c [l] [] s {d7 with heap:=h'}:=(gg.mono (λ z=>nn) λ z=>nn).trans g;refine qW ⟨rfl,[]++O,_,I.jj (N:=[]) (fp:=ad i) hx dP gA S (λ b hb=>by obtain rfl:=m1 hb;exact kz) b ⟨a,dx,l,es,m,ps,vs++[Mp],rfl,jx,hu,R_,xJ,Oe,eN.extBut _ _ xJ Co,eN.extBut _ _ Oe wJ,sR,hg,g.yM mj (.refl O d7) Q_,by simpa using uC,(g.fk mj (.refl O d7) Ea).append (g.rep mj (.refl O d7) CY)⟩ (λ z=>nn) λ b hb=>.inl hb⟩
end
section
variable {c:Cx}{n:Nat}{E:VE}{ρ ρ' ρ₁ ρ₂:List Sl}
theorem cy.set{i:Nat}{sl:Sl}(h:ρ.getD i .no=.no):cy ρ (ρ.set i sl):= λ j=>by
 by_cases hj:j=i
 ·subst hj;exact .inl h
 ·rw[ai (l:=ρ.set i sl),aQ (Ne.symm hj),← ai];exact .inr rfl
theorem cy.HB{i j:Nat}{sl T5:Sl}(h:ρ.getD i .no=.no)(h':ρ.getD j .no=.no):cy ρ ((ρ.set i sl).set j T5):= λ k=>by
 rcases cy.set (sl:=sl) h k with e|e
 ·exact .inl e
 ·by_cases hk:k=j
  ·subst hk;exact .inl h'
  ·rw[ai (l:=(ρ.set i sl).set j T5),aQ (Ne.symm hk),← ai];exact .inr e
theorem Ex.weak{ss:List Stmt}(h:Ex c n E ρ ss (.next ρ₁))(hw:cy ρ₂ ρ₁):Ex c n E ρ ss (.next ρ₂):= λ A β s R I=>wm (h A β s R I) λ f s' q=>by
 refine En q ?_;clear q;intro z1 O ad I';subst z1;refine c0 (I'.weaken hw) λ ad' PY z=>?_;exact⟨rfl,O,ad',PY⟩
theorem Ex.JG{ss:List Stmt}{out:Out}(h:Ex c n E ρ₂ ss out)(hw:cy ρ₂ ρ₁):Ex c n E ρ₁ ss out:= λ A β s R w0=>by
 refine iB w0 ?_;clear w0;intro O ad I;refine c0 (I.weaken hw) λ ad' PY z=>?_;exact h A β s R ⟨O,ad',PY⟩
theorem Lp.each(i:Nat){x:Str}{p:Pos}{body:List Stmt}(hx:E.vn[i]? =some x)(hi:i<E.k)(dP:ρ[i]? =some .no):∀(ds:List D),(∀d∈ds,Ex c n E (ρ.set i (.val d)) body (.next (ρ.set i (.val d))))→Lp c n E ρ (.Name x p) body ds (.next ρ):=by
 intro w
 induction w with
 |nil=>
  intro z;exact Lp.nil
 |cons d ds ih=>
  intro h;exact Lp.step (ju.name i hx hi (aw.mp dP).1) ((h d (.head _)).weak (cy.set (by rw[ai,dP];rfl))) (ih λ d' hd=>h d' (.tail _ hd))
theorem El.nm{x:Str}{p:Pos}{d:D}{K:List Sl→Prop}(i:Nat)(hx:E.vn[i]? =some x)(hi:i<E.k)(dP:ρ[i]? =some .no)(h:K (ρ.set i (.val d))):El c n E ρ (.Name x p) [] d true K:=
 ⟨_,ju.name i hx hi (aw.mp dP).1,cy.set (by rw[ai,dP];rfl),He.nil,λ z=>h⟩
theorem El.Fa{x:Str}{p:Pos}{d:D}{e:Expr}{b:Bool}{K:List Sl→Prop}(i:Nat)(hx:E.vn[i]? =some x)(hi:i<E.k)(dP:ρ[i]? =some .no)(t:Tr c n E (ρ.set i (.val d)) e b)(h:b=true→K (ρ.set i (.val d))):El c n E ρ (.Name x p) [e] d b K:=
 ⟨_,ju.name i hx hi (aw.mp dP).1,cy.set (by rw[ai,dP];rfl),He.one t,h⟩
theorem CR{x y:Str}{p p' q:Pos}{k:Nat}{d d':D}(i j:Nat)(hx:E.vn[i]? =some x)(hi:i<E.k)(dP:i<ρ.length)(hy:E.vn[j]? =some y)(hj:j<E.k)(ux:j<ρ.length):ju c n E ρ (.Tuple [.Name x p,.Name y p'] k q) (.tup [d,d']) ((ρ.set i (.val d)).set j (.val d')):=
 ju.tup (kU.cons (ju.name i hx hi dP) (kU.cons (ju.name j hy hj (by rw[jt];exact ux)) .nil))
theorem El.I5{x y:Str}{p p' q:Pos}{k:Nat}{d d':D}{e:Expr}{b:Bool}{K:List Sl→Prop}(i j:Nat)(hx:E.vn[i]? =some x)(hi:i<E.k)(dP:ρ[i]? =some .no)(hy:E.vn[j]? =some y)(hj:j<E.k)(ux:ρ[j]? =some .no)(t:Tr c n E ((ρ.set i (.val d)).set j (.val d')) e b)(h:b=true→K ((ρ.set i (.val d)).set j (.val d'))):El c n E ρ (.Tuple [.Name x p,.Name y p'] k q) [e] (.tup [d,d']) b K:=
 ⟨_,CR i j hx hi (aw.mp dP).1 hy hj (aw.mp ux).1,cy.HB (by rw[ai,dP];rfl) (by rw[ai,ux];rfl),He.one t,h⟩
end
section
variable {c:Cx}{n:Nat}{E:VE}{ρ ρ' ρ₁ ρ₂:List Sl}{s:ae}
theorem gF.lst{es:List Expr}{pos:Pos}{ds:List D}(h:cn c n E ρ es ds)(hl:autoParam (jv ds.length 1000=true) rf):gF c n E ρ (.List es pos) (.lst ds):= λ A β O ad s R I=>
 wpAny_List (wm (h.2 A β O ad s pos R I) λ vs au q=>⟨cR (by rw[q.2.2.length];exact et hl),[au.heap.objs.size],q.1.trans aB.push,q.2.1.push,⟨au.heap.objs.size,vs,rfl,rfl,⟨_,0,av _ rfl,rfl,rfl,rfl⟩,
  (aB.push (c:=c) (G:=[]) (tk:=au.toks)).fk (λ z=>nn) (λ a h=>(aC.mp h).elim (λ h=>.inr (by rw[aj]at h;exact h▸az _)) .inl) q.2.2⟩,λ a ha=>by
   rw[aj]at ha;subst ha;exact⟨q.1.size,by show _<(au.heap.push _).objs.size;rw[aW];exact aS _⟩⟩)
theorem C_(l:Addr)(items:Array ag)(n:Nat)(sl:Array (Option ag))(y:ag)(hy:items[items.size-1]? =some y)(zm:items.size≤sizeLine):
  Meets (Builtin.«list.pop» ⟨[.ref l],[]⟩)
   (λ z R s=>s.heap.get? l=some {cls:=.type "list",dict:=none,data:=.seq items n,slots:=sl}∧R (.ok (.ret y)) {s with heap:=s.heap.update l (aO λ xs=>xs.eraseIdxIfInBounds (items.size-1))}):=
 .of_wp λ prog w A R s h=>by
  obtain⟨hp,g,d,tk,os⟩:=s;refine xa h ?_;clear h;intro hl h;have Dp:0<items.size:=by
   rcases Nat.eq_zero_or_pos items.size with h0|h0
   ·simp[h0]at hy
   ·exact h0
  have ku:¬items.isEmpty=true:=by
   intro he;have:items.size=0:=by simpa using he
   exact TX Dp this
  have hk:seqIndex? (-1) items.size=some (items.size-1):=by
   rw[MeetsSeq.seqIndex_neg (by trivial) (by lia)];exact congrArg some (VZ _)
  wp_walk using iY hl
  simp only[hk,hy,nv,jf];have sR:(items.eraseIdxIfInBounds (items.size-1)).size≤sizeLine+1:=af (MeetsSeq.size_erased items _) (eS zm)
  wp_walk using(ff hl rfl (hz:=zm) (_hz':=sR)),iY hl
  exact⟨_,rfl,h⟩
theorem pop_list{A:aK}{l:Addr}{vs:List ag}{y:ag}{Q:ag→ae→Prop}{X:ag→ae→Prop}(hl:eB s.heap l (vs++[y]).toArray)(hz:vs.length≤1000)(h:∀h',eB h' l vs.toArray→c9 l s.heap h'→Q y {s with heap:=h'}):
  wpAny (model c.prog c.w) A (call (.builtin "list.pop") [.ref l]) Q X s:=by
 obtain⟨⟨cls,dd,data,sl⟩,n,ho,hc,zx,hd⟩:=id hl;simp only at hc hd zx;subst hc hd zx;have e:(vs++[y]).toArray.eraseIdxIfInBounds ((vs++[y]).toArray.size-1)=vs.toArray:=by
  apply Array.ext';simp[Array.eraseIdxIfInBounds,List.eraseIdx_append_of_length_le]
 refine DP AB ⟨_,ho,rfl⟩ PySem.F.entry_list_pop (PySem.F.args_list_pop_1 _) (C_ l (vs++[y]).toArray n sl y (by simp) (by simp only[ba,aY,aJ,dp];rw[cH];exact LZ hz rfl)) ⟨ho,h _ ?_ (bA ..)⟩;refine xe (x8 (o:={cls:=.type "list",dict:=none,data:=.seq (vs++[y]).toArray n,slots:=sl}) rfl (λ xs=>xs.eraseIdxIfInBounds ((vs++[y]).toArray.size-1))) λ n' iQ=>?_;refine⟨_,n',b7 _ ho (ta iQ),(z9 ..).trans rfl,rfl,?_⟩;rw[iQ,e]
theorem bc.Rg(i:Nat){x:Str}{p apos pos pos' nU:Pos}{elts:List Expr}{k:Nat}{ds es:List D}(hx:E.vn[i]? =some x)(dP:ρ[i]? =some (.own true (.lst (ds++[.tup es]))))(hz:ds.length≤900)(t:ju c n E (ρ.set i (.own true (.lst ds))) (.Tuple elts k nU) (.tup es) ρ')(i_:autoParam (attributeBase (.Name x p) "pop" E.env (eval (.Name x p) E.env)=eval (.Name x p) E.env) rf)(rK:autoParam (((backTo pos (starEach [] E.env)).all (λ x=> !x.1)&&(backToKw pos (keywordEach [] E.env)).all (λ x=>x.1.isSome)
   &&decide (([]:List Expr).length+([]:List dT).length+(if([]:List dT).isEmpty then 0 else 1)<30))=true) rf)(iP:autoParam ((apos.endLine==pos.line)=true) rf)(hs:autoParam (swapsWithSole [.Tuple elts k nU] (.Call (.Attribute (.Name x p) "pop" apos) [] [] pos) pos'.line E.env=pure false) rf)(hw:autoParam (swappedStores [.Tuple elts k nU] (.Call (.Attribute (.Name x p) "pop" apos) [] [] pos) E.env=pure none) rf):
  bc c n E ρ (.Assign [.Tuple elts k nU] (.Call (.Attribute (.Name x p) "pop" apos) [] [] pos) pos') (.next ρ'):= λ A β s R w0=>by
 refine iB w0 ?_;clear w0;intro O ad I;refine Assign_Tuple ?_ hs hw;refine kG i_ rK iP ?_;refine cI (I.slot hx dP) λ v b r kk=>?_;refine I.read hx b ?_;refine bO r ?_;clear r;intro a vs z1 jx hl hr;subst z1;refine bO (id hl) λ o m ho hc xK hd=>?_;refine qg R I m_ AB PySem.F.type_list_pop ⟨_,ho,hc⟩ (λ b hb=>by injection hb with hb;subst hb;exact⟨_,ho,xK⟩) .nil rfl λ us aH iR cu bx=>?_;have RW:us=[]:=by
  have:=bx.length;simpa using this
 subst RW;have zr:=iR.jh (nn) hl;have mF:=iR.j_ hr;have hlen:=mF.length;obtain⟨ws,y,rfl⟩:∃ws y,vs=ws++[y]:=⟨vs.dropLast,vs.getLast (by intro e;subst e;simp at hlen),(List.dropLast_concat_getLast _).symm⟩;have wC:ws.length=ds.length:=by simpa using hlen
 have hy:bh c.w O aH.heap y (.tup es):=by
  refine c0 (mF.at (i:=ds.length) (d:=.tup es) (by simp)) λ v' FQ rv=>?_;rw[← wC]at FQ;simp at FQ;subst FQ;exact rv
 have RQ:a0 c.w O aH.heap ws ds:=by
  have:∀{ws:List ag} {ds:List D} {y:ag} {d:D},ws.length=ds.length→a0 c.w O aH.heap (ws++[y]) (ds++[d])→a0 c.w O aH.heap ws ds:=by
   intro ws
   induction ws with
   |nil=>intro ds y d hl z;cases ds with|nil=>trivial|cons _ _=>cases hl
   |cons w ws ih=>
    intro ds y d hl h;cases ds with
    |nil=>cases hl
    |cons e ds=>
     exact⟨h.1,ih (by simpa using hl) h.2⟩
  exact this wC mF
 refine pop_list zr (by exact vi wC hz rfl) λ h' nE Ap=>?_;have kz:a∈ad i:=by rw[jx];exact .head _
 refine bO zr ?_;clear zr;intro mW Fd jm oh z ik;have g:aB c [a] [] aH {aH with heap:=h'}:=SameBut.grow (tk:=aH.toks) Ap jm (c8 ik);have S:bF c {aH with heap:=h'}:=SameBut.br (tk:=aH.toks) cu.br Ap (cu.low _ (kk _ kz).1);have mj:tC [a] O aH:= λ b hb=>by obtain rfl:=m1 hb;exact .inl (kk _ kz).1
 have jT:=cu.jj (N:=[]) (q':=.lst ds) (fp:=ad i) hx dP g S (λ b hb=>by obtain rfl:=m1 hb;exact kz) (iR.bound (by simp) (by simp) b) ⟨a,ws,rfl,jx,nE,g.fk mj (.refl O aH) RQ⟩ (λ z h=>nn h) λ b hb=>.inl hb;refine wm (t A β _ _ _ y R jT (g.rep mj (.refl O aH) hy)) λ z s' q=>?_;refine ew q ?_;clear q;intro ad' W I' z;exact⟨rfl,_,ad',I'⟩
end
theorem C0:typeLookup (.type "list_reverseiterator") (dunder "add")=pure none:=by kernel_rfl
theorem AR:typeLookup (.type "list_reverseiterator") (dunderR "add")=pure none:=by kernel_rfl
theorem H3:typeLookup (.type "list") (dunderI "add")=pure (some (.builtin "list.__iadd__")):=by kernel_rfl
theorem KI:isSeqSlot (some (.builtin "list.__iadd__"))=true:=by decide +kernel
theorem CZ:fillsNumberSlot (.type "list_reverseiterator") "add"=pure false:=by
 simp only[fillsNumberSlot,C0,AR,pure_bind];rfl
section
variable {M:qU}{A:aK}{E:ag→ae→Prop}{s:ae}
theorem ET{a b:ag}{Q:Option ag→ae→Prop}(ha:s.TypeIs a "list")(hb:s.TypeIs b "list_reverseiterator")(h:Q none s):wpAny M A (binaryOp1 "add" a b) Q E s:=by
 exact aa (f6 ha (aa (f6 hb (aa (cU PySem.noFill_list_add (wN (by trivial) (aa (cU CZ (wF (wF (wF (v5 (wF (wF (wF (wF (ah h)))))))))))))))))
theorem rH{a b:ag}{Q:ag→ae→Prop}(ha:s.TypeIs a "list")(hb:s.TypeIs b "list_reverseiterator")(hc:wpAny M A (call (.builtin "list.__iadd__") [a,b]) Q E s):wpAny M A (inplaceOp .Add a b) Q E s:=by
 have W5:fillsInplaceSlot (.type "list") "add" (Operator.Add==.Add)=pure false:=by
  show(typeLookup (.type "list") (dunderI "add")>>= λ fi=>pure (fi.isSome&& !isSeqSlot fi))=pure false;rfl
 have Wv:seqSlot? (.type "list") (dunderI "add")=pure (some (.builtin "list.__iadd__")):=PySem.seqSlot_of H3 KI;exact aV (aa (f6 ha (aa (cU W5 (wF (aa (ET ha hb (aa (cU Wv (aa (gq hc)))))))))))
end
theorem qB:mroOf (.type "reversed")=pure [.type "reversed",.type "object"]:=by kernel_rfl
theorem oS:typeLookup (.type "reversed") "__new__"=pure (some (.builtin "reversed.__new__")):=by kernel_rfl
theorem vJ:Bind.madeBy (.type "reversed")=pure (some "reversed.__new__"):=madeBy_type qB oS (by decide +kernel)
theorem qk(a:ag):checkTypeCall "reversed" ⟨[a],[]⟩=pure ():=by kernel_rfl
theorem rA(a:ag):checkBuiltinCall "reversed.__new__" ⟨[.type "reversed",a],[]⟩=pure ():=by kernel_rfl
theorem pK:entryFor table "reversed.__new__"=some Builtin.«reversed.__new__»:=entryFor_of_tree (by kernel_rfl)
theorem Hv:isSubtype (.type "list_reverseiterator") (.type "reversed")=pure false:=by kernel_rfl
theorem xf:isSubtype (.type "reversed") (.type "reversed")=pure true:=by kernel_rfl
theorem pB:plainId "reversed.__new__"=true:=by decide +kernel
theorem fN:Slot "list" "__reversed__" "list.__reversed__":=
 .of (owner:="list") (n:="__reversed__") (by kernel_rfl) (by decide +kernel) (by decide +kernel) (by decide +kernel)
  (by first|exact .inl (by decide +kernel)|exact .inr (by decide +kernel)) (by kernel_rfl)
theorem oo:entryFor table "list.__reversed__"=some Builtin.«list.__reversed__»:=z8 (by kernel_rfl)
noncomputable abbrev sF(h:Heap)(I l:Addr)(i:Int):Prop:=h.get? I=some {cls:=.type "list_reverseiterator",data:=.fields #[.ref l,rawInt i]}
section
variable {prog:Program}{w:a9}{A:aK}{E:ag→ae→Prop}{s:ae}
theorem Dc(l:Addr)(items:Array ag)(n:Nat)(sl:Array (Option ag)):
  Meets (Builtin.«list.__reversed__» ⟨[.ref l],[]⟩) (λ z R s=>s.heap.get? l=some {cls:=.type "list",dict:=none,data:=.seq items n,slots:=sl}∧
   R (.ok (.ret (.ref s.heap.objs.size))) {s with heap:=s.heap.push {cls:=.type "list_reverseiterator",data:=.fields #[.ref l,rawInt ((items.size:Int) -1)]}}):=
 .of_wp λ prog w A R s h=>by
  obtain⟨hp,g,d,tk,os⟩:=s;obtain⟨hl,h⟩:=h
  wp_walk using iY hl
  exact⟨_,rfl,h⟩
theorem oU(a:ag):argsOk "list.__reversed__" ⟨[a],[]⟩:=by
 kernel_rfl
set_option maxHeartbeats 1000000 in
theorem C5(l:Addr)(items:Array ag)(n:Nat)(sl:Array (Option ag)):
  Meets (Builtin.«reversed.__new__» ⟨[.type "reversed",.ref l],[]⟩) (λ z R s=>s.heap.get? l=some {cls:=.type "list",dict:=none,data:=.seq items n,slots:=sl}∧
   R (.ok (.ret (.ref s.heap.objs.size))) {s with heap:=s.heap.push {cls:=.type "list_reverseiterator",data:=.fields #[.ref l,rawInt ((items.size:Int) -1)]}}):=
 .of_wp λ prog w A R s h=>by
  obtain⟨hp,g,d,tk,os⟩:=s;obtain⟨hl,h⟩:=h;have gz:=xf;have Eb:=fN.lookup;have Ys:=fN.bind (.ref l)
  wp_walk using iY hl
  have hT:g_ ⟨hp,g,d,tk,os⟩ (.ref l) "list":=⟨_,hl,rfl⟩;refine a7 (f9 (R:=wants (λ v s'=>R (.ok (.ret v)) s') λ e s'=>R (.error e) s') fN.plain oo (fN.check _ _ _ _ _ _ _ _ hT (oU _) (Dc l items n sl prog w A.in1 _ _ ⟨hl,h⟩))) λ r s' hr=>?_;cases r with
  |error e=>exact hr
  |ok fl=>
   cases fl with
   |ret v=>exact ah ⟨v,rfl,hr⟩
   |_=>exact hr.elim
end
section
variable {prog:Program}{w:a9}{A:aK}{E:ag→ae→Prop}{s:ae}
set_option maxHeartbeats 1000000 in
theorem vO{l:Addr}{items:Array ag}{Q:ag→ae→Prop}(hl:eB s.heap l items)(h:Q (.ref s.heap.objs.size) {s with heap:=s.heap.push {cls:=.type "list_reverseiterator",data:=.fields #[.ref l,rawInt ((items.size:Int) -1)]}}):wpAny (model prog w) A (call (.type "reversed") [.ref l]) Q E s:=by
 obtain⟨⟨cls,dd,data,sl⟩,n,ho,hc,zx,hd⟩:=id hl;simp only at hc hd zx;subst hc hd zx;have Of:=qB;have Jz:=vJ;refine kg (fg ?_);show wpAny _ _ (callAny (.type "reversed") _) _ _ _;refine ah ⟨sM _ (by decide +kernel),bf na ?_⟩;rw[ra (rZ "reversed" [.ref l] []) (units_type_call_type "reversed" [.ref l] [])];have h1:(gG "reversed"==gG "type")=false:=by decide +kernel
 have h2:((Manifest.find? "reversed").bind (·.mro.findSome? λ t=>(Manifest.find? t).bind λ b=>if b.noNew then some true else if b.attrs.any (·.1=="__new__")then some false else none)).getD false=false:=by decide +kernel
 have UZ:=qk (.ref l)
 repeat (any_goals (first|assumption|wp_step))
 refine a7 (f9 (R:=wants (λ obj au=>obj=.ref s.heap.objs.size∧au={s with heap:=s.heap.push {cls:=.type "list_reverseiterator",data:=.fields #[.ref l,rawInt ((items.size:Int) -1)]}}) E) pB pK (cU (rA (.ref l)) (C5 l items n sl prog w A.in1 _ s ⟨ho,rfl,rfl⟩))) λ r au hr=>?_;cases r with
 |error e=>exact hr
 |ok fl=>
  cases fl with
  |ret obj=>
   obtain⟨rfl,rfl⟩:=hr;have hT:g_ {s with heap:=s.heap.push {cls:=.type "list_reverseiterator",data:=.fields #[.ref l,rawInt ((items.size:Int) -1)]}} (.ref s.heap.objs.size) "list_reverseiterator":=⟨_,av _ rfl,rfl⟩;have gz:=Hv
   repeat (any_goals (first|assumption|wp_step))
  |_=>exact hr.elim
end
theorem iO:Slot "list_reverseiterator" "__next__" "list_reverseiterator.__next__":=
 .of (owner:="list_reverseiterator") (n:="__next__") (by rw[typeLookup_type,builtinLookup_eq_fast];kernel_rfl) (by decide +kernel) (by decide +kernel) (by decide +kernel)
  (by first|exact .inl (by decide +kernel)|exact .inr (by decide +kernel)) (by rw[isSubtype_type];kernel_rfl)
theorem om:entryFor table "list_reverseiterator.__next__"=some Builtin.«list_reverseiterator.__next__»:=z8 (by kernel_rfl)
theorem ph(a:ag):argsOk "list_reverseiterator.__next__" ⟨[a],[]⟩:=by
 kernel_rfl
section
variable {prog:Program}{w:a9}{A:aK}{E:ag→ae→Prop}{s:ae}
theorem EU{I l:Addr}{i:Int}{items:Array ag}{x:ag}{Q:Option ag→ae→Prop}(he:sF s.heap I l i)(hl:s.heap.IsList l items)(h0:0≤i)(hx:items[i.toNat]? =some x)(hQ:∀h',sF h' I l (i-1)→c9 I s.heap h'→Q (some x) {s with heap:=h'}):wpAny (model prog w) A (pyNext (.ref I)) Q E s:=by
 have hT:s.TypeIs (.ref I) "list_reverseiterator":=⟨_,he,rfl⟩;refine nO hl ?_;clear hl;intro ol Oa z nl UX;refine aa (gu (cD (name:=d8 "__next__") hT iO (bQ iO hT om ?_ (ph _))));show wpAny _ _ (field (.ref I) 1>>=_) _ _ _;refine aa (kE he rfl (x:=rawInt i) rfl ?_);show wpAny _ _ (if i<0 then _ else _) _ _ _;refine wN (by lia) ?_;show wpAny _ _ (field (.ref I) 0>>=_) _ _ s;refine aa (kE he rfl (x:=.ref l) rfl ?_);show wpAny _ _ (seqItems? (.ref l)>>=_) _ _ s;refine aa (gX Oa UX ?_);simp only[hx];refine aa (iz he (by exact az _) λ h' K9 eN=>?_);exact ah ⟨x,rfl,ah (hQ _ K9 eN)⟩
theorem HH{I l:Addr}{i:Int}{Q:Option ag→ae→Prop}(hh:A.handled=none)(he:sF s.heap I l i)(h0:i<0)(hQ:∀h',(∀b o,s.heap.get? b=some o→h'.get? b=some o)→Q none {s with heap:=h'}):wpAny (model prog w) A (pyNext (.ref I)) Q E s:=by
 have hT:s.TypeIs (.ref I) "list_reverseiterator":=⟨_,he,rfl⟩;refine aa (gu (cD (name:=d8 "__next__") hT iO (bQ iO hT om ?_ (ph _))));show wpAny _ _ (field (.ref I) 1>>=_) _ _ _;refine aa (kE he rfl (x:=rawInt i) rfl ?_);show wpAny _ _ (if i<0 then _ else _) _ _ _;refine wP h0 ?_;refine aa (gq ?_);show wpAny _ _ ((newExc (.type "StopIteration") []>>=_)>>=_) _ _ _;refine aa (aa ?_);refine aa (bo ?_ (by exact bV _));refine aa (m:=firstArgMember _ _) (cU (a:=di) (by first|rfl|(simp only[firstArgMember];rfl)) ?_);refine bo ?_ (by size_fits);refine aa (oW ?_);rw[show A.in1.handled=none from hh];refine aa (ah (sY ?_));refine aa (cj (T:="StopIteration") (b:=true) ⟨_,av _ rfl,rfl⟩ nI ?_);exact ah (hQ _ λ b o hb=>aA _ (aA _ hb))
theorem o_:Slot "list_reverseiterator" "__iter__" "list_reverseiterator.__iter__":=
 .of (owner:="list_reverseiterator") (n:="__iter__") (by rw[typeLookup_type,builtinLookup_eq_fast];kernel_rfl) (by decide +kernel) (by decide +kernel) (by decide +kernel)
  (by first|exact .inl (by decide +kernel)|exact .inr (by decide +kernel)) (by rw[isSubtype_type];kernel_rfl)
theorem uL:entryFor table "list_reverseiterator.__iter__"=some Builtin.«dict_keyiterator.__iter__»:=
 DT (id':="dict_keyiterator.__iter__") (by kernel_rfl) (by first|rfl|decide +kernel|(simp +decide [sJ])) (by decide +kernel) (by kernel_rfl)
theorem vP(a:ag):argsOk "list_reverseiterator.__iter__" ⟨[a],[]⟩:=by
 kernel_rfl
theorem yJ{I l:Addr}{i:Int}{Q:ag→ae→Prop}(he:sF s.heap I l i)(h:Q (.ref I) s):wpAny (model prog w) A (pyIter (.ref I)) Q E s:=by
 have hT:s.TypeIs (.ref I) "list_reverseiterator":=⟨_,he,rfl⟩;refine oO hT o_ (bQ o_ hT uL ?_ (vP _));show wpAny _ _ (ret (.ref I)) _ _ s;exact ah ⟨_,rfl,"list_reverseiterator",_,hT,iO.lookup,h⟩
end
section
variable {c:Cx}
noncomputable def vH(ds:List D)(i:Int):List D:=(ds.take (i+1).toNat).reverse
theorem EV{ds:List D}{i:Int}(h:i<0):vH ds i=[]:=by
 unfold vH;rw[show(i+1).toNat=0 by lia];rfl
theorem wi{ds:List D}{i:Int}{d:D}(h:0≤i)(hd:ds[i.toNat]? =some d):vH ds i=d::vH ds (i-1):=by
 unfold vH;rw[VH (show 0≤i by assumption),VG i,List.take_add_one,hd];simp
theorem B9{l:Addr}{i:Int}:qE {cls:=.type "list_reverseiterator",data:=.fields #[.ref l,rawInt i]:Obj}=false:=bW (by simp)
theorem nN.rev{A:aK}{tg:Expr}{I ax:Addr}{k:Snap}{vs:List ag}{ds₀:List D}(hh:A.handled=none)(hl:k.s.heap.IsList ax vs.toArray)(hx:ax∉k.O)(hr:a0 c.w k.O k.s.heap vs ds₀)(hI:I∈k.O)(hK:I∉k.K)(ht:∀v,letOwnedTupleGo tg (.ref I) v=pure ()):
  nN c A tg (.ref I) k [] (λ F ds s=>F=[I]∧∃i:Int,sF s.heap I ax i∧i<ds₀.length∧ds=vH ds₀ i) where
 det:= λ h h'=>h.1.trans h'.1.symm
 frame:=by
  rintro F V G' ds s s' ⟨rfl,i,hi,gE,e⟩ x S hV _
  exact⟨rfl,i,x.keep _ _ (λ h=>hV _ h (.head _)) hi B9,gE,e⟩
 next:= λ {F ds d s} S hs hB w0=>by
  refine xa w0 ?_;clear w0;intro hF zh;refine cI zh ?_;clear zh;intro i fV gE e;subst hF;have h0:0≤i:=by
   rcases u7 i 0 with h|h
   ·rw[EV h]at e;cases e
   ·exact h
  have iQ:i.toNat<ds₀.length:=T3 (by assumption) (by assumption);have e2:=wi (ds:=ds₀) h0 (aq iQ);rw[e2]at e;injection e with e3 e4
  refine c0 (hr.at (aq iQ)) λ v hv r=>?_;refine EU fV (hs.isList hx hl) h0 (by simpa using hv) λ h' mY eN=>⟨v,rfl,?_⟩;have g:aB c [I] [] s {s with heap:=h'}:=SameBut.grow (tk:=s.toks) eN fV B9;rw[ht];exact ah ⟨g,SameBut.br (tk:=s.toks) S eN (hB I (.head _)),[I],rW.refl _ _ _,(hs.step g λ a h=>by obtain rfl:=m1 h;exact⟨.inl hI,hK⟩).nice (e3▸r),rfl,i-1,mY,by lia,e4⟩
 done:= λ {F s} S hs hB w0=>by
  refine xa w0 ?_;clear w0;intro hF zh;refine cI zh ?_;clear zh;intro i fV gE e;subst hF;have h0:i<0:=by
   rcases u7 i 0 with h|h
   ·exact h
   ·have iQ:i.toNat<ds₀.length:=T3 (by assumption) (by assumption);rw[wi h (aq iQ)]at e;cases e
  refine dc (HH hh fV h0 λ h' hk up=>⟨rfl,(aB.step (tk:=s.toks) up.heap hk).mono (λ z=>nn) (λ z=>nn),S.step (tk:=s.toks) up.heap hk⟩)
 self:= λ {A' F ds s} S w0=>by refine mq w0 ?_;clear w0;intro z i fV z;exact yJ fV ⟨rfl,rfl⟩
end
theorem EM:typeLookup (.type "list_reverseiterator") "__len__"=pure none:=by kernel_rfl
theorem HD:typeLookup (.type "list_reverseiterator") "__length_hint__"=pure (some (.builtin "list_reverseiterator.__length_hint__")):=by kernel_rfl
theorem yt:isSubtype (.type "list_reverseiterator") (.type "list_reverseiterator")=pure true:=by kernel_rfl
theorem mS{h:Heap}{a:Addr}{vs:Array ag}(f:Array ag→Array ag)(hl:eB h a vs):eB (h.update a (aO f)) a (f vs):=by
 obtain⟨⟨cls,dd,data,sl⟩,n,ho,hc,zx,hd⟩:=hl;simp only at hc hd zx;subst hc hd zx;refine xe (x8 (o:={cls:=.type "list",dict:=none,data:=.seq vs n,slots:=sl}) rfl f) λ n' iQ=>?_;exact⟨_,n',b7 _ ho (ta iQ),(z9 ..).trans rfl,rfl,iQ⟩
section
variable {c:Cx}{s:ae}{A:aK}{tg:Expr}{it:ag}{k:Snap}{F F':List Addr}{G:List Nat}{P:List Addr→List D→ae→Prop}
theorem AU{I l:Addr}{i:Int}(he:sF s.heap I l i):wpAny (model c.prog c.w) A (gw (.ref I)) (λ b k_=>b=false∧k_=s) aZ s:=by
 have hT:s.TypeIs (.ref I) "list_reverseiterator":=⟨_,he,rfl⟩;refine aa (iL hT EM ?_);show wpAny _ A (specialOf (dQ I) (d8 "__length_hint__")>>=_) _ _ _;refine aa (iL hT HD ?_);have Ur:splitId "list_reverseiterator.__length_hint__"=some ("list_reverseiterator","__length_hint__"):=by kernel_rfl
 dsimp only;rw[Ur];refine aa (cj (T:="list_reverseiterator") hT yt ?_);refine wF ?_;exact ah ⟨rfl,rfl⟩
theorem xP{S:Addr}(zB:c.B≤S)(zA:S∈k.O∨k.s.heap.objs.size≤S)(Ef:S∉k.K)(res:ag):∀(ds eK:List D) (vs:List ag) (F:List Addr) (s:ae),Wk c A.in1 tg it k F G P→S∉F→bF c s→cB c k s→P F ds s→
  eB s.heap S vs.toArray→a0 c.w (S::(F++k.O)) s.heap vs eK→eK.length+ds.length≤1000→
  codeAny (model c.prog c.w) A (.builtin "list.extend.loop" ⟨[.ref S,it,res],[]⟩) (λ r s'=>r=.ok (.ret res)∧aB c (S::F) G s s'∧bF c s'∧∃i7,eB s'.heap S i7.toArray∧a0 c.w (S::k.O) s'.heap i7 (eK++ds)) s:=by
 intro w
 induction w with
 |nil=>
  intro eK vs F s K sy St hs p hS hr z;refine bf iM ?_;show wpAny _ A.in1 (pyNext it>>=_) _ _ s;refine K.done St hs p λ s' x S'=>ah ⟨rfl,x.mono (λ a h=>.inl (.tail _ h)) (λ z h=>.inl h),S',vs,x.jh sy hS,?_⟩;rw[bM];exact x.fk (O:=S::(F++k.O)) v3 (λ a h=>.inl ((aD.mp h).elim (λ h=>h▸ .head _) λ h=>.tail _ (ao _ h))) hr
 |cons d ds ih=>
  intro eK vs F s K sy St hs p hS hr hl;have Il:=hr.length;simp only[aJ]at hl;refine bf iM ?_;show wpAny _ A.in1 (pyNext it>>=_) _ _ s;refine K.next St hs p λ v s' F' g S' eN hu K' r p'=>?_;have Ha:S<s.heap.objs.size:=by refine ew hS ?_;clear hS;intro o n ho z;exact aI ho
  have pH:=hu.not sy Ha;have r:=K'.rep hs r zA Ha;have vm:=g.jh sy hS;have Ea:=g.fk v3 (E6 hu) hr;show wpAny _ A.in1 (updateSeq S (·.push v)>>=_) _ _ _;refine aa ?_;refine bO (id vm) λ M0 VV Jy z z su=>?_;have g2:aB c [S] [] s' {s' with heap:=s'.heap.update S (aO (·.push v))}:=dR (tk:=s'.toks) Jy (c8 su);have S2:bF c {s' with heap:=s'.heap.update S (aO (·.push v))}:=e_ (tk:=s'.toks) S' zB;have p2:=K.T.frame p' g2 S2 (λ a h hf=>by obtain rfl:=m1 h;exact pH hf) λ z=>nn;have Cf:=eN.step g2 λ a h=>by obtain rfl:=m1 h;exact⟨zA,Ef⟩
  have mj:tC [S] (S::(F'++k.O)) s':= λ a h=>by obtain rfl:=m1 h;exact .inl (.head _)
  have zC:=mS (·.push v) vm;have RV:vs.toArray.push v=(vs++[v]).toArray:=by simp
  rw[RV]at zC;refine ff (hz:=by simp only[ba];rw[cH];lia) (_hz':=by simp only[hY,ba];rw[cH];exact TN Il hl rfl) Jy su (ah ⟨bT fy _,?_⟩);refine a7 (ih (eK++[d]) (vs++[v]) F' _ K' pH S2 Cf p2 zC ((g2.fk mj (nM.refl _ _) Ea).append (g2.rep mj (nM.refl _ _) r)) (by simp only[aY,aJ,dp];exact JQ hl rfl)) λ r k_ q=>?_;refine rg q ?_;clear q;intro z1 g3 S3 i7 h3 r3;subst z1;refine⟨rfl,?_,S3,i7,h3,by simpa using r3⟩;exact((g.mono (O':=S::F) (G':=G) (λ a h=>.inl (.tail _ h)) λ z h=>.inl h).trans (g2.mono (λ a h=>.inl (by obtain rfl:=m1 h;exact .head _)) λ z=>nn)).comp g3 (λ a h=>(aD.mp h).elim (λ h=>.inl (h▸ .head _)) λ h=>(hu a h).imp (λ h=>.tail _ h) And.left) λ z h=>.inl h
theorem yK(es:List D):vH es ((es.length:Int) -1)=es.reverse:=by
 unfold vH;rw[show((es.length:Int) -1+1).toNat=es.length by lia,List.take_length]
theorem FK{a l I:Addr}{O:List Addr}{ws vs:List ag}{ds es:List D}(R:Rm A 2)(S:bF c s)(hO:∀b∈O,b<s.heap.objs.size)(Cm:a∈O)(hB:c.B≤a)(XS:c.B≤I)(U2:a≠I)(Qk:l∉I::O)(hl:s.heap.IsList l vs.toArray)(Ut:a0 c.w (I::O) s.heap vs es)(ha:eB s.heap a ws.toArray)(Wy:a0 c.w (I::O) s.heap ws ds)(he:sF s.heap I l ((vs.length:Int) -1))(hz:ds.length+es.length≤1000):
  wpAny (model c.prog c.w) A (call (.builtin "list.__iadd__") [.ref a,.ref I]) (λ v s'=>v=.ref a∧aB c [a,I] [] s s'∧bF c s'∧∃vg,eB s'.heap a vg.toArray∧a0 c.w O s'.heap vg (ds++es.reverse)) aZ s:=by
 have Xv:s.TypeIs (.ref a) "list":=ha.isList.typeIs;have hlen:=Ut.length;have key:codeAny (model c.prog c.w) A (.call (.builtin "list.__iadd__") ⟨[.ref a,.ref I],[]⟩) (λ r s'=>r=.ok (.ret (.ref a))∧aB c [a,I] [] s s'∧bF c s'∧∃vg,eB s'.heap a vg.toArray∧a0 c.w O s'.heap vg (ds++es.reverse)) s:=by
  refine f9 yi yj (PySem.F.slot_list_iadd.check _ _ _ _ _ _ _ _ Xv (PySem.F.args_list_iadd_2 _ _) ?_);show wpAny _ A.in1 (r_ (.ref a) (.ref I) (.ref a)) _ _ s;refine aa (f6 (T:="list_reverseiterator") ⟨_,he,rfl⟩ ?_);have h1:iF (.ref a) (.ref I)=false:=by simp[iF];exact U2
  have Lj:(gG "list_reverseiterator"==gG "list")=false:=by decide
  have Ee:(gG "list_reverseiterator"==gG "tuple")=false:=by decide
  simp only[h1,Lj,Ee,Bool.or_false,aR,if_false];refine aa (yJ he ?_);refine aa (aV (wm (AU he) λ b aH hb=>?_));obtain⟨rfl,rfl⟩:=hb;have XF:I<aH.heap.objs.size:=aI he;have Kw:Wk c A.in1 (.Name "x" default) (.ref I) ⟨aH,I::O,[]⟩ [I] [] (λ F lK s=>F=[I]∧∃i:Int,sF s.heap I l i∧i<es.length∧lK=vH es i):=
   ⟨nN.rev (vs:=vs) R.handled hl Qk Ut (.head _) (by simp) λ z=>rfl,λ b hb=>by obtain rfl:=m1 hb;exact⟨.inl (.head _),by simp⟩,λ b hb=>by obtain rfl:=m1 hb;exact XS,
    λ b hb=>(aD.mp hb).elim (λ h=>h▸XF) (hO b),λ z=>nn,S.size,λ z=>rfl⟩
  split
  ·rename_i hc;exact absurd hc (by decide)
  ·refine ah ⟨bT fy _,a7 (xP hB (.inl (.tail _ Cm)) (by simp) _ (vH es ((vs.length:Int) -1)) ds ws [I] aH Kw (by simpa using U2) S .refl ⟨rfl,_,he,by lia,rfl⟩ ha (a0.kept (.refl _ _) (λ b hb=>.inl ?_) Wy) (by rw[hlen,yK,List.length_reverse];exact hz)) λ r s' q=>?_⟩
   ·rcases mc hb with rfl|hb
    ·exact .tail _ Cm
    rcases aC.mp hb with hb|hb
    ·obtain rfl:=m1 hb;exact .head _
    ·exact hb
   ·refine rg q ?_;clear q;intro z1 g S' vg h' r';subst z1;rw[hlen,yK]at r';exact⟨rfl,g,S',vg,h',a0.kept (.refl _ _) (λ b hb=>.inl (.tail _ (.tail _ hb))) r'⟩
 refine kg (a7 key λ r s' q=>?_);refine xa q ?_;clear q;intro z1 q;subst z1;exact⟨rfl,q⟩
variable {n:Nat}{E:VE}{ρ ρ':List Sl}
theorem Inv.load{β:dH}{O:List Addr}{ad:Nat→List Addr}{i:Nat}{x:Str}{v:ag}{Q:ag→ae→Prop}{X:ag→ae→Prop}(I:Inv c E β O ad ρ s)(hx:E.vn[i]? =some x)(b:Bound s.heap E.env x v)(h:Q v s):wpAny (model c.prog c.w) A (loadName E.env x) Q X s:=by
 have hm:=bw hx
 rcases I.ok.var x hm with hl|⟨hl,_⟩
 ·refine c0 (b.1 hl) λ m hn e=>?_;exact f7 I.ok.kind hl hn e h
 ·have ku:E.env.kindOf x≠some .local:=by rcases hl with h|h<;>rw[h]<;>trivial
  refine c0 (b.2 ku) λ a' e hc=>?_
  rcases hl with hl|hl
  ·exact mQ I.ok.kind hl e hc h
  ·exact mP I.ok.kind hl e hc h (I.ok.JI x hm).2
theorem bc.Ic(i:Nat){x y:Str}{p p1 p2 p3 pos:Pos}{ds es:List D}(hy:Ev c (n+2) E ρ (.Name y p2) (.lst es))(hx:E.vn[i]? =some x)(hi:i<E.k)(dP:ρ[i]? =some (.own true (.lst ds)))(hz:ds.length+es.length≤900)(hg:E.env.kindOf "reversed"=some .globalImplicit)(Im:cX c "reversed" (.type "reversed")):
  bc c (n+2) E ρ (.AugAssign (.Name x p) .Add (.Call (.Name "reversed" p1) [.Name y p2] [] p3) pos) (.next (ρ.set i (.own true (.lst (ds++es.reverse))))):= λ A β s R w0=>by
 refine iB w0 ?_;clear w0;intro O ad I;refine wpAny_AugAssign_Name ?_;refine cI (I.slot hx dP) λ v b r kk=>?_;refine I.load hx b ?_;refine bO r ?_;clear r;intro a ws z1 jx hl hr;subst z1;refine fL (iN I hg Im rfl (fT R I (show jz c (.type "reversed")from trivial) (cn.cons hy .nil) .nil rfl λ vs ks au cZ bj bC r'=>?_));refine fz bC λ u ru=>?_;refine fH r' ?_;refine bh.n7 ru ?_;clear ru;intro l vs Qk pe NR;refine vO pe ?_;have g2:aB c [] [] au {au with heap:=au.heap.push {cls:=.type "list_reverseiterator",data:=.fields #[.ref l,rawInt ((vs.toArray.size:Int) -1)]}}:=aB.push (tk:=au.toks);have S2:bF c {au with heap:=au.heap.push {cls:=.type "list_reverseiterator",data:=.fields #[.ref l,rawInt ((vs.toArray.size:Int) -1)]}}:=bj.br.push (tk:=au.toks);have kz:a∈ad i:=by rw[jx];exact .head _
 have Cm:=(kk _ kz).1;have XG:au.heap.objs.size∉O:=bj.o.next;have vk:nM O (au.heap.objs.size::O) au:= λ b hb=>(aD.mp hb).elim (λ h=>.inr (h▸az _)) .inl;have WR:l<au.heap.objs.size:=by refine ew pe ?_;clear pe;intro o n ho z;exact aI ho
 have gx:=cZ.trans g2;refine rH (hl.isList.typeIs|> λ z=>(gx.jh (by simp) hl).isList.typeIs) ⟨_,av _ rfl,rfl⟩ ?_;refine wm (FK (es:=es) (R.le (aG 2 n)) S2 (λ b hb=>ab (bj.lt b hb) g2.size) Cm (bj.low a Cm) bj.br.size (λ e=>XG (e▸Cm)) (λ hm=>(aD.mp hm).elim (λ h=>ak _ (h▸WR)) Qk) (g2.jh (nn) pe).isList (g2.fk (λ z=>nn) vk NR)
  (gx.jh (nn) hl) (g2.fk (λ z=>nn) vk (cZ.j_ hr)) (by have:=av au.heap (o:={cls:=.type "list_reverseiterator",data:=.fields #[.ref l,rawInt ((vs.toArray.size:Int) -1)]}) rfl;trivial) (by exact rF hz rfl)) λ v s' q=>?_
 refine rg q ?_;clear q;intro z1 g3 S3 vg h' r3;subst z1;have G7:i<ρ.length:=(aw.mp dP).1;have vj:s.heap.objs.size≤au.heap.objs.size:=cZ.size;have lI:aB c [a] [] s s':=(gx.mono (λ z=>nn) λ z=>nn).comp g3 (λ b hb=>by
  rcases mc hb with rfl|hb
  ·exact .inl (.head _)
  ·rw[aj]at hb;subst hb;exact .inr vj) λ z=>nn
 have i5:=I.jj (N:=[]) (q':=.lst (ds++es.reverse)) (fp:=ad i) hx dP lI S3 (λ b hb=>by rw[aj]at hb;subst hb;exact kz) b ⟨a,vg,rfl,jx,h',r3⟩ (λ z=>nn) λ b hb=>.inl hb;refine mr i5 hi hx (by rw[jt];exact G7) (sl:=.own true (.lst (ds++es.reverse))) (fp:=ad i) ⟨⟨a,vg,rfl,jx,h',r3⟩,λ b hb=>?_⟩ (λ j hj b hb=>?_) λ s₅ w jA z z z=>⟨rfl,_,_,by rw[l_]at jA;exact jA⟩
 ·have:=kk b hb;exact⟨this.1,this.2.1,this.2.2.1,this.2.2.2.1,this.2.2.2.2.1,ab this.2.2.2.2.2 lI.size⟩
 ·show b∉ (if j=i then ad i else ad j);rw[if_neg hj];exact I.mG i j (Ne.symm hj) b hb
end
section
variable {c:Cx}{n:Nat}{E:VE}{ρ ρ':List Sl}{scope:iU}{tn:List Str}{ix:List Nat}{β:dH}{O O':List Addr}{ad:Nat→List Addr}{s s':ae}
theorem qM{kx vx target iter:Expr}{ifs:List Expr}{scope:iU}{pos:Pos}{it:ag}{D':Addr}{env:Env}{A:aK}{R:iw→ae→Prop}(h:wpAny (model c.prog c.w) A (pyNext it) (λ r au=>match r with
   |none=>R (.ok .next) au
   |some v=>wpAny (model c.prog c.w) A (letOwnedTupleGo target it v) (λ z aH=>wpAny (model c.prog c.w) A (assign target env v) (λ z cq=>wpAny (model c.prog c.w) A (LV ifs env) (λ ok d7=>
     if ok=true then wpAny (model c.prog c.w) A (eval kx env) (λ x s₅=>wpAny (model c.prog c.w) A (eval vx env) (λ y qo=>wpAny (model c.prog c.w) A (dictSet D' x y) (λ z MH=>codeAny (model c.prog c.w) A (.compLoop (.DictComp kx vx [⟨target,iter,ifs,0⟩] scope pos) 0 it (.ref D') env) R MH) aZ qo) aZ s₅) aZ d7
     else codeAny (model c.prog c.w) A (.compLoop (.DictComp kx vx [⟨target,iter,ifs,0⟩] scope pos) 0 it (.ref D') env) R d7) aZ cq) aZ aH) aZ au) aZ s):
  codeAny (model c.prog c.w) A (.compLoop (.DictComp kx vx [⟨target,iter,ifs,0⟩] scope pos) 0 it (.ref D') env) R s:=by
 refine fg ?_;show wpAny _ A ((compTurn (.DictComp kx vx [⟨target,iter,ifs,0⟩] scope pos) 0 it (.ref D') env).onRaise (λ x=>do noteFrame x env;theTreesLotGoes x)) _ _ s;refine Av ?_;rw[compTurn_dict];refine aa (bS (wb h λ r au ct=>?_));cases r with
 |none=>exact ah ct
 |some v=>
  refine wb ct λ z aH cM=>?_;refine wb cM λ z cq mD=>?_;refine wb mD λ ok d7 pE=>?_;cases ok with
  |true=>
   rw[if_pos rfl]at pE;show wpAny _ _ (if true=true then _ else _) _ _ _;refine wP rfl ?_;exact aa (wb pE λ x s₅ zf=>aa (aV (wm zf λ y qo Bf=>aa (bS (aV (jc Bf (λ z MH FL=>ah ⟨rfl,FL⟩) λ z z f=>f.elim))))))
  |false=>
   rw[if_neg (by decide)]at pE;show wpAny _ _ (if false=true then _ else _) _ _ _;refine wN (by decide) ?_;exact ah ⟨rfl,pE⟩
theorem foldl_rev{X:Type}:∀(l o:List X),l.foldl (λ o y=>y::o) o=l.reverse++o:=by
 intro w
 induction w with
 |nil=>
  intro z;exact rfl
 |cons y l ih=>
  intro o;exact(ih _).trans (by rw[List.reverse_cons,j5];rfl)
theorem Gu{kx vx tg iter:Expr}{ifs:List Expr}{pos:Pos}:CB c n E scope tn ix (λ o=>.dJ o.length o) (λ o y=>y::o) 900 (.DictComp kx vx [⟨tg,iter,ifs,0⟩] scope pos) newDict tg ifs λ C (y:Int×D) ρ'=>Ev c n (kY E scope tn ix C) ρ' kx (.int y.1)∧Ev c n (kY E scope tn ix C) ρ' vx y.2 where
 QY:= λ A it C D'=>⟨_,qM,λ {Q β O ad ρ s o y} hy R I hO hl FX hk=>hy.1.go R I λ VD s₅ AG jA CY=>by
  refine bh.ef CY ?_;clear CY;intro t;refine hy.2.go R jA λ QO qo Hh DL Q3=>?_;refine c_ (FX qo DL) λ Bv g ps Ti j zh=>cg zh λ hm hz hp q=>?_;cases Ti;refine wpAny_dictSet_int_le hm hz (cR (af (bX hl) (by decide))) λ h' Ik sR eN=>?_;refine cJ hm ?_;clear hm;intro mW Gn Gp jm oh ik j;have JZ:aB c [D'] [] qo {qo with heap:=h',toks:=qo.toks+1}:=SameBut.grow eN jm (cP ik);have mj:tC [D'] O qo:= λ a h=>.inl (m1 h▸hO);exact hk qo _ DL JZ (SameBut.br DL.br eN (DL.low _ hO)) ⟨D',_,(y.1,QO)::ps,rfl,rfl,Ik,sR,λ k' z hy=>by
    rw[aX]at hy;cases Ih:k'==y.1 with
    |true=>rw[Ih]at hy;rw[if_pos (by simpa using Ih)];exact hy
    |false=>rw[Ih]at hy;rw[if_neg (by simpa using Ih)];exact hp k' z hy,lN.cons (JZ.rep mj (.refl _ _) Q3) (JZ.Km mj (.refl _ _) q)⟩⟩
 LK:= λ j j=>rfl
 start:=codeAny_compStart_dict
 new:=⟨_,rfl,λ h=>bo h,λ O h a e=>⟨a,_,[],rfl,rfl,⟨_,#[],0,e,rfl,rfl,λ j he=>by simp at he,λ j=>rfl⟩,λ o es ep ho hd=>by rw[e]at ho;cases ho;cases hd;exact az _,λ j j h=>(nomatch h),trivial⟩⟩
theorem gF.Pn(k:sD E.env E.vn scope tn ix=true){kx vx tg iter:Expr}{ifs:List Expr}{pos:Pos}{ds:List D}(f:D→Option (Int×D))(hi:kd c n E ρ iter tg (· =ds))(hlen:ds.length≤900)(hE:∀C,∀d∈ds,El c n (kY E scope tn ix C) (oT ρ tn ix) tg ifs d (f d).isSome λ ρ'=>∀y,f d=some y→Ev c n (kY E scope tn ix C) ρ' kx (.int y.1)∧Ev c n (kY E scope tn ix C) ρ' vx y.2)(hs:∀x,foldedSetIterable iter E.env x=pure x:=by intro z;rfl):gF c n E ρ (.DictComp kx vx [⟨tg,iter,ifs,0⟩] scope pos) (.dJ (ds.filterMap f).reverse.length (ds.filterMap f).reverse):=
 gF.JO Gu k f (arm_eval_DictComp ..) rfl hi hlen ((foldl_rev _ _).trans (bM _)) hE hs
end
section
variable {c:Cx}{n:Nat}{E:VE}{ρ ρ':List Sl}{β:dH}{O O':List Addr}{ad:Nat→List Addr}{s s':ae}
noncomputable def sG(c:Cx)(m N:Nat)(keys:List Str)(_:List Addr)(h:Heap)(v:ag)(fp:List Addr):Prop:=
 ∃(a:Addr) (f:Str→Option ag) (ks:List (Str×Addr)),v=.ref a∧fp=a::ks.map (·.2)∧h.MapOf (dG c.prog c.w) a f∧h.DictLe a m∧ks.map (·.1)=keys∧(a::ks.map (·.2)).Nodup∧
  ∀x:Str×Addr,x∈ks→f x.1=some (.ref x.2)∧∃vs:List ag,eB h x.2 vs.toArray∧vs.length≤N
noncomputable abbrev sq(c:Cx)(m N:Nat)(keys:List Str):OD:=.raw (sG c m N keys)
theorem sG.keep{m N:Nat}{keys:List Str}{h h':Heap}{v:ag}{fp:List Addr}(r:sG c m N keys O h v fp)(hk:∀a∈fp,∀o,h.get? a=some o→h'.get? a=some o):sG c m N keys O' h' v fp:=by
 refine cJ r ?_;clear r;intro a f ks z1 z2 y3 zh;refine cg zh ?_;clear zh;intro hz K4 xI pG;subst z1;subst z2;refine lB y3 ?_;clear y3;intro o es ep ho hm;refine⟨a,f,ks,rfl,rfl,⟨o,es,ep,hk a (.head _) o ho,hm⟩,hz.of_same ho (hk a (.head _) o ho),K4,xI,λ x hx=>?_⟩;refine mq (pG x hx) λ hf vs y1 hlen=>?_;refine ew y1 ?_;clear y1;intro o' n' nj hl;exact⟨hf,vs,⟨o',n',hk _ (.tail _ (aL.mpr ⟨x,hx,rfl⟩)) o' nj,hl⟩,hlen⟩
theorem sG.own{m N:Nat}{keys:List Str}{h:Heap}{v:ag}{fp:List Addr}(r:sG c m N keys O h v fp):cT c O h v (sq c m N keys) fp:=⟨r,λ O' h' z z hk=>r.keep hk⟩
theorem E4{α β:Type}:∀{xs ys:List (α×β)},xs.map (·.1)=ys.map (·.1)→xs.map (·.2)=ys.map (·.2)→xs=ys:= λ {xs ys} h h'=>by
 have e:∀l:List (α×β),(l.map (·.1)).zip (l.map (·.2))=l:= λ l=>by induction l with|nil=>rfl|cons p l ih=>exact congrArg (p:: ·) ih
 rw[← e xs,h,h',e]
theorem bc.tx(i:Nat){x key:Str}{m N oc:Nat}{keys:List Str}{p p1 p2 apos pos pos':Pos}{e:Expr}{d:D}(h:Ev c n E ρ e d)(hx:E.vn[i]? =some x)(dP:ρ[i]? =some (.own true (sq c m N keys)))(Dt:key∈keys)(hN:N≤900)(i_:autoParam (attributeBase (.Subscript (.Name x p) (.Constant (.str key) oc p1) p2) "append" E.env (eval (.Subscript (.Name x p) (.Constant (.str key) oc p1) p2) E.env)=eval (.Subscript (.Name x p) (.Constant (.str key) oc p1) p2) E.env) rf)(rK:autoParam (((backTo pos (starEach [e] E.env)).all (λ x=> !x.1)&&(backToKw pos (keywordEach [] E.env)).all (λ x=>x.1.isSome)
   &&decide (([e]:List Expr).length+([]:List dT).length+(if([]:List dT).isEmpty then 0 else 1)<30))=true) rf)(iP:autoParam ((apos.endLine==pos.line)=true) rf)(uz:autoParam (backTo pos (starEach [e] E.env)=[(false,eval e E.env)]) rf)(hi:autoParam (interactive E.env=false) rf)(hs:autoParam (swapsWith (.Call (.Attribute (.Subscript (.Name x p) (.Constant (.str key) oc p1) p2) "append" apos) [e] [] pos) none pos'.line E.env=pure false) rf):
  bc c n E ρ (.Expr (.Call (.Attribute (.Subscript (.Name x p) (.Constant (.str key) oc p1) p2) "append" apos) [e] [] pos) pos') (.next (ρ.set i (.own true (sq c m (N+1) keys)))):= λ A β s R w0=>by
 refine iB w0 ?_;clear w0;intro O ad I;refine gZ (oP i_ rK iP uz ?_) hi hs;refine cI (I.slot hx dP) λ v b r k=>?_;refine xa r ?_;clear r;intro y1 st;refine cJ y1 ?_;clear y1;intro a f ks z2 jx hm zh;refine cg zh ?_;clear zh;intro hz K4 xI pG;subst z2;rw[← K4]at Dt;obtain⟨⟨Rt,l⟩,K5,rfl⟩:=aL.mp Dt;refine mq (pG _ K5) λ hf vs hl hlen=>?_;refine Subscript_ (I.read hx b (iA ?_));refine DO (BK hm) nJ.lookup (wpAny_getItem_of (knd:=dG c.prog c.w) (k:=Rt) (by simp[dG,m8]) hm hf ⟨l,_,rfl,hl,h.go R (I.fU ((aB.refl ..).toks.toks) I.br.toks.toks) λ y aH iR cu bx=>?_⟩) (fq (by intros;simp));refine cI (cu.slot hx dP) λ v' b' r' k'=>?_;refine xa r' ?_;clear r';intro y1 nd;refine cJ y1 ?_;clear y1;intro a' f' Rq z2 i4 Ik zh;refine cg zh ?_;clear zh;intro sR Oj Od JB;subst z2;have e1:=jx.symm.trans i4;simp only[nw]at e1;refine xa e1 ?_;clear e1;intro z1 e2;subst z1;obtain rfl:=E4 (K4.trans Oj.symm) e2;refine mq (JB _ K5) λ Me i7 nE wC=>?_;have Qj:l∈ks.map (·.2):=aL.mpr ⟨_,K5,rfl⟩;refine dc (kn nE (λ h' uC eN up=>?_) (cR (by simp only[ba];exact G3 wC hN rfl)));have kz:l∈ad i:=by rw[i4];exact .tail _ Qj
 refine bO nE ?_;clear nE;intro mW Fd jm oh z ik;have g:aB c [l] [] aH {aH with heap:=h'}:=SameBut.grow (tk:=aH.toks) eN jm (c8 ik);have S:bF c {aH with heap:=h'}:=SameBut.br (tk:=aH.toks) cu.br eN (cu.low _ (k' _ kz).1);have ku:a≠l:= λ e=>(ej.mp Od).1 (e▸Qj);refine⟨rfl,[]++O,_,cu.jj (N:=[]) (fp:=ad i) hx dP g S (λ b hb=>by obtain rfl:=m1 hb;exact kz) b' (sG.own ⟨a,f',ks,rfl,i4,Ik.sameBut eN ku,sR.sameBut eN ku,Oj,Od,λ x hx=>?_⟩) (λ z=>nn) λ b hb=>.inl hb⟩;refine mq (JB x hx) λ q1 Mv q2 q3=>?_;refine⟨q1,?_⟩
 by_cases Un:x.2=l
 ·rw[Un];exact⟨i7++[y],by simpa using uC,by simp;exact wC⟩
 ·refine ew q2 ?_;clear q2;intro o n' ho q;exact⟨Mv,⟨o,n',(eN.2 _ Un).trans ho,q⟩,by exact eS q3⟩
theorem bc.setInfo(i:Nat){x key:Str}{m N oc:Nat}{keys:List Str}{p p1 p2 pos:Pos}{e:Expr}(h:Ev c n E ρ e .any)(hx:E.vn[i]? =some x)(dP:ρ[i]? =some (.own true (sq c m N keys)))(hm:m≤900)(hs:autoParam (swapsWith e (some (.Subscript (.Name x p) (.Constant (.str key) oc p1) p2)) pos.line E.env=pure false) rf):bc c n E ρ (.Assign [.Subscript (.Name x p) (.Constant (.str key) oc p1) p2] e pos) (.next (ρ.set i (.own true (.raw λ z z z z=>True)))):= λ A β s R w0=>iB w0 λ O ad I=>
 lu (h.go R I λ v au qJ bj r=>by
  refine cI (bj.slot hx dP) λ u b o k'=>?_;refine xa o ?_;clear o;intro y1 st;refine cJ y1 ?_;clear y1;intro a f ks z2 jx Ik zh;refine cg zh ?_;clear zh;intro hz K4 xI pG;subst z2;refine bj.read hx b (iA ?_);have kz:a∈ad i:=by rw[jx];exact .head _
  refine wpAny_setItem_of (knd:=dG c.prog c.w) (k:=key) (by simp[dG,m8]) Ik (λ h' WQ eN=>?_) (hz.mono (cR (by exact rF hm rfl)));refine cJ Ik ?_;clear Ik;intro mW Gn Gp jm oh ik z;have g:aB c [a] [] au {au with heap:=h',toks:=au.toks+1+1}:=SameBut.grow eN jm (cP ik);have S:bF c {au with heap:=h',toks:=au.toks+1+1}:=SameBut.br bj.br eN (bj.low _ (k' _ kz).1);exact⟨rfl,[]++O,_,bj.jj (N:=[]) (fp:=ad i) hx dP g S (λ b hb=>by obtain rfl:=m1 hb;exact kz) b ⟨trivial,λ z z z z z=>trivial⟩ (λ z=>nn) λ b hb=>.inl hb⟩) hs
inductive KL:List (Option Expr)→List Expr→List Str→Prop
 |nil:KL [] [] []
 |cons {ks:List (Option Expr)} {vs:List Expr} {ns:List Str} {x:Str} {k:Nat} {p p':Pos}:KL ks vs ns→KL (some (.Constant (.str x) k p)::ks) (.List [] p'::vs) (x::ns)
theorem KL.walk{A:aK}{X:ag→ae→Prop}{env:Env}{pos:Pos}{ks vs ns}(r:KL ks vs ns):∃pairs,(evalEachOpt ks env).zip ((evalEach vs env).map λ v=>do let x ← v;standAt pos;pure x)=pairs.map (λ p=>(some p.1,p.2))∧pairs.length=ns.length∧
  ∀(s:ae) (Q:List (ag×ag)→ae→Prop),(∀i7 h' tk (rs:List (Str×Addr)),Carries (dG c.prog c.w) i7 (rs.map λ x=>(x.1,.ref x.2))→rs.map (·.1)=ns→s.heap.objs.size≤h'.objs.size→(∀a o,s.heap.get? a=some o→h'.get? a=some o)→
   (∀x∈rs,s.heap.objs.size≤x.2∧x.2<h'.objs.size∧eB h' x.2 #[])→(rs.map (·.2)).Nodup→Q i7 {s with heap:=h',toks:=tk})→wpAny (model c.prog c.w) A (evalPairs pairs) Q X s:=by
 induction r with
 |nil=>exact⟨[],rfl,rfl,λ s Q h=>evalPairs_nil (h [] s.heap s.toks [] trivial rfl (az _) (λ z z e=>e) (λ z=>nn) .nil)⟩
 |@cons ks vs ns x k p p' r ih=>
  refine cI ih λ pairs e1 e2 w=>?_;refine⟨(eval (.Constant (.str x) k p) env,do let x ← eval (.List [] p') env;standAt pos;pure x)::pairs,?_,by simp[e2],λ s Q h=>?_⟩
  ·rw[a_,← e1];rfl
  ·refine DS (iA (aa (wpAny_List ?_)));show wpAny _ _ (spliced []) _ _ _;refine ah ⟨bV _,aa (bS (ah (w _ _ λ i7 h' tk rs hc hn hz hk hr hd=>?_)))⟩;have WN:eB h' s.heap.objs.size #[]:=⟨_,0,hk _ _ (av _ rfl),rfl,rfl,rfl⟩;have sR:s.heap.objs.size+1≤h'.objs.size:=by rw[aW]at hz;exact hz
   refine h _ h' tk ((x,s.heap.objs.size)::rs) ⟨by simp[dG,m8],rfl,hc⟩ (by simp[hn]) (iE sR) (λ a o e=>hk a o (aA _ e)) (λ y hy=>?_) ?_
   ·rcases mc hy with rfl|hy
    ·exact⟨az _,by show s.heap.objs.size<_;trivial,WN⟩
    ·have:=hr y hy;rw[aW]at this;exact⟨iE (show s.heap.objs.size+1≤y.2 from this.1),this.2.1,this.2.2⟩
   ·rw[a_,ej];refine⟨λ hm=>?_,hd⟩;refine c0 (aL.mp hm) λ y hy e=>?_;have q:=(hr y hy).1;rw[aW]at q;have q1:s.heap.objs.size+1≤y.2:=q;have e:y.2=s.heap.objs.size:=e;rw[e]at q1;exact ak _ q1
theorem tO:∀{rs:List (Str×Addr)},(rs.map (·.1)).Nodup→∀x∈rs,valueAt (rs.map λ x=>(x.1,dQ x.2)) x.1=some (.ref x.2)
 |[],_,_,h=>nn h
 |r::rs,hn,x,hx=>by
  rw[a_,ej]at hn;unfold valueAt;rw[a_,List.find?_cons]
  rcases mc hx with rfl|hx
  ·simp
  ·have ku:¬r.1=x.1:= λ e=>hn.1 (e▸aL.mpr ⟨x,hx,rfl⟩);simp only[ku,decide_false];exact tO hn.2 x hx
theorem gF.info{keys:List (Option Expr)}{values:List Expr}{pos:Pos}{ns:List Str}(r:KL keys values ns)(h0:ns≠[])(hlen:ns.length≤15)(xI:ns.Nodup):gF c n E ρ (.Dict keys values pos) (sq c ns.length 0 ns):= λ A β O ad s R I=>by
 refine cI (r.walk (c:=c) (A:=A) (X:=aZ) (env:=E.env) (pos:=pos)) λ pairs e1 e2 w=>?_;refine wpAny_Dict_pairs (knd:=dG c.prog c.w) e1 (by rintro rfl;exact h0 (List.eq_nil_of_length_eq_zero e2.symm)) (by exact af (dg e2) hlen) (w _ _ λ i7 h' tk rs hc hn hz hk hr hd=>?_);refine⟨rs.map λ x=>(x.1,.ref x.2),hc,(CE s.heap).keep hk,λ pI hm hs=>?_⟩;have UA:(rs.map (·.1)).Nodup:=hn▸xI;rw[merged_nil_of_nodup _ (by rw[bK];exact UA)]at hm;rw[aW]at hz hr;have Ce:pI.objs.size=h'.objs.size:=hs.1;have hold:∀a o,s.heap.get? a=some o→pI.get? a=some o:= λ a o e=>(hs.2 a (dM (aI e))).trans (hk a o (aA _ e));have lb:s.heap.objs.size≤pI.objs.size:=by rw[Ce];exact iE hz
 refine⟨s.heap.objs.size::rs.map (·.2),aB.step lb hold,I.br.step lb hold,sG.own ⟨s.heap.objs.size,_,rs,rfl,rfl,hm.mapOf,λ o' rP X2 nj iQ=>?_,hn,?_,λ x hx=>⟨tO UA x hx,[],?_,az _⟩⟩,λ a ha=>?_⟩
 ·refine c_ hm ?_;clear hm;intro o es ep ho z zh;refine cg zh ?_;clear zh;intro Bk z hp z;rw[ho]at nj;cases nj;rw[Bk]at iQ;cases iQ;have:=hp.length;rw[aE]at this;rw[← hn,aE,← this,i6];exact az _
 ·rw[ej];refine⟨λ Ik=>?_,hd⟩;refine c0 (aL.mp Ik) λ x hx e=>?_;have q:s.heap.objs.size+1≤x.2:=(hr x hx).1;have e:x.2=s.heap.objs.size:=e;rw[e]at q;exact ak _ q
 ·refine jH (hr x hx) λ h1 h2 zh=>ew zh λ o n' ho q=>?_;exact⟨o,n',(hs.2 _ (by intro e;have h1:s.heap.objs.size+1≤x.2:=h1;have e:x.2=s.heap.objs.size:=e;rw[e]at h1;exact ak _ h1)).trans ho,q⟩
 ·show s.heap.objs.size≤a∧a<pI.objs.size
  rcases mc ha with rfl|ha
  ·exact⟨az _,Ce▸hz⟩
  ·refine jw ha λ x hx=>?_;exact⟨iE (hr x hx).1,Ce▸ (hr x hx).2.1⟩
end
section
variable {c:Cx}{n:Nat}{E:VE}{ρ ρ':List Sl}{β:dH}{O O':List Addr}{ad:Nat→List Addr}{s s':ae}
theorem Ev.I_(i:Nat){x:Str}{q:OD}{d:D}{e:Expr}(hx:E.vn[i]? =some x)(dP:ρ[i]? =some (.own true q))(hq:q.Bm=some d)(h:Ev c n E (ρ.set i (.val d)) e .any):Ev c n E ρ e .any:= λ A β O ad s R I=>
 wm (h A β _ _ s R (I.freeze hx dP hq)) λ v s' q=>⟨q.1,q.2.1,by trivial⟩
theorem Ev.ME(i:Nat){x:Str}{ds:List D}{C:Addr}{fs:List (Str×D)}{e:Expr}(hx:E.vn[i]? =some x)(dP:ρ[i]? =some (.own true (.lst ds)))(hf:fs.all (λ p=>p.2.flat)=true)(h:Ev c n E (ρ.set i (.val (.lst ds))) e (.inst C fs)):Ev c n E ρ e (.inst C fs):= λ A β O ad s R I=>by
 refine cI (I.slot hx dP) λ v b y1 k=>?_;refine bO y1 ?_;clear y1;intro l vs z2 jx y3 z;subst z2;refine bO y3 ?_;clear y3;intro o m ho uD xK hd;refine wm (h A β _ _ s R (I.freeze hx dP rfl)) λ v s' q=>?_;refine jH q ?_;clear q;intro g S r;have nj:s'.heap.get? l=some o:=g.keep _ _ (by simp) ho (c8 hd);refine⟨g,S,?_⟩;refine bh.qH r ?_;clear r;intro a dx es n ps ha Oz e1 e2 hm rf;have out:∀b ob,s'.heap.get? b=some ob→ob.cls≠.type "list" →b∉O.filter (λ a=>decide (a∉ad i))→b∉O:= λ b ob eb ku hb hO=>by
  refine hb (aN.mpr ⟨hO,?_⟩);simp only[decide_eq_true_eq];rw[jx];intro OF;rw[aj]at OF;subst OF;rw[nj]at eb;cases eb;exact ku uD
 exact⟨a,dx,es,n,ps,rfl,out _ _ e1 (by simp) ha,out _ _ e2 (by simp) Oz,e1,e2,hm,ez.flat hf rf⟩
theorem Fn.Fs{ds:List D}(hl:ds.length≤900):Fn c n (.type "list") [.lst ds] [] .any:= λ A O s vs ks R K ec r'=>by
 refine fz ec λ v r=>?_;refine fH r' ?_;refine bh.n7 r ?_;clear r;intro a vs ha y2 r;refine bO y2 ?_;clear y2;intro o m ho uD xK hd;have hz:=r.length;refine dc (call_list_seq a (.inl rfl) ho uD hd (λ h' c' hk hg up=>?_) (cR (by simp;exact vi hz hl rfl)));exact⟨.step (tk:=s.toks) up.heap hk,K.br.step (tk:=s.toks) up.heap hk,by trivial⟩
theorem gF.Cs{pos:Pos}:gF c n E ρ (.Dict [] [] pos) (.dJ 0 []):= λ A β O ad s R I=>by
 refine wpAny_Dict_empty ?_;have g:aB c [] [] s {s with heap:=s.heap.push (ip #[] 0)}:=aB.push (tk:=s.toks);have S:bF c {s with heap:=s.heap.push (ip #[] 0)}:=I.br.push (tk:=s.toks);refine⟨[s.heap.objs.size],g,S,⟨_,_,[],rfl,rfl,Heap.IntMap.new s.heap,λ o es ep ho hd=>?_,λ k v h=>(by cases h),by trivial⟩,λ a ha=>?_⟩
 ·rw[av _ rfl]at ho;cases ho;cases hd;exact az _
 ·rw[aj]at ha;subst ha;exact⟨az _,by rw[aW];exact aS _⟩
theorem Ev.Pm{ke ve:Expr}{pos:Pos}{xs:List Int}{d:D}(hk:Ev c (n+1) E ρ ke (.tup (D.ints xs)))(hv:Ev c (n+1) E ρ ve d):Ev c (n+1) E ρ (.Dict [some ke] [ve] pos) .any:= λ A β O ad s R I=>by
 have g:aB c [] [] s {s with heap:=s.heap.push (ip #[] 0)}:=aB.push (tk:=s.toks);have S:bF c {s with heap:=s.heap.push (ip #[] 0)}:=I.br.push (tk:=s.toks);have g0:({s with heap:=s.heap.push (ip #[] 0)}:ae).heap.get? s.heap.objs.size=some (ip #[] 0):=av _ rfl;refine wpAny_Dict_any rfl rfl (by simp) (by exact bB _) (DS (hk.go R (I.fU g S) λ kv au qJ bj bC=>aa (hv.go R bj λ vv aH iR cu bx=>aa (bS (ah (evalPairs_nil ?_))))));refine bh.ql bC ?_;clear bC;intro t us ht FR MP;have Vd:=(qJ.trans iR).keep _ _ (by simp) g0 (cP rfl);unfold storeAll;rw[o4];refine aa (aa (wpAny_dictSet_heap (knd:=tupleKind (intKind c.prog c.w)) (xs:=[]) (k:=xs) R.u0 (tQ (iR.isTup (by simp) FR) (mA MP)) ⟨_,_,_,Vd,⟨rfl,rfl,rfl⟩,rfl,rfl,λ z=>nn,mm⟩ (λ h' hd hs=>ah ?_) (cR (by simp))));dsimp only;rw[ye];refine ah ?_;have old:∀a,a∈[s.heap.objs.size]→s.heap.objs.size≤a:= λ a h=>by rw[aj]at h;subst h;exact az _
 have g3:aB c [s.heap.objs.size] [] aH {aH with heap:=h',toks:=aH.toks+(tupleKind (intKind c.prog c.w)).draws xs}:=SameBut.grow hs Vd (cP rfl);exact⟨((g.trans qJ).trans iR).comp g3 (λ a h=>.inr (old a h)) λ z=>nn,SameBut.br cu.br hs I.br.size,by trivial⟩
noncomputable def sE(c:Cx)(key:Str)(m:Nat)(O:List Addr)(h:Heap)(v:ag)(fp:List Addr):Prop:=
 ∃(a b:Addr) (f:Str→Option ag) (xs:List (List Int×Addr×ag)),v=.ref a∧fp=[a,b]∧a≠b∧h.MapOf (dG c.prog c.w) a f∧f key=some (.ref b)∧h.DictOfH (tupleKind (intKind c.prog c.w)) b xs∧xs.length≤m∧∀x∈xs,x.2.1∉O
theorem sE.keep{key:Str}{m:Nat}{h h':Heap}{v:ag}{fp:List Addr}(r:sE c key m O h v fp)(K:Kept O h h')(hO:∀a∈O',a∈O∨h.objs.size≤a)(hk:∀a∈fp,∀o,h.get? a=some o→h'.get? a=some o):sE c key m O' h' v fp:=by
 refine xe r ?_;clear r;intro a zh;refine lB zh ?_;clear zh;intro b f xs z1 zh;refine cg zh ?_;clear zh;intro z2 Mj y3 zh;refine cg zh ?_;clear zh;intro hf y4 hz hx;subst z1;subst z2;refine lB y3 ?_;clear y3;intro o es ep ho hm;refine c_ y4 ?_;clear y4;intro o2 Tl X1 wB Dx zh;refine cg zh ?_;clear zh;intro Bk W8 UQ xJ;refine⟨a,b,f,xs,rfl,rfl,Mj,⟨o,es,ep,hk a (.head _) o ho,hm⟩,hf,⟨o2,Tl,X1,hk b (.tail _ (.head _)) o2 wB,Dx,Bk,W8,λ x h=>?_,xJ⟩,hz,λ x h hm=>?_⟩
 ·refine cJ (UQ x h) λ o3 items n3 e3 c3 d3 i3=>?_;exact⟨o3,items,n3,K.get _ _ (hx x h) e3 (c8 d3),c3,d3,i3⟩
 ·refine cJ (UQ x h) λ o3 items n3 e3 c3 d3 i3=>?_;exact(hO _ hm).elim (hx x h) λ hl=>ak _ (ab (aI e3) hl)
noncomputable abbrev t_(c:Cx)(key:Str)(m:Nat):OD:=.raw (sE c key m)
theorem sE.own{key:Str}{m:Nat}{h:Heap}{v:ag}{fp:List Addr}(r:sE c key m O h v fp):cT c O h v (t_ c key m) fp:=⟨r,λ O' h' K hO hk=>r.keep K hO hk⟩
theorem MY(k v:Expr)(env:Env)(pos:Pos):(evalEachOpt [some k] env).zip ((evalEach [v] env).map λ v=>do let x ← v;standAt pos;pure x)=[(eval k env,do let x ← eval v env;standAt pos;pure x)].map (λ p=>(some p.1,p.2)):=rfl
theorem gF.Pl{key:Str}{k:Nat}{p p' pos:Pos}:gF c n E ρ (.Dict [some (.Constant (.str key) k p)] [.Dict [] [] p'] pos) (t_ c key 0):= λ A β O ad s R I=>by
 have hl:∀x:Sem ag×Sem ag,[x].length≤15:= λ z=>(by decide:1≤15);refine @wpAny_Dict_pairs c.prog c.w _ _ (dG c.prog c.w) A aZ s E.env [some (.Constant (.str key) k p)] [.Dict [] [] p'] pos _ _ (MY _ _ _ _) (List.cons_ne_nil _ _) (hl _) ?_;refine DS (iA (aa (wpAny_Dict_empty (aa (bS (ah (evalPairs_nil ?_)))))));have q0:(s.heap.push (ip #[] 0)).get? s.heap.objs.size=some (ip #[] 0):=av _ rfl;have Ig:(s.heap.push (ip #[] 0)).objs.size=s.heap.objs.size+1:=aW ..;have vj:((s.heap.push (ip #[] 0)).push (ip #[] 0)).objs.size=s.heap.objs.size+2:=by rw[aW,Ig]
 have q1:((s.heap.push (ip #[] 0)).push (ip #[] 0)).get? (s.heap.objs.size+1)=some (ip #[] 0):=by
  have:=av (s.heap.push (ip #[] 0)) (o:=ip #[] 0) rfl;rwa[Ig]at this
 refine⟨[(key,.ref (s.heap.objs.size+1))],⟨by simp[dG,m8],by show dQ (s.heap.push (ip #[] 0)).objs.size=_;rw[Ig],trivial⟩,(CE s.heap).keep λ a o e=>aA _ e,λ pI hm hs=>?_⟩;rw[merged_nil_of_nodup _ (by simp)]at hm;have ku:s.heap.objs.size+1≠s.heap.objs.size:=by exact vV _
 have hold:∀a o,s.heap.get? a=some o→pI.get? a=some o:= λ a o e=>(hs.2 a (dM (aI e))).trans (aA _ (aA _ e));have Ce:pI.objs.size=s.heap.objs.size+2:=hs.1.trans vj;have lb:s.heap.objs.size≤pI.objs.size:=by exact Ce▸cE _ _
 refine⟨[s.heap.objs.size,s.heap.objs.size+1],aB.step lb hold,I.br.step lb hold,sE.own ⟨_,_,_,[],rfl,rfl,ku.symm,hm.mapOf,by simp[valueAt],⟨_,_,_,(hs.2 _ ku).trans q1,⟨rfl,rfl,rfl⟩,rfl,rfl,λ z h=>(nn h),mm⟩,az _,λ z h=>nn h⟩,λ a ha=>?_⟩
 rcases mc ha with rfl|ha
 ·exact⟨az _,by show s.heap.objs.size<pI.objs.size;exact GS Ce⟩
 ·rw[aj]at ha;subst ha;exact⟨bq _,by show s.heap.objs.size+1<pI.objs.size;exact dg Ce.symm⟩
set_option tactic.hygienic true in
theorem bc.HA(i:Nat){x key:Str}{m oc:Nat}{p p1 p2 p3 pos:Pos}{te e:Expr}{xs:List Int}{d:D}(h:Ev c (n+1) E ρ e d)(ht:Ev c (n+1) E ρ te (.tup (D.ints xs)))(hx:E.vn[i]? =some x)(dP:ρ[i]? =some (.own true (t_ c key m)))(hm:m≤900)(hs:autoParam (swapsWith e (some (.Subscript (.Subscript (.Name x p) (.Constant (.str key) oc p1) p2) te p3)) pos.line E.env=pure false) rf):
  bc c (n+1) E ρ (.Assign [.Subscript (.Subscript (.Name x p) (.Constant (.str key) oc p1) p2) te p3] e pos) (.next (ρ.set i (.own true (t_ c key (m+1))))):= λ A β s R w0=>iB w0 λ O ad I=>
 lu (h.go R I λ v au qJ bj r=>by
  refine cI (bj.slot hx dP) λ u b y1 k'=>?_;refine xa y1 ?_;clear y1;intro y2 z;refine xe y2 ?_;clear y2;intro a zh;refine c_ zh ?_;clear zh;intro l f ks z3 jx zh;refine cg zh ?_;clear zh;intro Mj UB hf z;subst z3;refine Subscript_ (bj.read hx b (iA ?_));refine DO (BK UB) nJ.lookup (wpAny_getItem_of (knd:=dG c.prog c.w) (k:=key) (by simp[dG,m8]) UB hf (ht.go R (bj.fU ((aB.refl ..).toks.toks) bj.br.toks.toks) λ y aH iR cu bx=>?_)) (fq (by intros;simp));refine cI (cu.slot hx dP) λ u' b' y1 k₂=>?_;refine xa y1 ?_;clear y1;intro y2 nd;refine xe y2 ?_;clear y2;intro a' zh;refine lB zh ?_;clear zh;intro l' f' Rq z3 zh;refine cg zh ?_;clear zh;intro i4 OH Sa zh;refine cg zh ?_;clear zh;intro Me La sR wA;subst z3;have e1:=jx.symm.trans i4;simp only[nw,and_true]at e1;refine xa e1 ?_;clear e1;intro z1 z2;subst z1;subst z2;refine bh.ql bx ?_;clear bx;intro t us Ws FR MP;have kz:l∈ad i:=by rw[i4];exact .tail _ (.head _)
  refine wpAny_setItem_heap (knd:=tupleKind (intKind c.prog c.w)) (k:=xs) R.in1.u0 (tQ FR (mA MP)) La (λ h' Bk eN=>?_) (cR (by exact G3 sR hm rfl));refine cJ La ?_;clear La;intro mW Gn Gp jm oh ik z;have g:aB c [l] [] aH {aH with heap:=h',toks:=aH.toks+(tupleKind (intKind c.prog c.w)).draws xs}:=SameBut.grow eN jm (cP ik);have S:bF c {aH with heap:=h',toks:=aH.toks+(tupleKind (intKind c.prog c.w)).draws xs}:=SameBut.br cu.br eN (cu.low _ (k₂ _ kz).1);refine⟨rfl,[]++O,_,cu.jj (N:=[]) (fp:=ad i) hx dP g S (λ b hb=>by obtain rfl:=m1 hb;exact kz) b' (sE.own ⟨a,l,f',storedH Rq xs t v,rfl,i4,OH,Sa.sameBut eN OH,Me,Bk,?_,λ x hx=>?_⟩) (λ z=>nn) λ b hb=>.inl hb⟩
  ·unfold storedH;split<;>simp<;>lia
  ·rcases mem_storedH hx with⟨y,hy,e1,e2⟩|⟨e1,e2⟩
   ·rw[e2];exact wA y hy
   ·rw[e2];exact Ws) hs
end
structure FD where
 params:Arguments
 body:List Stmt
 scope:iU
noncomputable def fdOf(s:Stmt):FD:=⟨(vw s).a,(vw s).b,(vw s).sc⟩
noncomputable def defAt(i:Nat):FD:=fdOf (oR PySem.Challenge.pw_jg0005_01.main.body i)
noncomputable def iZ(i j:Nat):FD:=fdOf (oR (nF PySem.Challenge.pw_jg0005_01.main.body i) j)
structure rU where
 name:Str
 qualname:Str
 doc:ag
 pyModule:ag
 annotations:Option Addr
 code:ag
 closureTuple:ag
 V4:ag
noncomputable def FD.fd(d:FD)(v:ag)(u:rU):FuncData:=
 {name:=u.name,qualname:=u.qualname,params:=d.params,body:=.stmts d.body,scope:=d.scope,globals:=mainGlobals,closure:=[],defaults:=v,kwdefaults:=u.V4,
  doc:=u.doc,pyModule:=u.pyModule,annotations:=u.annotations,code:=u.code,closureTuple:=u.closureTuple,builtins:=builtinsNs}
noncomputable def FnAt(c:Cx)(a:Addr)(d:FD)(v:ag):Prop:=∃u,nG c a (d.fd v u) d.body∧∃p∈c.tabs,u.code=.ref p.1
noncomputable def rR:FD:=defAt 28
theorem Nn{α:Type}{l:List α}(h:l.length=0):l=[]:=gh.mp h
theorem rE{α:Type}{l:List α}(h:l.length=1):∃a,l=[a]:=CD.mp h
theorem xD{α:Type}{l:List α}(h:l.length=2):∃a b,l=[a,b]:=by
 exact ui h λ a b=>⟨a,b,rfl⟩
theorem Rn{α:Type}{l:List α}(h:l.length=5):∃a b c d e,l=[a,b,c,d,e]:=by
 exact Nl h λ a b c d e=>⟨a,b,c,d,e,rfl⟩
theorem Bc{ks:List (Str×ag)}(h:ks.map (·.1)=(fO (·.1) ([]:List (Str×D)))):ks=[]:=by simpa using h
theorem L0{ks:List (Str×ag)}{x:Str}{l:List Str}(h:ks.map (·.1)=x::l):∃a t,ks=(x,a)::t∧t.map (·.1)=l:=by
 cases ks with
 |nil=>cases h
 |cons k t=>cases k;cases h;exact⟨_,_,rfl,rfl⟩
theorem Qc{ks:List (Str×ag)}{x:Str}{d:D}(h:ks.map (·.1)=(fO (·.1) ([(x,d)]:List (Str×D)))):∃a,ks=[(x,a)]:=by
 obtain⟨a,t,rfl,k⟩:=L0 (x:=x) h;exact⟨a,by rw[qY.mp k]⟩
theorem Rp{ks:List (Str×ag)}{x x':Str}{d d':D}(h:ks.map (·.1)=(fO (·.1) ([(x,d),(x',d')]:List (Str×D)))):∃a b,ks=[(x,a),(x',b)]:=by
 obtain⟨a,t,rfl,k⟩:=L0 (x:=x) h;obtain⟨b,rfl⟩:=Qc (d:=d') k;exact⟨a,b,rfl⟩
theorem Qb{ks:List (Str×ag)}{x y z:Str}{d e f:D}(h:ks.map (·.1)=(fO (·.1) ([(x,d),(y,e),(z,f)]:List (Str×D)))):∃a b c,ks=[(x,a),(y,b),(z,c)]:=by
 obtain⟨a,t,rfl,k⟩:=L0 (x:=x) h;obtain⟨b,c,rfl⟩:=Rp (d:=e) (d':=f) k;exact⟨a,b,c,rfl⟩
theorem V5{ks:List (Str×ag)}{x y z p q:Str}{d e f g i:D}(h:ks.map (·.1)=(fO (·.1) ([(x,d),(y,e),(z,f),(p,g),(q,i)]:List (Str×D)))):∃a b c d e,ks=[(x,a),(y,b),(z,c),(p,d),(q,e)]:=by
 refine ew (L0 (x:=x) h) λ a t z1 k=>?_;subst z1;refine ew (L0 (x:=y) k) λ b t z1 l=>?_;subst z1;refine iu (Qb (d:=f) (e:=g) (f:=i) l) λ c d e z1=>?_;subst z1;exact⟨a,b,c,d,e,rfl⟩
noncomputable def sX(c:Cx)(T:Addr)(vs:List ag):Prop:=∃o n,c.K.lookup T=some o∧o.data=.seq vs.toArray n
theorem sX.binds{c:Cx}{s:ae}{fd:FuncData}{args:Args}{binds:List (Str×ag)}{T:Addr}{vs:List ag}{k:Option (Array ag)→Sem (List (Str×ag))}(H:sX c T vs)(S:bF c s)(hd:fd.defaults=.ref T)(ct:bindArgs fd args=seqItems? fd.defaults>>=k)(cM:k (some vs.toArray)=pure binds):iy s fd args binds:=by
 refine ew H ?_;clear H;intro o n ho hs;exact BindsTo.of_defaults hd (S.fZ _ _ ho) hs ct cM
noncomputable def m5:FD:=iZ 5 0
noncomputable def Gz:FD:=iZ 5 6
noncomputable def Gy:FD:=iZ 5 10
noncomputable def JN:FD:=iZ 5 14
noncomputable def JL:FD:=iZ 5 15
noncomputable def JM:FD:=iZ 5 16
structure fj(c:Cx):Prop where
 make:makesIn c.K 189=true
 xG:findIn c.K (.ref 189) "__init__"=some (some (.ref 60))
 Hp:typeIn c.K (.ref 60)=some (.type "function")
 QF:FnAt c 60 m5 (.ref 53)
 QG:∃t u,sX c 53 [.int 0 t,.int 1 u]
 sS:cX c "Fraction" (.ref 189)
 lJ:cX c "isinstance" (.builtin "isinstance")
 xN:cX c "int" (.type "int")
 keep:jz c (.ref 189)
 own:sh c.K 189=true
 L4:kitAny c.K (.type "int") [.type "int",.ref 189]=some true
 Uh:kitAny c.K (.ref 189) [.type "int",.ref 189]=some true
 Jo:kitOne c.K (.type "int") (.ref 189)=some false
 Jp:kitOne c.K (.ref 189) (.ref 189)=some true
 Nu:kitOne c.K (.ref 189) (.type "int")=some false
 KR:kitOne c.K (.type "int") (.type "int")=some true
 putN:fh c.K 189 "numerator"=true
 putD:fh c.K 189 "denominator"=true
 Eh:attrOk c.K 189 "numerator"=true
 Bw:attrOk c.K 189 "denominator"=true
 XV:cX c "NotImplemented" .notImplemented
 rT:wt c.K 189 "int" "add" 102=true
 PS:qy c.K 189 (dY "add") 102=true
 nD:wt c.K 189 "int" "mul" 130=true
 Vi:qy c.K 189 (cmpInfo .Eq).2.1 158=true
 Uc:qy c.K 189 (cmpInfo .Lt).2.1 165=true
 Ud:qy c.K 189 (cmpInfo .LtE).2.1 172=true
 Lv:FnAt c 102 Gz .none
 Pe:FnAt c 130 Gy .none
 Pd:FnAt c 158 JN .none
 Pc:FnAt c 165 JL .none
 Pb:FnAt c 172 JM .none
structure PG(c:Cx):Prop where
 set:cX c "set" (.type "set")
 len:cX c "len" (.builtin "len")
 RB:cX c "isinstance" (.builtin "isinstance")
 int:cX c "int" (.type "int")
 all:cX c "all" (.builtin "all")
 any:cX c "any" (.builtin "any")
 sorted:cX c "sorted" (.builtin "sorted")
 str:cX c "str" (.type "str")
 range:cX c "range" (.type "range")
 list:cX c "list" (.type "list")
 sum:cX c "sum" (.builtin "sum")
 min:cX c "min" (.builtin "min")
 enum:cX c "enumerate" (.type "enumerate")
 tuple:cX c "tuple" (.type "tuple")
 abs:cX c "abs" (.builtin "abs")
 rev:cX c "reversed" (.type "reversed")
 KR:kitOne c.K (.type "int") (.type "int")=some true
noncomputable def Cu:FD:=defAt 2
noncomputable def uN:FD:=defAt 3
noncomputable def Gw:FD:=defAt 4
structure kc(c:Cx):Prop where
 Th:FnAt c 30 Cu (.ref 23)
 TB:∃v,sX c 23 [v,.none]
 gC:cX c "CandidateSet" (.ref 30)
 kC:jz c (.ref 30)
 Vg:FnAt c 37 uN .none
 gS:cX c "sorted_committees" (.ref 37)
 kS:jz c (.ref 37)
 Vf:FnAt c 45 Gw (.ref 38)
 Vp:sX c 38 [.none]
 OU:cX c "str_set_of_candidates" (.ref 45)
 Ru:jz c (.ref 45)
noncomputable def m4:FD:=iZ 31 0
noncomputable def rQ:FD:=iZ 30 0
noncomputable def zP:FD:=iZ 30 1
noncomputable def zO:FD:=iZ 30 3
noncomputable def Gv:FD:=iZ 30 4
noncomputable def Po:FD:=iZ 30 5
noncomputable def JK:FD:=iZ 30 11
structure iD(c:Cx):Prop where
 Fh:makesIn c.K 600=true
 FG:findIn c.K (.ref 600) "__init__"=some (some (.ref 582))
 Eu:typeIn c.K (.ref 582)=some (.type "function")
 Ls:FnAt c 582 m4 (.ref 575)
 LA:∃t,sX c 575 [.int 1 t,.none]
 gV:cX c "Voter" (.ref 600)
 kV:jz c (.ref 600)
 MV:fh c.K 600 "approved"=true
 MT:fh c.K 600 "weight"=true
 LJ:attrOk c.K 600 "approved"=true
 PB:attrOk c.K 600 "weight"=true
 M1:sh c.K 600=true
 Ug:kitOne c.K (.ref 600) (.ref 600)=some true
 Jj:makesIn c.K 563=true
 Jr:findIn c.K (.ref 563) "__init__"=some (some (.ref 454))
 I3:typeIn c.K (.ref 454)=some (.type "function")
 O5:FnAt c 454 rQ (.ref 449)
 Pp:sX c 449 [.none]
 gP:cX c "Profile" (.ref 563)
 kP:jz c (.ref 563)
 MU:fh c.K 563 "candidates"=true
 putN:fh c.K 563 "cand_names"=true
 Jf:fh c.K 563 "_voters"=true
 Cw:attrOk c.K 563 "candidates"=true
 GJ:attrOk c.K 563 "_voters"=true
 E3:∃p,xr c.K 563 "num_cand" p 461=true
 O4:FnAt c 461 zP .none
 Ni:findIn c.K (.ref 563) "__len__"=some (some (.ref 476))
 Nj:isFn c.K (.ref 476)=true
 O3:FnAt c 476 zO .none
 Jk:jS c.K 563 "_unique_voter" 483=true
 O2:FnAt c 483 Gv .none
 Nf:jS c.K 563 "add_voter" 490=true
 O1:FnAt c 490 Po .none
 Ry:findIn c.K (.ref 563) "__iter__"=some (some (.ref 532))
 RA:isFn c.K (.ref 532)=true
 Lu:FnAt c 532 JK .none
theorem Gh(a:Int){b:Int}(hb:0<b):((a:Rat) / b).num=a.fdiv (fe a b)∧(((a:Rat) / b).den:Int)=b.fdiv (fe a b):=by
 obtain⟨n,rfl⟩:∃n:Nat,b=n:=⟨b.toNat,by lia⟩;have hn:n≠0:=by lia
 rw[show((n:Int):Rat)=((n:Int):Rat)from rfl,← u_,Rat.divInt_ofNat];unfold mkRat;rw[dif_neg hn,Rat.normalize_eq];have hg:a.natAbs.gcd n=fe a n:=by simp[fe]
 refine⟨?_,?_⟩
 ·show a / (a.natAbs.gcd n:Nat)=_;rw[hg];rw[Ak _ (by lia)]
 ·show((n / a.natAbs.gcd n:Nat):Int)=_;rw[hg];rw[Ak _ (by lia),Int.natCast_ediv]
theorem zI{g r:Int}(hr:0<r):fe r (g.fmod r)=fe g r:=by
 rw[Aj _ (bL hr),Int.gcd_comm,Int.emod_def,Int.gcd_sub_mul_left_left]
theorem Cq{g r:Int}(hr:0<r):0≤g.fmod r∧g.fmod r<r:=by
 rw[Aj _ (bL hr)];exact⟨Int.emod_nonneg _ (u6 hr),Int.emod_lt_of_pos _ hr⟩
noncomputable def Ar(q:Rat):List (Str×D):=[("denominator",.int q.den),("numerator",.int q.num)]
noncomputable abbrev eL(q:Rat):D:=.inst 189 (Ar q)
section
variable {c:Cx}{n:Nat}
noncomputable abbrev Bn:List Str:=["self","numerator","denominator","upper","lower","divisor","rest"]
theorem wK{E:VE}{ρ:List Sl}(P:fj c)(hE:E.env.kindOf "isinstance"=some .globalImplicit)(hI:E.env.kindOf "int"=some .globalImplicit)(hF:E.env.kindOf "Fraction"=some .globalImplicit){x:Str}{d:D}{b:Bool}{p1 p2 p3 p4 p5 p6:Pos}{k:Nat}(h:Ev c n E ρ (.Name x p1) d)(hd:∀{m:Nat},Fn c m (.builtin "isinstance") [d,.tup ([gG "int",.ref 189].map D.lit)] [] (.bool b)):
  Tr c n E ρ (.UnaryOp .Not (.Call (.Name "isinstance" p2) [.Name x p1,.Tuple [.Name "int" p3,.Name "Fraction" p4] k p5] [] p6) p6) (!b):=
 Tr.not (Tr.val (Ev.call hE P.lJ trivial (cn.cons h (cn.cons (Ev.tup (cn.cons (Ev.gl hI P.xN) (cn.cons (Ev.gl hF P.sS) .nil))) .nil)) .nil hd) kA.bool)
theorem yz{α:Type}{l:List α}{i:Nat}{a:α}(h:l[i]? =some a):l.set i a=l:=by
 refine xe (aw.mp h) λ hi e=>?_;subst e;exact D1 hi
noncomputable def Lo:List Stmt:=m5.body.drop 7
theorem OW{E:VE}{p1 p2 p3 p4 p5 p6 p7 p8 p9 VT:Pos}{k k':Nat}(h5:E.vn[5]? =some ("divisor":Str))(h6:E.vn[6]? =some ("rest":Str))(hE:7≤E.k)(hw:swappedStores [.Tuple [.Name "divisor" p1,.Name "rest" p2] k p3] (.Tuple [.Name "rest" p4,.BinOp (.Name "divisor" p5) .Mod (.Name "rest" p6) p7] k' p8) E.env=pure (some [("divisor":Str),("rest":Str)])):
  ∀(m:Nat) (g r:Int) (ρ:List Sl),ρ.length=7→ρ[5]? =some (.val (.int g))→ρ[6]? =some (.val (.int r))→0≤r→r≤(m:Int)→0<g→
   Wh c n E ρ (.Name "rest" p9) [.Assign [.Tuple [.Name "divisor" p1,.Name "rest" p2] k p3] (.Tuple [.Name "rest" p4,.BinOp (.Name "divisor" p5) .Mod (.Name "rest" p6) p7] k' p8) VT] (.next ((ρ.set 6 (.val (.int 0))).set 5 (.val (.int (fe g r))))):=by
 intro m
 induction m with
 |zero=>
  intro g r ρ hl hg hr h0 hm JA;obtain rfl:r=0:=Int.le_antisymm hm h0;have e:(ρ.set 6 (.val (.int 0))).set 5 (.val (.int (fe g 0)))=ρ:=by
   rw[show((fe g 0:Nat):Int)=g by rw[Int.gcd_zero];exact qT (bL JA)];rw[yz hr,yz hg]
  rw[e];exact Wh.done (Tr.val (Ev.nm 6 h6 hr) kA.int)
 |succ m ih=>
  intro g r ρ hl hg hr h0 hm JA
  by_cases hz:r=0
  ·exact ih g r ρ hl hg hr h0 (hz▸cz m) JA
  ·have R6:0<r:=Int.lt_iff_le_and_ne.mpr ⟨h0,Ne.symm hz⟩;have hb:=Cq (g:=g) R6;refine Wh.step (Tr.val (Ev.nm 6 h6 hr) (by have:=@kA.int c n r;rwa[show(r !=0)=true by simpa using hz]at this)) (Ex.one (bc.MI 5 6 (Ev.tup (cn.cons (Ev.nm 6 h6 hr) (cn.cons (Ev.bin (Ev.nm 5 h5 hg) (Ev.nm 6 h6 hr) (gH.xx hz)) .nil))) h5 h6 (by exact bX hE) (by trivial) (by exact hl▸bq _) (by exact dg hl.symm) rfl hw)) ?_;have:=ih r (g.fmod r) ((ρ.set 6 (.val (.int (g.fmod r)))).set 5 (.val (.int r))) (by simpa using hl) (by simp[hl]) (by simp[hl]) hb.1 (Int.le_of_lt_add_one (jE hb.2 hm)) R6;rw[zI R6]at this;have e:((((ρ.set 6 (.val (.int (g.fmod r)))).set 5 (.val (.int r))).set 6 (.val (.int 0))).set 5 (.val (.int (fe g r))))=(ρ.set 6 (.val (.int 0))).set 5 (.val (.int (fe g r))):=by
    rw[Ay _ _ (show(5:Nat)≠6 by decide),l_,l_]
   rwa[e]at this
theorem Gi{L u':Addr}{u:rU}{d₁ d₂:D}(P:fj c){a b:Int}(hb:0<b)(wH:b<2^64):Ex c n (mO (m5.fd (dQ 53) u) L 60 Bn) [.own true (.inst (some u') 189 []),.val d₁,.val d₂,.val (.int a),.val (.int b),.no,.no] Lo
  (.next [.own true (.inst (some u') 189 (Ar ((a:Rat) / b))),.val d₁,.val d₂,.val (.int a),.val (.int b),.val (.int (fe a b)),.val (.int 0)]):=by
 have Ou:=Gh a hb;rw[show Ar ((a:Rat) / b)=([("denominator",.int (b.fdiv (fe a b))),("numerator",.int (a.fdiv (fe a b)))]:List (Str×D)) by rw[Ar,Ou.1,Ou.2]];have hz:b≠0:=u6 hb;have JA:0<fe a b:=Int.gcd_pos_of_ne_zero_right _ hz;have W3:fe a b≤b.natAbs:=Nat.le_of_dvd (Int.natAbs_pos.mpr hz) (Int.gcd_dvd_natAbs_right a b);have K8:((fe a b:Nat):Int)≠0:=Int.ofNat_ne_zero.mpr (dA JA);have UR:((fe a b:Nat):Int).natAbs<2^64:=b9 W3 (P8 (bL hb) (jE wH (by decide)));refine Ex.seq (bc.ite (p:=(b==0)) (Tr.cmp (Ev.nm 4 rfl rfl) Ev.int cC.Eg) (λ h=>absurd h (by simpa using hz)) λ z=>Ex.nil) ?_;refine Ex.seq (bc.ite (p:=decide (b<0)) (Tr.cmp (Ev.nm 4 rfl rfl) Ev.int cC.ltI) (λ h=>absurd h (by simp;exact bL hb)) λ z=>Ex.nil) ?_;refine Ex.seq (bc.asg 5 (Ev.nm 4 rfl rfl) rfl (od rfl) (od rfl)) ?_;refine Ex.seq (bc.asg 6 (Ev.bin (Ev.nm 3 rfl rfl) (Ev.nm 4 rfl rfl) (gH.xx hz)) rfl (od rfl) (od rfl)) ?_;have hf:=Cq (g:=a) hb;refine Ex.seq (bc.while (OW rfl rfl (od rfl) rfl _ b (a.fmod b) _ rfl rfl rfl hf.1 (Int.self_le_toNat _) hb)) ?_;rw[zI hb];refine Ex.seq (bc.put 0 (Ev.bin (Ev.nm 3 rfl rfl) (Ev.nm 5 rfl rfl) (gH.Pk K8 UR)) rfl rfl P.putN (by simp)) ?_;exact Ex.one (bc.put 0 (Ev.bin (Ev.nm 4 rfl rfl) (Ev.nm 5 rfl rfl) (gH.Pk K8 UR)) rfl rfl P.putD (by exact bB _))
theorem rM(P:fj c){a b:Int}(hb:0<b)(wH:b<2^64):mI c (n+2) (.ref 189) [.int a,.int b] [] (.inst none 189 (Ar ((a:Rat) / b))):=by
 refine eX P.QF λ u F p hp hc=>?_;refine iB P.QG λ t0 t1 hD=>?_;refine mI.make (vn:=Bn) (np:=2) [.pos 0,.pos 1] (ρ₁:= λ u=>[.own true (.inst (some u) 189 (Ar ((a:Rat) / b))),.val (.int a),.val (.int b),.val (.int a),.val (.int b),.val (.int (fe a b)),.val (.int 0)]) P.make P.xG P.Hp F (by kernel_rfl) (by kernel_rfl) rfl rfl ?_ ?_ ?_ ⟨_,rfl⟩
 ·intro s u' vs ks S hv hk;refine iB (xD hv) λ x y z1=>?_;subst z1;cases Bc hk;exact hD.binds S rfl rfl rfl
 ·intro L u';show Ex c n (mO (m5.fd (dQ 53) u) L 60 Bn) [.own true (.inst (some u') 189 []),.val (.int a),.val (.int b),.no,.no,.no,.no] _ _;refine Ex.seq (bc.ite (p:=false) (wK P (by kernel_rfl) (by kernel_rfl) (by kernel_rfl) (Ev.nm 1 rfl rfl) (Fn.oe P.L4)) (λ h=>by cases h) λ z=>Ex.nil) ?_;refine Ex.seq (bc.ite (p:=false) (wK P (by kernel_rfl) (by kernel_rfl) (by kernel_rfl) (Ev.nm 2 rfl rfl) (Fn.oe P.L4)) (λ h=>by cases h) λ z=>Ex.nil) ?_;refine Ex.seq (bc.asg 3 (Ev.nm 1 rfl rfl) rfl (od rfl) (od rfl)) ?_;refine Ex.seq (bc.asg 4 (Ev.nm 2 rfl rfl) rfl (od rfl) (od rfl)) ?_;refine Ex.seq (bc.ite (p:=false) (Tr.val (Ev.call (by kernel_rfl) P.lJ trivial (cn.cons (Ev.nm 1 rfl rfl) (cn.cons (Ev.gl (by kernel_rfl) P.sS) .nil)) .nil (Fn.jk P.Jo)) kA.bool) (λ h=>by cases h) λ z=>Ex.nil) ?_;refine Ex.seq (bc.ite (p:=false) (Tr.val (Ev.call (by kernel_rfl) P.lJ trivial (cn.cons (Ev.nm 2 rfl rfl) (cn.cons (Ev.gl (by kernel_rfl) P.sS) .nil)) .nil (Fn.jk P.Jo)) kA.bool) (λ h=>by cases h) λ z=>Ex.nil) ?_;refine Ex.seq (bc.ite (p:=false) (Tr.val (Ev.call (by kernel_rfl) P.lJ trivial (cn.cons (Ev.nm 1 rfl rfl) (cn.cons (Ev.gl (by kernel_rfl) P.sS) .nil)) .nil (Fn.jk P.Jo)) kA.bool) (λ h=>by cases h) λ z=>Ex.nil) ?_;exact Gi P hb wH
 ·intro u;exact⟨_,rfl,λ O h v fp r=>r.qG⟩
theorem oi(P:fj c)(a:Int):mI c (n+2) (.ref 189) [.int a] [] (.inst none 189 (Ar (a:Rat))):=by
 refine eX P.QF λ u F p hp hc=>?_;refine iB P.QG λ t0 t1 hD=>?_;have e:Ar (a:Rat)=Ar ((a:Rat) / ((1:Int):Rat)):=by
  congr 1;grind
 rw[e];refine mI.make (vn:=Bn) (np:=2) [.pos 0,.dI 1 t1] (ρ₁:= λ u=>[.own true (.inst (some u) 189 (Ar ((a:Rat) / ((1:Int):Rat)))),.val (.int a),.val (.int 1),.val (.int a),.val (.int 1),.val (.int (fe a 1)),.val (.int 0)]) P.make P.xG P.Hp F (by kernel_rfl) (by kernel_rfl) rfl rfl ?_ ?_ ?_ ⟨_,rfl⟩
 ·intro s u' vs ks S hv hk;refine xe (rE hv) λ x z1=>?_;subst z1;cases Bc hk;exact hD.binds S rfl rfl rfl
 ·intro L u';show Ex c n (mO (m5.fd (dQ 53) u) L 60 Bn) [.own true (.inst (some u') 189 []),.val (.int a),.val (.int 1),.no,.no,.no,.no] _ _;refine Ex.seq (bc.ite (p:=false) (wK P (by kernel_rfl) (by kernel_rfl) (by kernel_rfl) (Ev.nm 1 rfl rfl) (Fn.oe P.L4)) (λ h=>by cases h) λ z=>Ex.nil) ?_;refine Ex.seq (bc.ite (p:=false) (wK P (by kernel_rfl) (by kernel_rfl) (by kernel_rfl) (Ev.nm 2 rfl rfl) (Fn.oe P.L4)) (λ h=>by cases h) λ z=>Ex.nil) ?_;refine Ex.seq (bc.asg 3 (Ev.nm 1 rfl rfl) rfl (od rfl) (od rfl)) ?_;refine Ex.seq (bc.asg 4 (Ev.nm 2 rfl rfl) rfl (od rfl) (od rfl)) ?_;refine Ex.seq (bc.ite (p:=false) (Tr.val (Ev.call (by kernel_rfl) (fj.lJ P) trivial (cn.cons (Ev.nm 1 rfl rfl) (cn.cons (Ev.gl (by kernel_rfl) (fj.sS P)) .nil)) .nil (Fn.jk (fj.Jo P))) kA.bool) (λ h=>by cases h) λ z=>Ex.nil) ?_;refine Ex.seq (bc.ite (p:=false) (Tr.val (Ev.call (by kernel_rfl) (fj.lJ P) trivial (cn.cons (Ev.nm 2 rfl rfl) (cn.cons (Ev.gl (by kernel_rfl) (fj.sS P)) .nil)) .nil (Fn.jk (fj.Jo P))) kA.bool) (λ h=>by cases h) λ z=>Ex.nil) ?_;refine Ex.seq (bc.ite (p:=false) (Tr.val (Ev.call (by kernel_rfl) (fj.lJ P) trivial (cn.cons (Ev.nm 1 rfl rfl) (cn.cons (Ev.gl (by kernel_rfl) (fj.sS P)) .nil)) .nil (Fn.jk (fj.Jo P))) kA.bool) (λ h=>by cases h) λ z=>Ex.nil) ?_;exact Gi P (by decide) (by decide)
 ·intro u;exact⟨_,rfl,λ O h v fp r=>r.qG⟩
theorem DB(P:fj c){q:Rat}{b:Int}(hb:0<b)(hq:(q.den:Int)<2^32)(wH:b<2^32):mI c (n+2) (.ref 189) [eL q,.int b] [] (.inst none 189 (Ar (q / (b:Rat)))):=by
 refine eX P.QF λ u F p hp hc=>?_;refine iB P.QG λ t0 t1 hD=>?_;have hd:(0:Int)<q.den:=by have:=q.den_pos;exact cA.mpr this
 have h0:0<b*(q.den:Int):=qR hb hd;have h1:b*(q.den:Int)<2^64:=by
  have:=Int.mul_lt_mul wH (bL hq) hd (by decide);exact this
 have e:Ar (q / (b:Rat))=Ar ((q.num:Rat) / ((b*(q.den:Int):Int):Rat)):=by
  congr 1
  have Yo:((q.den:Int):Rat)≠0:=by
   intro h;have:=oy.mp h;lia
  have Yr:(b:Rat)≠0:=by
   intro h;have:=oy.mp h;lia
  have WA:q=(q.num:Rat) / ((q.den:Int):Rat):=by
   rw[← u_,Rat.num_divInt_den]
  rw[bH]
  conv=>lhs;rw[WA]
  grind
 rw[e];refine mI.make (vn:=Bn) (np:=2) [.pos 0,.pos 1] (ρ₁:= λ u=>[.own true (.inst (some u) 189 (Ar ((q.num:Rat) / ((b*(q.den:Int):Int):Rat)))),.val (eL q),.val (.int b),.val (.int q.num),.val (.int (b*(q.den:Int))),.val (.int (fe q.num (b*(q.den:Int)))),.val (.int 0)]) P.make P.xG P.Hp F (by kernel_rfl) (by kernel_rfl) rfl rfl ?_ ?_ ?_ ⟨_,rfl⟩
 ·intro s u' vs ks S hv hk;refine iB (xD hv) λ x y z1=>?_;subst z1;cases Bc hk;exact hD.binds S rfl rfl rfl
 ·intro L u';show Ex c n (mO (m5.fd (dQ 53) u) L 60 Bn) [.own true (.inst (some u') 189 []),.val (eL q),.val (.int b),.no,.no,.no,.no] _ _;refine Ex.seq (bc.ite (p:=false) (wK P (by kernel_rfl) (by kernel_rfl) (by kernel_rfl) (Ev.nm 1 rfl rfl) (Fn.Dk P.own P.Uh)) (λ h=>by cases h) λ z=>Ex.nil) ?_;refine Ex.seq (bc.ite (p:=false) (wK P (by kernel_rfl) (by kernel_rfl) (by kernel_rfl) (Ev.nm 2 rfl rfl) (Fn.oe P.L4)) (λ h=>by cases h) λ z=>Ex.nil) ?_;refine Ex.seq (bc.asg 3 (Ev.nm 1 rfl rfl) rfl (od rfl) (od rfl)) ?_;refine Ex.seq (bc.asg 4 (Ev.nm 2 rfl rfl) rfl (od rfl) (od rfl)) ?_;refine Ex.seq (bc.ite (p:=true) (Tr.val (Ev.call (by kernel_rfl) (fj.lJ P) trivial (cn.cons (Ev.nm 1 rfl rfl) (cn.cons (Ev.gl (by kernel_rfl) (fj.sS P)) .nil)) .nil (Fn.gm (fj.own P) (fj.Jp P))) kA.bool) (λ z=>Ex.one (bc.asg 3 (Ev.attr (Ev.nm 1 rfl rfl) P.Eh rfl) rfl (od rfl) (od rfl))) (λ h=>by cases h)) ?_;refine Ex.seq (bc.ite (p:=false) (Tr.val (Ev.call (by kernel_rfl) (fj.lJ P) trivial (cn.cons (Ev.nm 2 rfl rfl) (cn.cons (Ev.gl (by kernel_rfl) (fj.sS P)) .nil)) .nil (Fn.jk (fj.Jo P))) kA.bool) (λ h=>by cases h) λ z=>Ex.nil) ?_;refine Ex.seq (bc.ite (p:=true) (Tr.val (Ev.call (by kernel_rfl) (fj.lJ P) trivial (cn.cons (Ev.nm 1 rfl rfl) (cn.cons (Ev.gl (by kernel_rfl) (fj.sS P)) .nil)) .nil (Fn.gm (fj.own P) (fj.Jp P))) kA.bool) (λ z=>Ex.one (bc.asg 4 (Ev.bin (Ev.nm 4 rfl rfl) (Ev.attr (Ev.nm 1 rfl rfl) P.Bw rfl) (gH.nD (by exact cz _) (by exact L6 hq rfl))) rfl (od rfl) (od rfl))) (λ h=>by cases h)) ?_;exact Gi P h0 h1
 ·intro u;exact⟨_,rfl,λ O h v fp r=>r.qG⟩
end
theorem t6(q:Rat):q=(q.num:Rat) / ((q.den:Int):Rat):=by rw[← u_,Rat.num_divInt_den]
theorem den_pos(q:Rat):(0:Int)<q.den:=by have:=q.den_pos;exact cA.mpr this
theorem uM(q:Rat):((q.den:Int):Rat)≠0:= λ h=>by
 have:=oy.mp h;have:=den_pos q;lia
theorem HM(q:Rat)(i:Int):((q.num+i*(q.den:Int):Int):Rat) / ((q.den:Int):Rat)=q+i:=by
 have h:=uM q;have e:=t6 q;rw[fQ,bH]
 grind
theorem Ko(q r:Rat):((q.num*(r.den:Int)+r.num*(q.den:Int):Int):Rat) / (((q.den:Int)*(r.den:Int):Int):Rat)=q+r:=by
 have h:=uM q;have h':=uM r;have e:=t6 q;have e':=t6 r;rw[fQ,bH,bH,bH]
 grind
theorem HL(q:Rat)(i:Int):((q.num*i:Int):Rat) / ((q.den:Int):Rat)=q*i:=by
 have h:=uM q;have e:=t6 q;rw[bH]
 grind
section
variable {c:Cx}{n:Nat}
noncomputable abbrev A8:List Str:=["self","other"]
theorem oE{d:FD}{u:rU}(hd:∀s v w,iy s (d.fd .none u) ⟨[v,w],[]⟩ [("self",v),("other",w)]){x y:D}:∀s vs ks,bF c s→vs.length=[x,y].length→ks.map (·.1)=(fO (·.1) ([]:List (Str×D)))→iy s (d.fd .none u) ⟨vs,ks⟩ ((A8.take 2).zip ([Src.pos 0,Src.pos 1].map (·.val vs ks))):=by
 intro s vs ks z hv hk;obtain⟨a,b,rfl⟩:=xD hv;cases Bc hk;exact hd s a b
theorem xO(q:Rat):(Ar q).all (λ p=>p.2.flat)=true:=rfl
theorem Gj(P:fj c){q:Rat}{i:Int}(hq:(q.den:Int)<2^64):rX c (n+3) .Add (eL q) (.int i) (eL (q+i)):=by
 refine eX P.Lv λ u F p hp hc=>?_;refine rX.Jq (f:=102) P.rT (mI.Tf (u:=none) ?_ (xO _));refine mI.of (vn:=A8) (np:=2) [.pos 0,.pos 1] F (by kernel_rfl) (by kernel_rfl) rfl rfl (oE λ s v w=>.of_eq (by kernel_rfl)) λ L=>?_;refine Ex.stop (bc.ite (p:=true) (Tr.val (Ev.call (by kernel_rfl) (fj.lJ P) trivial (cn.cons (Ev.nm 1 rfl rfl) (cn.cons (Ev.gl (by kernel_rfl) (fj.xN P)) .nil)) .nil (Fn.jk (fj.KR P))) kA.bool) (λ z=>Ex.one (bc.qv (gF.call (by kernel_rfl) P.sS P.keep (cn.cons (Ev.bin (Ev.attr (Ev.nm 0 rfl rfl) P.Eh rfl) (Ev.bin (Ev.nm 1 rfl rfl) (Ev.attr (Ev.nm 0 rfl rfl) P.Bw rfl) (gH.nD (by have:=den_pos q;exact cz _) hq)) gH.rT) (cn.cons (Ev.attr (Ev.nm 0 rfl rfl) P.Bw rfl) .nil)) .nil ?_))) (λ h=>by cases h)) rfl;have:=rM (n:=n) P (a:=q.num+i*(q.den:Int)) (den_pos q) hq;rwa[HM]at this
theorem Lr(P:fj c){q r:Rat}(hq:(q.den:Int)<2^32)(hr:(r.den:Int)<2^32):rX c (n+3) .Add (eL q) (eL r) (eL (q+r)):=by
 refine eX P.Lv λ u F p hp hc=>?_;have h1:=den_pos q;have h2:=den_pos r;have h3:(q.den:Int)*(r.den:Int)<2^64:=by
  have:=Int.mul_lt_mul hq (bL hr) h2 (by decide);exact this
 refine rX.inst (f:=102) P.PS (mI.Tf (u:=none) ?_ (xO _));refine mI.of (vn:=A8) (np:=2) [.pos 0,.pos 1] F (by kernel_rfl) (by kernel_rfl) rfl rfl (oE λ s v w=>.of_eq (by kernel_rfl)) λ L=>?_;refine Ex.seq (bc.ite (p:=false) (Tr.val (Ev.call (by kernel_rfl) (fj.lJ P) trivial (cn.cons (Ev.nm 1 rfl rfl) (cn.cons (Ev.gl (by kernel_rfl) (fj.xN P)) .nil)) .nil (Fn.gm (fj.own P) (fj.Nu P))) kA.bool) (λ h=>by cases h) λ z=>Ex.nil) ?_;refine Ex.stop (bc.ite (p:=true) (Tr.val (Ev.call (by kernel_rfl) (fj.lJ P) trivial (cn.cons (Ev.nm 1 rfl rfl) (cn.cons (Ev.gl (by kernel_rfl) (fj.sS P)) .nil)) .nil (Fn.gm (fj.own P) (fj.Jp P))) kA.bool) (λ z=>Ex.one (bc.qv (gF.call (by kernel_rfl) P.sS P.keep (cn.cons (Ev.bin (Ev.bin (Ev.attr (Ev.nm 0 rfl rfl) P.Eh rfl) (Ev.attr (Ev.nm 1 rfl rfl) P.Bw rfl) (gH.nD (by exact cz _) (by exact L6 hr rfl))) (Ev.bin (Ev.attr (Ev.nm 1 rfl rfl) P.Eh rfl) (Ev.attr (Ev.nm 0 rfl rfl) P.Bw rfl) (gH.nD (by lia) (by lia))) gH.rT)
  (cn.cons (Ev.bin (Ev.attr (Ev.nm 0 rfl rfl) P.Bw rfl) (Ev.attr (Ev.nm 1 rfl rfl) P.Bw rfl) (gH.nD (by lia) (by lia))) .nil)) .nil ?_))) (λ h=>by cases h)) rfl
 have:=rM (n:=n) P (a:=q.num*(r.den:Int)+r.num*(q.den:Int)) (qR h1 h2) h3;rwa[Ko]at this
theorem Lq(P:fj c){q:Rat}{i:Int}(hq:(q.den:Int)<2^64)(hi: -2^64<i)(Du:i<2^64):rX c (n+3) .Mult (eL q) (.int i) (eL (q*i)):=by
 refine eX P.Pe λ u F p hp hc=>?_;refine rX.Jq (f:=130) P.nD (mI.Tf (u:=none) ?_ (xO _));refine mI.of (vn:=A8) (np:=2) [.pos 0,.pos 1] F (by kernel_rfl) (by kernel_rfl) rfl rfl (oE λ s v w=>.of_eq (by kernel_rfl)) λ L=>?_;refine Ex.stop (bc.ite (p:=true) (Tr.val (Ev.call (by kernel_rfl) (fj.lJ P) trivial (cn.cons (Ev.nm 1 rfl rfl) (cn.cons (Ev.gl (by kernel_rfl) (fj.xN P)) .nil)) .nil (Fn.jk (fj.KR P))) kA.bool) (λ z=>Ex.one (bc.qv (gF.call (by kernel_rfl) P.sS P.keep (cn.cons (Ev.bin (Ev.attr (Ev.nm 0 rfl rfl) P.Eh rfl) (Ev.nm 1 rfl rfl) (gH.nD hi Du)) (cn.cons (Ev.attr (Ev.nm 0 rfl rfl) P.Bw rfl) .nil)) .nil ?_))) (λ h=>by cases h)) rfl;have:=rM (n:=n) P (a:=q.num*i) (den_pos q) hq;rwa[HL]at this
theorem Tb(P:fj c){q r:Rat}(hq:(q.den:Int)<2^64)(hr:(r.den:Int)<2^64):cC c (n+1) .Lt (eL q) (eL r) (decide (q<r)):=by
 refine eX P.Pc λ u F p hp hc=>?_;have h1:=den_pos q;have h2:=den_pos r;refine cC.inst (f:=165) P.Uc ?_;rw[show decide (q<r)=decide (q.num*(r.den:Int)<r.num*(q.den:Int))from decide_eq_decide.mpr (Rat.lt_iff q r)];refine Fn.of (vn:=A8) (np:=2) [.pos 0,.pos 1] F (by kernel_rfl) (by kernel_rfl) rfl rfl (oE λ s v w=>.of_eq (by kernel_rfl)) λ L=>?_;refine Ex.seq (bc.ite (p:=false) (Tr.val (Ev.call (by kernel_rfl) (fj.lJ P) trivial (cn.cons (Ev.nm 1 rfl rfl) (cn.cons (Ev.gl (by kernel_rfl) (fj.xN P)) .nil)) .nil (Fn.gm (fj.own P) (fj.Nu P))) kA.bool) (λ h=>by cases h) λ z=>Ex.nil) ?_;exact Ex.stop (bc.ite (p:=true) (Tr.val (Ev.call (by kernel_rfl) (fj.lJ P) trivial (cn.cons (Ev.nm 1 rfl rfl) (cn.cons (Ev.gl (by kernel_rfl) (fj.sS P)) .nil)) .nil (Fn.gm (fj.own P) (fj.Jp P))) kA.bool) (λ z=>Ex.one (bc.ret (Ev.cmp (Ev.bin (Ev.attr (Ev.nm 0 rfl rfl) P.Eh rfl) (Ev.attr (Ev.nm 1 rfl rfl) P.Bw rfl) (gH.nD (by lia) (by exact hr))) (Ev.bin (Ev.attr (Ev.nm 1 rfl rfl) P.Eh rfl) (Ev.attr (Ev.nm 0 rfl rfl) P.Bw rfl) (gH.nD (by lia) (by lia))) cC.ltI))) (λ h=>by cases h)) rfl
theorem Tc(P:fj c){q r:Rat}(hq:(q.den:Int)<2^64)(hr:(r.den:Int)<2^64):cC c (n+1) .LtE (eL q) (eL r) (decide (q≤r)):=by
 refine eX P.Pb λ u F p hp hc=>?_;have h1:=den_pos q;have h2:=den_pos r;refine cC.inst (f:=172) P.Ud ?_;rw[show decide (q≤r)=decide (q.num*(r.den:Int)≤r.num*(q.den:Int))from decide_eq_decide.mpr (Rat.le_iff q r)];refine Fn.of (vn:=A8) (np:=2) [.pos 0,.pos 1] F (by kernel_rfl) (by kernel_rfl) rfl rfl (oE λ s v w=>.of_eq (by kernel_rfl)) λ L=>?_;refine Ex.seq (bc.ite (p:=false) (Tr.val (Ev.call (by kernel_rfl) (fj.lJ P) trivial (cn.cons (Ev.nm 1 rfl rfl) (cn.cons (Ev.gl (by kernel_rfl) (fj.xN P)) .nil)) .nil (Fn.gm (fj.own P) (fj.Nu P))) kA.bool) (λ h=>by cases h) λ z=>Ex.nil) ?_;exact Ex.stop (bc.ite (p:=true) (Tr.val (Ev.call (by kernel_rfl) (fj.lJ P) trivial (cn.cons (Ev.nm 1 rfl rfl) (cn.cons (Ev.gl (by kernel_rfl) (fj.sS P)) .nil)) .nil (Fn.gm (fj.own P) (fj.Jp P))) kA.bool) (λ z=>Ex.one (bc.ret (Ev.cmp (Ev.bin (Ev.attr (Ev.nm 0 rfl rfl) P.Eh rfl) (Ev.attr (Ev.nm 1 rfl rfl) P.Bw rfl) (gH.nD (by lia) (by lia))) (Ev.bin (Ev.attr (Ev.nm 1 rfl rfl) P.Eh rfl) (Ev.attr (Ev.nm 0 rfl rfl) P.Bw rfl) (gH.nD (by lia) (by lia))) cC.Ro))) (λ h=>by cases h)) rfl
end
section
set_option backward.match.sparseCases false
section
variable {c:Cx}{n:Nat}
theorem Ib.weak{tg:Expr}{d:D}{Ds Vu:List D→Prop}(h:Ib c n tg d Ds)(k:∀ds,Ds ds→Vu ds):Ib c n tg d Vu:= λ A O s v R K r=>wm (h A O s v R K r) λ it s' q=>by
 refine nP q ?_;clear q;intro g S ds hd hi;exact⟨g,S,ds,k ds hd,hi⟩
structure jL(c:Cx)(n:Nat)(d:D)(xs:List Nat):Prop where
 set:sW c n (.type "set") [d] xs
 len:Fn c n (.builtin "len") [d] [] (.int xs.length)
 it:∀(m:Nat) (tg:Expr),Ib c m tg d λ ds=>∃ys:List Nat,ys.Perm xs∧ds=D.nats ys
theorem jL.lst{xs:List Nat}(hx:xs.Sublist [0,1,2,3]):jL c (n+6) (.lst (D.nats xs)) xs:=by
 have h4:=hx.length_le;simp only[aJ,dp]at h4;have hl:(D.nats xs).length=xs.length:=aE ..;refine⟨sW.lst hx,?_,λ m tg=>(Ib.list (tg:=tg)).weak λ ds h=>⟨xs,.refl _,h⟩⟩
 ·have:=Fn.la (c:=c) (n:=n+6) (ds:=D.nats xs) (by exact vi hl h4 rfl);rwa[hl]at this
theorem jL.tup{xs:List Nat}(hx:xs.Sublist [0,1,2,3]):jL c (n+6) (.tup (D.nats xs)) xs:=by
 have h4:=hx.length_le;simp only[aJ,dp]at h4;have hl:(D.nats xs).length=xs.length:=aE ..;refine⟨sW.tup hx,?_,λ m tg=>(Ib.tuple (tg:=tg)).weak λ ds h=>⟨xs,.refl _,h⟩⟩
 ·have:=Fn.xB (c:=c) (n:=n+6) (ds:=D.nats xs) (by lia);rwa[hl]at this
theorem jL.dm{xs:List Nat}:jL c (n+6) (.dm xs) xs:=⟨sW.dm,Fn.y6,λ m tg=>Ib.dm⟩
noncomputable def i8(g:Int→D):D→Option D
 |.int i=>some (g i)
 |_=>none
theorem fC(g:Int→D):∀ys:List Nat,(D.nats ys).filterMap (i8 g)=ys.map λ (y:Nat)=>g (y:Int)
 |[]=>rfl
 |y::ys=>by
  rw[show D.nats (y::ys)=D.int (y:Int)::D.nats ys from rfl,bz (f:=i8 g) (b:=g (y:Int)) rfl,fC g ys];rfl
noncomputable def mz:Option Nat→D
 |some m=>.int (m:Int)
 |none=>.none
noncomputable abbrev LD:List Str:=["candidates","num_cand","approved","cand"]
theorem wW(P:kc c)(G:PG c){d:D}{xs:List Nat}{o:Option Nat}(H:jL c (n+3) d xs)(ho:∀m,o=some m→∀x∈xs,x<m){u:rU}{p:Addr×Addr}(hp:p∈c.tabs)(hc:u.code=.ref p.1)(L:Addr):
  Ex c (n+3) (mO (Cu.fd (.ref 23) u) L 30 LD) [.val d,.val (mz o),.no,.no] Cu.body (.qv (.dm xs)):=by
 refine Ex.seq (bc.lh 2 (gF.call (by kernel_rfl) G.set trivial (cn.cons (Ev.nm 0 rfl rfl) .nil) .nil H.set.o) rfl (od rfl) (od rfl)) ?_;refine Ex.seq (bc.ite (p:=((xs.length:Int)!=(xs.length:Int))) (Tr.cmp (Ev.call (by kernel_rfl) G.len trivial (cn.cons (Ev.nm 0 rfl rfl) .nil) .nil H.len) (Ev.tU 2 rfl rfl rfl (Ev.call (by kernel_rfl) G.len trivial (cn.cons (Ev.nm 2 rfl rfl) .nil) .nil Fn.y6)) cC.KC) (λ h=>absurd h (by simp)) λ j=>Ex.nil) ?_;refine Ex.seq (ρ':=[.val d,.val (mz o),.own true (.dm xs),.no]) (bc.for (kd.of (Ev.nm 0 rfl rfl) (H.it _ _)) λ ds hd=>?_) ?_
 ·obtain⟨ys,uy,rfl⟩:=hd;refine Lp.each 3 rfl (od rfl) rfl _ λ d' iQ=>?_;refine jw iQ λ y hy=>?_;exact Ex.one (bc.ite (p:=false) (Tr.not (Tr.val (Ev.call (by kernel_rfl) G.RB trivial (cn.cons (Ev.nm 3 rfl rfl) (cn.cons (Ev.gl (by kernel_rfl) G.int) .nil)) .nil (Fn.jk G.KR)) kA.bool)) (λ h=>by cases h) λ j=>Ex.nil)
 refine Ex.seq (bc.ite (p:=false) (Tr.not (b:=true) (Tr.val (Ev.zT (m:=n+2) (tg:=.Name "x" default) (by kernel_rfl) G.all trivial (Hf.mk (n:=n) (tn:=["cand"]) (ix:=[]) (by kernel_rfl) rfl (i8 λ i=>.bool (decide (0≤i))) (kd.of (Ev.nm 0 rfl rfl) (H.it _ _)) hp hc λ ds hd C code d' iQ=>?_) (by exact bq _) λ eK ho=>?_) kA.bool)) (λ h=>by cases h) λ j=>Ex.nil) ?_
 ·obtain⟨ys,uy,rfl⟩:=hd;refine jw iQ λ y hy=>?_;exact El.nm 0 rfl (od rfl) rfl λ z hz=>by
   cases hz;exact(Ev.cmp (Ev.nm 0 rfl rfl) Ev.int cC.Vc).flat rfl
 ·obtain⟨ds,⟨ys,uy,rfl⟩,rfl⟩:=ho;rw[fC,show(ys.map λ (y:Nat)=>D.bool (decide (0≤(y:Int))))=(ys.map λ j=>true).map D.bool by simp];have:=yb.all (c:=c) (x:="x") (p:=default) (bs:=ys.map λ j=>true) (az (n+2));rwa[show(ys.map λ j=>true).all id=true by simp]at this
 refine Ex.seq (bc.ite (p:=((!(mz o).isNone)&&false)) (Tr.qN (Tr.cmp (Ev.nm 1 rfl rfl) Ev.lF (cC.vK (by cases o<;>rfl))) λ hn=>Tr.val (Ev.zT (m:=n+2) (tg:=.Name "x" default) (by kernel_rfl) G.any trivial (Hf.mk (n:=n) (tn:=["cand"]) (ix:=[1]) (by kernel_rfl) rfl (i8 λ i=>.bool false) (kd.of (Ev.nm 0 rfl rfl) (H.it _ _)) hp hc λ ds hd C code d' iQ=>?_) (by omega) λ eK ho=>?_) kA.bool) (λ h=>by simp at h) λ j=>Ex.nil) ?_
 ·obtain⟨ys,uy,rfl⟩:=hd;refine jw iQ λ y hy=>?_;obtain⟨m,rfl⟩:∃m,o=some m:=by cases o with|none=>exact absurd hn (by decide)|some m=>exact⟨m,rfl⟩
  exact El.nm 0 rfl (od rfl) rfl λ z hz=>by
   cases hz;have gE:=ho m rfl y (uy.mem_iff.mp hy);have:=cC.Vc (c:=c) (n:=n) (a:=(y:Int)) (b:=(m:Int));rw[show decide ((m:Int)≤(y:Int))=false by simp;omega]at this;exact(Ev.cmp (Ev.nm 0 rfl rfl) (Ev.nm 1 rfl rfl) this).flat rfl
 ·obtain⟨ds,⟨ys,uy,rfl⟩,rfl⟩:=ho;rw[fC,show(ys.map λ j=>D.bool false)=(ys.map λ j=>false).map D.bool by simp];have:=yb.any (c:=c) (x:="x") (p:=default) (bs:=ys.map λ j=>false) (az (n+2));rwa[show(ys.map λ j=>false).any id=false by simp]at this
 exact Ex.one (bc.Ra 2 rfl rfl)
theorem DG(P:kc c)(G:PG c){d:D}{xs:List Nat}(H:jL c (n+3) d xs):mI c (n+4) (.ref 30) [d] [] (.dm xs):=by
 refine eX P.Th λ u F p hp hc=>?_;refine xe P.TB λ v hD=>?_;refine mI.of (vn:=LD) (np:=2) [.pos 0,.dN] F (by kernel_rfl) (by kernel_rfl) rfl rfl ?_ λ L=>?_
 ·intro s vs ks S hv hk;refine xe (rE hv) λ x z1=>?_;subst z1;cases Bc hk;exact hD.binds S rfl rfl rfl
 ·exact wW P G (o:=none) H (λ m h=>by cases h) hp hc L
theorem Bs(P:kc c)(G:PG c){d:D}{xs:List Nat}{o:Option Nat}(H:jL c (n+3) d xs)(ho:∀m,o=some m→∀x∈xs,x<m):mI c (n+4) (.ref 30) [d] [("num_cand",mz o)] (.dm xs):=by
 obtain⟨u,F,p,hp,hc⟩:=P.Th;obtain⟨v,hD⟩:=P.TB;refine mI.of (vn:=LD) (np:=2) [.pos 0,.kw 0] F (by kernel_rfl) (by kernel_rfl) rfl rfl ?_ λ L=>?_
 ·intro s vs ks S hv hk;obtain⟨x,rfl⟩:=rE hv;obtain⟨y,rfl⟩:=Qc hk;exact hD.binds S rfl rfl rfl
 ·exact wW P G H ho hp hc L
theorem mI.Te{f:ag}{ds:List D}{kws:List (Str×D)}{xs:List Nat}(h:mI c n f ds kws (.dm xs)):P2 c n f ds kws (.dm xs):= λ A O s vs ks R K r r'=>
 wm (h A O s vs ks R K r r') λ v s' q=>by
  refine eE q ?_;clear q;intro fp g S r jx;refine⟨g,S,λ O' Dy=>?_⟩;refine lB r ?_;clear r;intro a ts m z1 zh;refine cg zh ?_;clear zh;intro z2 e hl hx;subst z1;subst z2;exact⟨a,ts,m,rfl,λ hb=>ak _ (ab (Dy a hb) (jx a (.head _)).1),e,hl,hx⟩
end
end
section
set_option backward.match.sparseCases false
noncomputable def strsOf(xs:List Nat):List Str:=xs.map λ (x:Nat)=>(toString (x:Int):Str)
noncomputable def keyOf(xs:List Nat):Str:=("{":Str)++Txt.join (", ":Str) (strsOf xs)++("}":Str)
theorem Hw:∀xs∈kJ,sortedS (strsOf xs)=true∧JoinOk (", ":Str) (strsOf xs)=true∧Str.length ("{":Str)+(Txt.join (", ":Str) (strsOf xs)).length≤1000∧((("{":Str)++Txt.join (", ":Str) (strsOf xs)).length+Str.length ("}":Str))≤1000:=by decide +kernel
section
variable {c:Cx}{n:Nat}
theorem Perm.strsOf{ys xs:List Nat}(h:ys.Perm xs):(strsOf xs).Perm (strsOf ys):=(h.symm.map _)
theorem EH(P:kc c)(G:PG c){xs:List Nat}(hx:xs.Sublist [0,1,2,3]):Fn c (n+5) (.ref 45) [.dm xs] [] (.str (keyOf xs)):=by
 obtain⟨u,F,p,hp,hc⟩:=P.Vf;obtain⟨h1,h2,h3,QD⟩:=Hw xs (oD hx);have h4:=hx.length_le;simp only[aJ,dp]at h4;refine Fn.of (vn:=["candset","cand_names","named"]) (np:=2) [.pos 0,.dN] F (by kernel_rfl) (by kernel_rfl) rfl rfl ?_ λ L=>?_
 ·intro s vs ks S hv hk;obtain⟨x,rfl⟩:=rE hv;cases Bc hk;exact P.Vp.binds S rfl rfl rfl
 ·show Ex c (n+4) (mO (Gw.fd (.ref 38) u) L 45 ["candset","cand_names","named"]) [.val (.dm xs),.val .none,.no] _ _;refine Ex.seq (bc.ite (p:=true) (Tr.cmp (Ev.nm 1 rfl rfl) Ev.lF (cC.Ny rfl)) (λ j=>Ex.one (bc.asg 2 (Ev.zT (m:=n+2) (tg:=.Name "x" default) (by kernel_rfl) G.sorted trivial (Hf.mk (n:=n) (tn:=["cand"]) (ix:=[]) (by kernel_rfl) rfl (i8 λ i=>.str (toString i)) (kd.of (Ev.nm 0 rfl rfl) Ib.dm) hp hc λ ds hd C code d' iQ=>?_) (by exact eS (bq _)) λ eK ho=>(?_:yb c (n+4) (n+2) _ _ eK (.lst ((strsOf xs).map D.str)))) rfl (od rfl) (od rfl))) (λ h=>by cases h)) ?_
  ·obtain⟨ys,uy,rfl⟩:=hd;refine jw iQ λ y hy=>?_;have Wi:y∈[0,1,2,3]:=hx.subset (uy.mem_iff.mp hy);exact El.nm 0 rfl (od rfl) rfl λ z hz=>by
    cases hz;exact(Ev.call (by kernel_rfl) G.str trivial (cn.cons (Ev.nm 0 rfl rfl) .nil) .nil (Fn.str ((by decide:∀y∈[0,1,2,3],((y:Nat):Int).natAbs<2^60) y Wi))).flat rfl
  ·obtain⟨ds,⟨ys,uy,rfl⟩,rfl⟩:=ho;rw[fC,show(ys.map λ (y:Nat)=>D.str (toString (y:Int)))=(strsOf ys).map D.str by simp[strsOf,bK]];have hl:(strsOf ys).length≤4:=by rw[strsOf,aE,uy.length_eq];exact h4
   exact yb.sorted (n:=n+2) (az _) (by rw[aE];exact rF hl rfl) (vR.strs (by exact LZ hl rfl) (Perm.strsOf uy) h1)
  ·refine Ex.one (bc.ret (Ev.bin (Ev.bin Ev.nA (Ev.join Ev.nA (Ev.nm 2 rfl rfl) h2) (gH.PQ h3)) Ev.nA (gH.PQ QD)))
noncomputable def natOf:D→Option Nat
 |.int i=>some i.toNat
 |_=>none
theorem pD:∀xs:List Nat,(D.nats xs).filterMap natOf=xs
 |[]=>rfl
 |x::xs=>by
  rw[show D.nats (x::xs)=D.int (x:Int)::D.nats xs from rfl,bz (f:=natOf) (b:=x) rfl,pD xs]
noncomputable def Cy:D→Option D
 |.dm xs=>some (.dm xs)
 |.lst ds=>some (.dm (ds.filterMap natOf))
 |.tup ds=>some (.dm (ds.filterMap natOf))
 |_=>none
theorem wX{mk:List Nat→D}(h:∀xs,Cy (mk xs)=some (.dm xs)):∀cs:List (List Nat),(cs.map mk).filterMap Cy=cs.map D.dm
 |[]=>rfl
 |x::xs=>by rw[a_,bz (h x),wX h xs,a_]
theorem xl(P:kc c)(G:PG c){mk:List Nat→D}{css:List (List Nat)}{d:D}(UD:∀xs,Cy (mk xs)=some (.dm xs))(hC:∀xs∈css,jL c (n+6) (mk xs) xs)(hi:∀(m:Nat) (tg:Expr),Ib c m tg d λ ds=>∃cs:List (List Nat),cs.Perm css∧ds=cs.map mk)(hx:∀xs∈css,xs.Sublist [0,1,2,3])(hs:css.Pairwise λ x y=>strLt (keyOf x) (keyOf y)=true)(h6:css.length≤6):Fn c (n+12) (.ref 37) [d] [] (.lst (css.map D.dm)):=by
 obtain⟨u,F,p,hp,hc⟩:=P.Vg;refine Fn.of (vn:=["committees"]) (np:=1) [.pos 0] F (by kernel_rfl) (by kernel_rfl) rfl rfl ?_ λ L=>?_
 ·intro s vs ks S hv hk;obtain⟨x,rfl⟩:=rE hv;cases Bc hk;exact .of_eq (by kernel_rfl)
 ·show Ex c (n+11) (mO (uN.fd .none u) L 37 ["committees"]) [.val d] _ _;refine Ex.one (bc.ret (Ev.LG (m:=n+9) (tg:=.Name "x" default) (u:=.ref 45) (by kernel_rfl) G.sorted trivial (Hf.mk (n:=n+7) (tn:=["committee"]) (ix:=[]) (by kernel_rfl) rfl Cy (kd.of (Ev.nm 0 rfl rfl) (hi _ _)) hp hc λ ds hd C code d' iQ=>?_) (by exact eS (bq _)) (by kernel_rfl) P.OU λ eK ho=>?_))
  ·obtain⟨cs,Lb,rfl⟩:=hd;refine jw iQ λ xs Js=>?_;have hm:=Lb.mem_iff.mp Js;rw[UD xs];exact El.nm 0 rfl (od rfl) rfl λ z hz=>by
    cases hz;exact xZ.call (by kernel_rfl) P.gC P.kC (cn.cons (Ev.nm 0 rfl rfl) .nil) .nil (DG P G (hC xs hm)).Te
  ·obtain⟨ds,⟨cs,Lb,rfl⟩,rfl⟩:=ho;rw[wX UD];have Va:cs.length≤6:=by rw[Lb.length_eq];exact h6
   exact IY.sorted (n:=n+9) (az _) (by rw[aE];exact rF Va rfl) (vR.Nr (n:=n+8) (f:=D.dm) (key:=keyOf) [] Lb.symm hs Va λ x wA=>EH P G (n:=n+3) (hx x (Lb.mem_iff.mp wA)))
end
end
noncomputable def Hm(w:Int)(xs:List Nat):List (Str×D):=[("weight",.int w),("approved",.dm xs)]
noncomputable abbrev ly(v:Int×List Nat):D:=.inst 600 (Hm v.1 v.2)
noncomputable def Ks(n:Nat):List (Str×D):=[("cand_names",.lst ((ay n).map λ (i:Nat)=>D.str (toString (i:Int)))),("candidates",.lst (D.nats (ay n)))]
noncomputable abbrev pb(n:Nat)(vs:List (Int×List Nat)):D:=.inst 563 (("_voters",.lst (vs.map ly))::Ks n)
section
variable {c:Cx}{n:Nat}
noncomputable abbrev J1:List Str:=["self","approved","weight","num_cand"]
theorem kA.none:kA c n .none false:= λ A O s v R K r=>by
 subst r;exact cU (t:=truthy .none) (a:=false) (by first|rfl|kernel_rfl) ⟨rfl,.refl ..,K.br⟩
theorem BR(P:iD c)(PC:kc c)(G:PG c){d:D}{xs:List Nat}{o:Option Nat}{w:Int}(H:jL c (n+3) d xs)(ho:∀m,o=some m→∀x∈xs,x<m)(hw:0<w){u:rU}(L u':Addr):
  Ex c (n+4) (mO (m4.fd (.ref 575) u) L 582 J1) [.own true (.inst (some u') 600 []),.val d,.val (.int w),.val (mz o)] m4.body (.next [.own true (.inst (some u') 600 (Hm w xs)),.val d,.val (.int w),.val (mz o)]):=by
 refine Ex.seq (bc.put 0 (Ev.call (by kernel_rfl) PC.gC PC.kC (cn.cons (Ev.nm 1 rfl rfl) .nil) (ov.cons (Ev.nm 3 rfl rfl) .nil) ((Bs PC G H ho).fn rfl)) rfl rfl P.MV (by simp)) ?_;refine Ex.seq (bc.put 0 (Ev.nm 2 rfl rfl) rfl rfl P.MT (by exact bB _)) ?_;exact Ex.one (bc.ite (p:=decide (w≤0)) (Tr.cmp (Ev.Py 0 rfl rfl P.PB rfl) Ev.int cC.Ro) (λ h=>absurd h (by simp;omega)) λ z=>Ex.nil)
theorem Hl(P:iD c)(PC:kc c)(G:PG c){d:D}{xs:List Nat}{w:Int}(H:jL c (n+3) d xs)(hw:0<w):mI c (n+6) (.ref 600) [d] [("weight",.int w)] (.inst none 600 (Hm w xs)):=by
 obtain⟨u,F,p,hp,hc⟩:=P.Ls;obtain⟨t,hD⟩:=P.LA;refine mI.make (vn:=J1) (np:=3) [.pos 0,.kw 0,.dN] (ρ₁:= λ u'=>[.own true (.inst (some u') 600 (Hm w xs)),.val d,.val (.int w),.val (mz none)]) P.Fh P.FG P.Eu F (by kernel_rfl) (by kernel_rfl) rfl rfl ?_ ?_ ?_ ⟨_,rfl⟩
 ·intro s u' vs ks S hv hk;obtain⟨x,rfl⟩:=rE hv;obtain⟨y,rfl⟩:=Qc hk;exact hD.binds S rfl rfl rfl
 ·intro L u';exact BR P PC G (o:=none) H (λ m h=>by cases h) hw L u'
 ·intro u;exact⟨_,rfl,λ O h v fp r=>r.qG⟩
theorem Er(P:iD c)(PC:kc c)(G:PG c){d:D}{xs:List Nat}{w:Int}{m:Nat}(H:jL c (n+3) d xs)(ho:∀x∈xs,x<m)(hw:0<w):mI c (n+6) (.ref 600) [d] [("weight",.int w),("num_cand",.int (m:Int))] (.inst none 600 (Hm w xs)):=by
 refine eX P.Ls λ u F p hp hc=>?_;refine xe P.LA λ t hD=>?_;refine mI.make (vn:=J1) (np:=3) [.pos 0,.kw 0,.kw 1] (ρ₁:= λ u'=>[.own true (.inst (some u') 600 (Hm w xs)),.val d,.val (.int w),.val (mz (some m))]) P.Fh P.FG P.Eu F (by kernel_rfl) (by kernel_rfl) rfl rfl ?_ ?_ ?_ ⟨_,rfl⟩
 ·intro s u' vs ks S hv hk;refine xe (rE hv) λ x z1=>?_;subst z1;refine iB (Rp hk) λ y z z1=>?_;subst z1;exact hD.binds S rfl rfl rfl
 ·intro L u';exact BR P PC G (o:=some m) H (λ m' h=>by cases h;exact ho) hw L u'
 ·intro u;exact⟨_,rfl,λ O h v fp r=>r.qG⟩
theorem C4:∀m:Nat,qu 0 (m:Int)=(ay m).map λ (i:Nat)=>(i:Int):= λ m=>by
 unfold qu;rw[show((m:Int) -0).toNat=m by rfl];exact ck λ i z=>by exact Int.zero_add _
theorem HG(m:Nat):(qu 0 (m:Int)).map D.int=D.nats (ay m):=by rw[C4,bK];rfl
noncomputable abbrev MW:List Str:=["self","num_cand","cand_names"]
theorem HO(P:iD c)(G:PG c){m:Nat}(h0:0<m)(h4:m≤4):mI c (n+3) (.ref 563) [.int (m:Int)] [] (.ka none 563 (Ks m) "_voters" []):=by
 refine eX P.O5 λ u F p hp hc=>?_;refine mI.make (n:=n+1) (vn:=MW) (np:=2) [.pos 0,.dN] (ρ₁:= λ u'=>[.own true (.ka (some u') 563 (Ks m) "_voters" []),.val (.int (m:Int)),.val .none]) P.Jj P.Jr P.I3 F (by kernel_rfl) (by kernel_rfl) rfl rfl ?_ ?_ ?_ ⟨_,rfl⟩
 ·intro s u' vs ks S hv hk;refine xe (rE hv) λ x z1=>?_;subst z1;cases Bc hk;exact P.Pp.binds S rfl rfl rfl
 ·intro L u';show Ex c (n+1) (mO (rQ.fd (.ref 449) u) L 454 MW) [.own true (.inst (some u') 563 []),.val (.int (m:Int)),.val .none] _ _;refine Ex.seq (bc.ite (p:=decide ((m:Int)≤0)) (Tr.cmp (Ev.nm 1 rfl rfl) Ev.int cC.Ro) (λ h=>absurd h (by simp;exact dA h0)) λ j=>Ex.nil) ?_;have hr:Fn c (n+1) (.type "list") [.D5 0 (m:Int)] [] (.lst (D.nats (ay m))):=by
   have:=Fn.Fq (c:=c) (n:=n+1) (a:=0) (b:=(m:Int)) (by decide) (by decide) (by exact cz _) (by exact RH h4 rfl);rwa[show D.ints (qu 0 (m:Int))=D.nats (ay m)from HG m]at this
  refine Ex.seq (bc.put 0 (Ev.call (by kernel_rfl) G.list trivial (cn.cons (Ev.call (by kernel_rfl) G.range trivial (cn.cons (Ev.nm 1 rfl rfl) .nil) .nil Fn.A5) .nil) .nil hr) rfl rfl P.MU (by simp)) ?_;refine Ex.seq (bc.put 0 (d:=.lst ((ay m).map λ (i:Nat)=>D.str (toString (i:Int)))) (gF.ev (q:=.lst ((ay m).map λ (i:Nat)=>D.str (toString (i:Int)))) ?_ rfl) rfl rfl P.putN (by exact bB _)) ?_
  ·rw[← fC λ i=>D.str (toString i)];refine gF.comp (tn:=["cand"]) (ix:=[]) (by kernel_rfl) (ds:=D.nats (ay m)) (i8 λ i=>.str (toString i)) (kd.of (Ev.call (by kernel_rfl) G.range trivial (cn.cons (Ev.nm 1 rfl rfl) .nil) .nil Fn.A5) (by rw[← HG];exact Ib.range (by decide) (by decide) (by lia) (by lia))) (by simp[D.nats];exact af h4 (aG _ _)) λ C d' iQ=>?_;refine jw iQ λ y hy=>?_;have hy:=aM.mp hy;exact El.nm 0 rfl (od rfl) rfl λ z hz=>by
    cases hz;exact Ev.call (by kernel_rfl) G.str trivial (cn.cons (Ev.nm 0 rfl rfl) .nil) .nil (Fn.str (by exact G3 hy h4 rfl))
  refine Ex.seq (bc.putL 0 (gF.lst .nil) rfl rfl P.Jf (by simp)) ?_;exact Ex.one (bc.ite (p:=false) (Tr.val (Ev.nm 2 rfl rfl) kA.none) (λ h=>by cases h) λ j=>Ex.nil)
 ·intro u;exact⟨_,rfl,λ O h v fp r=>r.Cb⟩
theorem yU(P:iD c)(G:PG c){m:Nat}{vs:List (Int×List Nat)}(h4:m≤4):P4 c (n+1) 461 [pb m vs] (.int (m:Int)):=by
 refine eX P.O4 λ u F p hp hc=>?_;refine P4.of (vn:=["self"]) (np:=1) F (by kernel_rfl) (by kernel_rfl) rfl ?_ λ L=>?_
 ·intro s vs S hv;refine xe (rE hv) λ x z1=>?_;subst z1;exact .of_eq (by kernel_rfl)
 ·have:=Fn.la (c:=c) (n:=n) (ds:=D.nats (ay m)) (by simp[D.nats];lia);rw[show((D.nats (ay m)).length:Int)=(m:Int) by simp[D.nats]]at this;exact Ex.one (bc.ret (Ev.call (by kernel_rfl) G.len trivial (cn.cons (Ev.attr (Ev.nm 0 rfl rfl) P.Cw rfl) .nil) .nil this))
theorem A7(P:iD c)(G:PG c){m:Nat}{vs:List (Int×List Nat)}(h:vs.length≤900):Fn c (n+2) (.builtin "len") [pb m vs] [] (.int (vs.length:Int)):=by
 refine eX P.O3 λ u F p hp hc=>?_;refine Fn.Ft P.Ni P.Nj ?_ (by exact cz _) (by exact Wc h rfl);refine Fn.of (vn:=["self"]) (np:=1) [.pos 0] F (by kernel_rfl) (by kernel_rfl) rfl rfl ?_ λ L=>?_
 ·intro s vs ks S hv hk;refine xe (rE hv) λ x z1=>?_;subst z1;cases Bc hk;exact .of_eq (by kernel_rfl)
 ·have:=Fn.la (c:=c) (n:=n) (ds:=vs.map ly) (by simp;exact af h (aG _ _));rw[show((vs.map ly).length:Int)=(vs.length:Int) by simp]at this;exact Ex.one (bc.ret (Ev.call (by kernel_rfl) G.len trivial (cn.cons (Ev.attr (Ev.nm 0 rfl rfl) P.GJ rfl) .nil) .nil this))
theorem uniq(P:iD c)(PC:kc c)(G:PG c){m:Nat}{vs:List (Int×List Nat)}{w:Int}{xs:List Nat}(h4:m≤4)(hw:0<w)(ho:∀x∈xs,x<m):Fn c (n+10) (.ref 483) [pb m vs,.inst 600 (Hm w xs)] [] (.inst 600 (Hm w xs)):=by
 refine eX P.O2 λ u F p hp hc=>?_;refine xe P.E3 λ pr KY=>?_;refine Fn.of (vn:=["self","voter","_voter"]) (np:=2) [.pos 0,.pos 1] F (by kernel_rfl) (by kernel_rfl) rfl rfl ?_ λ L=>?_
 ·intro s vs ks S hv hk;refine iB (xD hv) λ x y z1=>?_;subst z1;cases Bc hk;exact .of_eq (by kernel_rfl)
 ·show Ex c (n+9) (mO (Gv.fd .none u) L 483 ["self","voter","_voter"]) [.val (pb m vs),.val (.inst 600 (Hm w xs)),.no] _ _;refine Ex.seq (bc.ite (p:=true) (Tr.val (Ev.call (by kernel_rfl) G.RB trivial (cn.cons (Ev.nm 1 rfl rfl) (cn.cons (Ev.gl (by kernel_rfl) P.gV) .nil)) .nil (Fn.gm P.M1 P.Ug)) kA.bool) (λ z=>Ex.one (bc.asg 2 (Ev.call (by kernel_rfl) P.gV P.kV (cn.cons (Ev.attr (Ev.nm 1 rfl rfl) P.LJ rfl) .nil) (ov.cons (Ev.attr (Ev.nm 1 rfl rfl) P.PB rfl) (ov.cons (Ev.prop (Ev.nm 0 rfl rfl) KY (yU (n:=n+7) P G h4)) .nil)) ((Er (n:=n+3) P PC G jL.dm ho hw).fn rfl)) rfl (od rfl) (od rfl))) (λ h=>by cases h)) ?_;exact Ex.one (bc.ret (Ev.nm 2 rfl rfl))
end
noncomputable def pM:FD:=defAt 6
section
variable {c:Cx}{n:Nat}
theorem Td(P:fj c){q r:Rat}:cC c (n+1) .Eq (eL q) (eL r) (decide (q=r)):=by
 refine eX P.Pd λ u F p hp hc=>?_;refine cC.inst (f:=158) P.Vi ?_;have e:decide (q=r)=((q.num==r.num)&&((q.den:Int)==(r.den:Int))):=by
  by_cases h:q=r
  ·subst h;simp
  ·rw[decide_eq_false h]
   symm
   rw[Bool.and_eq_false_iff]
   by_cases hn:q.num=r.num
   ·right;simp only[beq_eq_false_iff_ne,ne_eq];intro hd;exact h (Rat.ext hn (by exact vX hd))
   ·left;simpa using hn
 rw[e];refine Fn.of (vn:=A8) (np:=2) [.pos 0,.pos 1] F (by kernel_rfl) (by kernel_rfl) rfl rfl (oE λ s v w=>.of_eq (by kernel_rfl)) λ L=>?_;refine Ex.seq (bc.ite (p:=false) (Tr.val (Ev.call (by kernel_rfl) (fj.lJ P) trivial (cn.cons (Ev.nm 1 rfl rfl) (cn.cons (Ev.gl (by kernel_rfl) (fj.xN P)) .nil)) .nil (Fn.gm (fj.own P) (fj.Nu P))) kA.bool) (λ h=>by cases h) λ z=>Ex.nil) ?_;exact Ex.stop (bc.ite (p:=true) (Tr.val (Ev.call (by kernel_rfl) (fj.lJ P) trivial (cn.cons (Ev.nm 1 rfl rfl) (cn.cons (Ev.gl (by kernel_rfl) (fj.sS P)) .nil)) .nil (Fn.gm (fj.own P) (fj.Jp P))) kA.bool) (λ z=>Ex.one (bc.ret (Ev.TK (Ev.cmp (Ev.attr (Ev.nm 0 rfl rfl) P.Eh rfl) (Ev.attr (Ev.nm 1 rfl rfl) P.Eh rfl) cC.Eg) λ z=>Ev.cmp (Ev.attr (Ev.nm 0 rfl rfl) P.Bw rfl) (Ev.attr (Ev.nm 1 rfl rfl) P.Bw rfl) cC.Eg))) (λ h=>by cases h)) rfl
theorem vN(P:fj c)(H:FnAt c 441 rR .none){q:Rat}{b:Int}(hb:0<b)(hq:(q.den:Int)<2^32)(wH:b<2^32):mI c (n+3) (.ref 441) [eL q,.int b] [] (.inst none 189 (Ar (q / (b:Rat)))):=by
 refine eX H ?_;clear H;intro u F p hp hc;refine mI.of (vn:=["x","y"]) (np:=2) [.pos 0,.pos 1] F (by kernel_rfl) (by kernel_rfl) rfl rfl ?_ λ L=>?_
 ·intro s vs ks z hv hk;refine iB (xD hv) λ a b z1=>?_;subst z1;cases Bc hk;exact .of_eq (by kernel_rfl)
 ·exact Ex.one (bc.qv (gF.call (by kernel_rfl) P.sS P.keep (cn.cons (Ev.nm 0 rfl rfl) (cn.cons (Ev.nm 1 rfl rfl) .nil)) .nil (DB P hb hq wH)))
noncomputable def lV:Option Rat→D
 |none=>.int 0
 |some a=>eL a
noncomputable def pS:Option Rat→Rat
 |none=>0
 |some a=>a
noncomputable def nz:List Rat→Option Rat→Option Rat
 |[],a=>a
 |q::qs,a=>nz qs (some (q+pS a))
noncomputable def zZ:List Rat→Option Rat→Prop
 |[],_=>True
 |q::qs,a=>(q.den:Int)<2^32∧((pS a).den:Int)<2^32∧zZ qs (some (q+pS a))
noncomputable def xd:Expr:=pJ pM.body 1
noncomputable def IM:List Stmt:=nF pM.body 1
theorem LO(P:fj c){q:Rat}{a:Option Rat}(h1:(q.den:Int)<2^32)(h2:((pS a).den:Int)<2^32):gH c (n+3) .Add (eL q) (lV a) (eL (q+pS a)):=by
 cases a with
 |none=>
  have:=(Gj (c:=c) (n:=n) P (q:=q) (i:=0) (by exact L6 h1 rfl)).bin;rwa[show((0:Int):Rat)=0 from rfl]at this
 |some a=>exact(Lr P h1 h2).bin
theorem AJ(P:fj c)(H:FnAt c 200 pM .none){m:Nat}{qs:List Rat}(hm:m≤n+3)(ho:zZ qs none):yb c (n+4) m (.ref 200) xd (qs.map eL) (lV (nz qs none)):=by
 refine eX H ?_;clear H;intro u F p hp hc;refine yb.of (vn:=["values","result","value"]) F (by kernel_rfl) rfl (λ s v z=>.of_eq (by kernel_rfl)) hm λ L it=>?_;show IZ c (n+3) (mO (pM.fd .none u) L 200 ["values","result","value"]) [.val (.lit it),.no,.no] _ _ _ _ _;refine IZ.seq (bc.asg 1 Ev.int rfl (od rfl) (od rfl)) ?_;refine IZ.for (ρ':=[.val (.lit it),.val (lV (nz qs none)),.no]) (Ev.nm 0 rfl rfl) ?_ (Ex.one (bc.ret (Ev.nm 1 rfl rfl)));have key:∀(qs:List Rat) (a:Option Rat),zZ qs a→Lp c (n+3) (mO (pM.fd .none u) L 200 ["values","result","value"]) [.val (.lit it),.val (lV a),.no] xd IM (qs.map eL) (.next [.val (.lit it),.val (lV (nz qs a)),.no]):=by
  intro qs
  induction qs with
  |nil=>intro a z;exact Lp.nil
  |cons q qs ih=>
   intro a h;refine Lp.step (ρ'':=[.val (.lit it),.val (lV (some (q+pS a))),.no]) (ju.name 2 rfl (od rfl) (od rfl)) ?_ (ih _ h.2.2);refine Ex.weak (ρ₁:=[.val (.lit it),.val (lV (some (q+pS a))),.val (eL q)]) ?_ (cy.set (ρ:=[.val (.lit it),.val (lV (some (q+pS a))),.no]) (i:=2) rfl);exact Ex.one (bc.asg 1 (Ev.ite (p:=true) (d₂:=.none) (Tr.val (Ev.call (by kernel_rfl) (fj.lJ P) trivial (cn.cons (Ev.nm 2 rfl rfl) (cn.cons (Ev.gl (by kernel_rfl) (fj.sS P)) .nil)) .nil (Fn.gm (fj.own P) (fj.Jp P))) kA.bool) (λ z=>Ev.bin (Ev.nm 2 rfl rfl) (Ev.nm 1 rfl rfl) (LO P h.1 h.2.1)) (λ h=>by cases h)) rfl (od rfl) (od rfl))
 exact key qs none ho
end
noncomputable def uO:FD:=defAt 33
noncomputable abbrev Row:=List Nat×Int
noncomputable abbrev iH(r:Row):D:=.tup [.lst (D.nats r.1),.int r.2]
noncomputable def dX(rows:List Row):List (Int×List Nat):=rows.map λ r=>(r.2,r.1)
noncomputable def CA(m:Nat)(r:Row):Prop:=r.1.Sublist [0,1,2,3]∧(∀x∈r.1,x<m)∧0<r.2∧r.2≤12
section
variable {c:Cx}{n:Nat}
theorem Dg(P:iD c)(PC:kc c)(G:PG c)(H:FnAt c 611 uO .none){m:Nat}{rows:List Row}(h0:0<m)(h4:m≤4)(hr:∀r∈rows,CA m r)(hl:rows.length≤100):Fn c (n+12) (.ref 611) [.int (m:Int),.lst (rows.map iH)] [] (pb m (dX rows)):=by
 refine eX H ?_;clear H;intro u F p hp hc;refine eX P.O1 λ u2 F2 p2 Yl Dx=>?_;refine Fn.of (vn:=["n","rows","made","ballot","weight"]) (np:=2) [.pos 0,.pos 1] F (by kernel_rfl) (by kernel_rfl) rfl rfl ?_ λ L=>?_
 ·intro s vs ks z hv hk;refine iB (xD hv) λ a b z1=>?_;subst z1;cases Bc hk;exact .of_eq (by kernel_rfl)
 ·show Ex c (n+11) (mO (uO.fd .none u) L 611 ["n","rows","made","ballot","weight"]) [.val (.int (m:Int)),.val (.lst (rows.map iH)),.no,.no,.no] _ _;refine Ex.seq (bc.lh 2 (gF.call (by kernel_rfl) P.gP P.kP (cn.cons (Ev.nm 0 rfl rfl) .nil) .nil (HO (n:=n+8) P G h0 h4)) rfl (od rfl) (od rfl)) ?_;have key:∀(rs:List Row) (vs:List (Int×List Nat)),(∀r∈rs,CA m r)→vs.length+rs.length≤200→Lp c (n+11) (mO (uO.fd .none u) L 611 ["n","rows","made","ballot","weight"]) [.val (.int (m:Int)),.val (.lst (rows.map iH)),.own true (.ka none 563 (Ks m) "_voters" (vs.map ly)),.no,.no]
    (pJ uO.body 1) (nF uO.body 1) (rs.map iH) (.next [.val (.int (m:Int)),.val (.lst (rows.map iH)),.own true (.ka none 563 (Ks m) "_voters" ((vs++dX rs).map ly)),.no,.no]):=by
   intro rs
   induction rs with
   |nil=>intro vs z z;rw[show vs++dX []=vs by simp[dX]];exact Lp.nil
   |cons r rs ih=>
    intro vs Uu hz;have Ma:=Uu r (.head _);rw[show vs++dX (r::rs)=(vs++[(r.2,r.1)])++dX rs by simp[dX]];refine Lp.step (CR 3 4 rfl (od rfl) (od rfl) rfl (od rfl) (od rfl)) ?_ (ih (vs++[(r.2,r.1)]) (λ r' h=>Uu r' (.tail _ h)) (by simp at hz⊢;exact JQ hz rfl));refine Ex.weak (ρ₁:=[.val (.int (m:Int)),.val (.lst (rows.map iH)),.own true (.ka none 563 (Ks m) "_voters" ((vs.map ly)++[ly (r.2,r.1)])),.val (.lst (D.nats r.1)),.val (.int r.2)]) (Ex.one ?_) ?_
    ·exact bc.TL (n:=n+10) 2 (Ev.call (by kernel_rfl) P.gV P.kV (cn.cons (Ev.nm 3 rfl rfl) .nil) (ov.cons (Ev.nm 4 rfl rfl) .nil) ((Hl (n:=n+5) P PC G (jL.lst (n:=n+2) Ma.1) Ma.2.2.1).fn rfl)) rfl rfl P.Nf rfl F2 (by kernel_rfl) rfl (λ s v w z=>.of_eq (by kernel_rfl)) rfl
      (λ L'=>Ev.Nc (Ev.nm 0 rfl rfl) P.Jk rfl (cn.cons (Ev.nm 1 rfl rfl) .nil) .nil (uniq (n:=n) (vs:=vs) P PC G h4 Ma.2.2.1 Ma.2.1)) P.GJ (by simp at hz⊢;exact GV hz rfl) (by decide) rfl
    ·rw[ia,a_,jY];exact cy.HB (ρ:=[.val (.int (m:Int)),.val (.lst (rows.map iH)),.own true (.ka none 563 (Ks m) "_voters" ((vs.map ly)++[ly (r.2,r.1)])),.no,.no]) (i:=3) (j:=4) rfl rfl
  refine Ex.seq (bc.for (kd.of (Ev.nm 1 rfl rfl) Ib.list) λ ds hd=>(by subst hd;exact key rows [] hr (by simp;exact af hl (aG _ _)))) ?_;refine Ex.freeze 2 rfl rfl rfl ?_;exact Ex.one (bc.ret (Ev.nm 2 rfl rfl))
end
section
set_option backward.match.sparseCases false
noncomputable def nr:FD:=defAt 34
noncomputable def qr(p:Nat→Bool):D→Option D
 |.int i=>if p i.toNat then some (.int i)else none
 |_=>none
theorem lz(p:Nat→Bool):∀xs:List Nat,(D.nats xs).filterMap (qr p)=D.nats (xs.filter p)
 |[]=>rfl
 |x::xs=>by
  rw[show D.nats (x::xs)=D.int (x:Int)::D.nats xs from rfl];cases h:p x with
  |true=>rw[bz (f:=qr p) (b:=.int (x:Int)) (by simp[qr,h]),bZ (by simpa using h),lz p xs];rfl
  |false=>rw[eI (f:=qr p) (by simp[qr,h]),b0 (by simp[h]),lz p xs]
section
variable {c:Cx}{n:Nat}{E:VE}{ρ:List Sl}
theorem Cr{p:Nat→Bool}{x:Nat}{y:Str}{q:Pos}{e elt:Expr}(hx:E.vn[0]? =some y)(hk:0<E.k)(dP:ρ[0]? =some .no)(t:Tr c n E (ρ.set 0 (.val (.int (x:Int)))) e (p x))(h:Ev c n E (ρ.set 0 (.val (.int (x:Int)))) elt (.int (x:Int))):
  El c n E ρ (.Name y q) [e] (.int (x:Int)) (qr p (.int (x:Int))).isSome λ ρ'=>∀z,qr p (.int (x:Int))=some z→Ev c n E ρ' elt z:=by
 have e1:(qr p (.int (x:Int))).isSome=p x:=by cases h:p x<;>simp[qr,h]
 rw[e1];refine El.Fa 0 hx hk dP t λ hp z hz=>?_;have:z=.int (x:Int):=by simp[qr,hp]at hz;exact hz.symm
 subst this;exact h
theorem wO{g:Int→D}{x:Nat}{y:Str}{q:Pos}{elt:Expr}(hx:E.vn[0]? =some y)(hk:0<E.k)(dP:ρ[0]? =some .no)(h:Ev c n E (ρ.set 0 (.val (.int (x:Int)))) elt (g (x:Int))):
  El c n E ρ (.Name y q) [] (.int (x:Int)) (i8 g (.int (x:Int))).isSome λ ρ'=>∀z,i8 g (.int (x:Int))=some z→Ev c n E ρ' elt z:=
 El.nm 0 hx hk dP λ z hz=>by cases hz;exact h
theorem mem_cast{x:Nat}{xs:List Nat}:decide ((x:Int)∈xs.map λ (x:Nat)=>(x:Int))=decide (x∈xs):=by
 refine decide_eq_decide.mpr ⟨λ h=>?_,λ h=>aL.mpr ⟨x,h,rfl⟩⟩;refine c0 (aL.mp h) λ a ha e=>?_;have:a=x:=by exact vX e
 exact this▸ha
theorem cC.M8{x:Nat}{xs:List Nat}(hn:1≤n):cC c n .NotIn (.int (x:Int)) (.tup (D.nats xs)) (!decide (x∈xs)):=by
 have:=cC.M9 (c:=c) (x:=(x:Int)) (xs:=xs.map λ (x:Nat)=>(x:Int)) hn;rw[← dW]at this;rwa[mem_cast]at this
theorem cC.H_{x:Nat}{xs:List Nat}(hn:1≤n):cC c n .In (.int (x:Int)) (.lst (D.nats xs)) (decide (x∈xs)):=by
 have:=cC.RF (c:=c) (x:=(x:Int)) (xs:=xs.map λ (x:Nat)=>(x:Int)) hn;rw[← dW]at this;rwa[mem_cast]at this
theorem cC.Ri{xs:List Nat}(hn:1≤n):cC c n .NotEq (.lst (D.nats xs)) (.lst []) (!xs.isEmpty):=by
 have:=cC.KB (c:=c) (xs:=xs.map λ (x:Nat)=>(x:Int)) (ys:=[]) hn;rw[← dW]at this;rw[show(!decide ((xs.map λ (x:Nat)=>(x:Int))=[]))= !xs.isEmpty by cases xs<;>rfl]at this;exact this
end
noncomputable def fI(m:Nat)(done:List Nat):List Nat:=(ay m).filter λ x=> !decide (x∈done)
noncomputable def jo(rows:List Row)(i:Nat):List Nat:=(rows.getD i ([],0)).1
noncomputable def weight(rows:List Row)(i:Nat):Int:=(rows.getD i ([],0)).2
noncomputable def cW(rows:List Row)(x:Nat):List Nat:=(ay rows.length).filter λ i=>decide (x∈jo rows i)
noncomputable def fY(rows:List Row)(purse:List Int)(unit:Int)(x:Nat):Int:=unit-((cW rows x).map λ i=>purse.getD i 0).sum
noncomputable def eY(rows:List Row)(x:Nat):Int:=((cW rows x).map λ i=>weight rows i).sum
noncomputable def fM(rows:List Row)(m:Nat)(done:List Nat)(purse:List Int)(unit:Int):List (Int×Int×Nat):=
 ((fI m done).filter λ x=> !(cW rows x).isEmpty).map λ x=>(fY rows purse unit x,eY rows x,x)
noncomputable abbrev St:=Nat×List Int×Int
noncomputable def kQ(rows:List Row)(purse:List Int)(n_ n5:Int)(x:Nat):List Int:=(ay rows.length).map λ i=>if x∈jo rows i then 0 else purse.getD i 0*n5+weight rows i*n_
noncomputable def Gk(rows:List Row)(purse:List Int)(unit:Int)(rh:List (Int×Int×Nat)):List St:=
 (rh.filter λ t=>(rh.filter λ o=>decide (o.1*t.2.1<t.1*o.2.1)).isEmpty).map λ t=>(t.2.2,kQ rows purse t.1 t.2.1 t.2.2,unit*t.2.1)
noncomputable def jJ(rows:List Row)(m:Nat)(done:List Nat)(purse:List Int)(unit:Int):List St:=
 if fM rows m done purse unit=[]then(fI m done).map λ x=>(x,purse,unit)else Gk rows purse unit (fM rows m done purse unit)
noncomputable abbrev CV(t:St):D:=.tup [.int (t.1:Int),.lst (D.ints t.2.1),.int t.2.2]
noncomputable abbrev An(t:Int×Int×Nat):D:=.tup [.int t.1,.int t.2.1,.int (t.2.2:Int)]
noncomputable abbrev HW:List Str:=["rows","n","done","purse","unit","left","wanted","cand","backers","found","lack","pace","after"]
section
variable {c:Cx}{n:Nat}
theorem gj{d:D}{xs:List Nat}(h:d∈D.nats xs):∃x,x∈xs∧d=.int (x:Int):=by
 obtain⟨y,hy,rfl⟩:=aL.mp h;exact⟨y,hy,rfl⟩
theorem rq{E:VE}{ρ:List Sl}(G:PG c){m:Nat}(hm:m≤900){p1 p3:Pos}{e tg:Expr}(hr:E.env.kindOf "range"=some .globalImplicit)(h:Ev c n E ρ e (.int (m:Int)))(hp:autoParam ((starEach [e] E.env).any (·.1)=false) rf)(hs:∀env,starEach (e::[]) env=(false,eval e env)::starEach [] env:=by intros;rfl):
  kd c n E ρ (.Call (.Name "range" p1) [e] [] p3) tg (· =D.nats (ay m)):=
 kd.of (Ev.call hr G.range trivial (cn.cons h .nil hs) .nil Fn.A5 rfl hp) (by rw[← HG];exact Ib.range (by decide) (by decide) (by exact of_decide_eq_true rfl) (by exact RH hm rfl))
theorem rowAt{rows:List Row}{i:Nat}(h:i<rows.length):(rows.map iH)[((i:Nat):Int).toNat]? =some (.tup [.lst (D.nats (jo rows i)),.int (weight rows i)]):=by
 show(rows.map iH)[i]? =_;rw[bU,aq h];simp[jo,weight,ai,aq h]
theorem intAt{xs:List Int}{i:Nat}(h:i<xs.length):(D.ints xs)[((i:Nat):Int).toNat]? =some (.int (xs.getD i 0)):=by
 show(xs.map D.int)[i]? =_;rw[bU,aq h];simp[ai,aq h]
theorem Nk{E:VE}{ρ:List Sl}(G:PG c){rows:List Row}(hl:rows.length≤3){p1 p3:Pos}{x:Str}{p:Pos}(hr:E.env.kindOf "len"=some .globalImplicit)(h:Ev c n E ρ (.Name x p) (.lst (rows.map iH))):Ev c n E ρ (.Call (.Name "len" p1) [.Name x p] [] p3) (.int (rows.length:Int)):=by
 have:=Fn.la (c:=c) (n:=n) (ds:=rows.map iH) (by simp;exact af hl (aG _ _));rw[show((rows.map iH).length:Int)=(rows.length:Int) by simp]at this;exact Ev.call hr G.len trivial (cn.cons h .nil) .nil this
theorem uU{rows:List Row}{x i:Nat}(h:i∈cW rows x):i<rows.length:=aM.mp (aN.mp h).1
theorem pC(g:Int→Int)(xs:List Nat):(D.nats xs).filterMap (i8 λ i=>.int (g i))=D.ints (xs.map λ (x:Nat)=>g (x:Int)):=by
 rw[fC];simp[D.ints]
structure BC(rows:List Row)(purse:List Int)(unit:Int):Prop where
 l:rows.length≤3
 lp:purse.length=rows.length
 w:∀r∈rows,0<r.2∧r.2≤12
 p:∀q∈purse,0≤q∧q<2^36
 u:0<unit∧unit<2^36
theorem BC.pa{rows:List Row}{purse:List Int}{unit:Int}(K:BC rows purse unit)(i:Nat):0≤purse.getD i 0∧purse.getD i 0<2^36:=by
 rw[ai];cases h:purse[i]? with
 |none=>trivial
 |some q=>exact K.p q (bw h)
theorem BC.wa{rows:List Row}{purse:List Int}{unit:Int}(K:BC rows purse unit)(i:Nat):0≤weight rows i∧weight rows i≤12:=by
 unfold weight;rw[ai];cases h:rows[i]? with
 |none=>trivial
 |some q=>have:=K.w q (bw h);exact⟨by simpa using bL this.1,by simpa using this.2⟩
theorem cC.Vh{W:List (Int×Int×Nat)}(hn:1≤n):cC c n .Eq (.lst (W.map An)) (.lst []) W.isEmpty:=
 (show(PyData.list (W.map λ t=>.tuple [.int t.1,.int t.2.1,.int (t.2.2:Int)])).eqv (.list [])=W.isEmpty by cases W<;>rfl)▸
  cC.Vj (D.Qs.lst (D.Qs.map λ t z=>D.Qs.tup (.cons .int (.cons .int (.cons .int .nil))))) (D.Qs.lst .nil) hn
theorem cy.nil{ρ:List Sl}:cy [] ρ:= λ i=>.inl (by rfl)
theorem cy.cons{a b:Sl}{ρ ρ':List Sl}(h:a=.no∨a=b)(t:cy ρ ρ'):cy (a::ρ) (b::ρ'):= λ i=>by
 cases i with
 |zero=>exact h
 |succ i=>exact t i
theorem v_{b:Int}(hb:0≤b):∀l:List Int,(∀y∈l,0≤y∧y≤b)→0≤l.sum∧l.sum≤b*(l.length:Int)
 |[],_=>by simp
 |y::l,h=>by
  have h1:=h y (.head _);have h2:=v_ hb l λ z hz=>h z (.tail _ hz);rw[rY,aJ,x_,Int.mul_add,oZ y];exact⟨Int.add_nonneg h2.1 h1.1,Int.add_le_add h2.2 ((Int.mul_one b).symm▸h1.2)⟩
theorem AL{b:Int}(hb:0≤b){l:List Int}(h:∀y∈l,0≤y∧y≤b)(hl:l.length≤3):0≤l.sum∧l.sum≤b*3:=
 have q:=v_ hb l h
 ⟨q.1,d9 q.2 (Int.mul_le_mul_of_nonneg_left (ki.mpr hl) hb)⟩
theorem CN{rows:List Row}{m:Nat}{done:List Nat}{purse:List Int}{unit:Int}(K:BC rows purse unit):∀t∈fM rows m done purse unit,-2^40<t.1∧t.1<2^40∧0≤t.2.1∧t.2.1≤36:= λ t ht=>by
 refine jw ht λ x hx=>?_;have hb:(cW rows x).length≤3:=af (bG _ _) (by simpa using K.l);have h1:=AL (b:=2^36) (by decide) (l:=(cW rows x).map λ i=>purse.getD i 0) (λ y hy=>jw hy λ i z=>⟨(K.pa i).1,bL (K.pa i).2⟩) (by rw[aE];exact hb);have h2:=AL (b:=12) (by decide) (l:=(cW rows x).map λ i=>weight rows i) (λ y hy=>jw hy λ i z=>K.wa i) (by rw[aE];exact hb);have hu:=K.u;refine⟨?_,?_,h2.1,h2.2⟩
 ·exact jE (by decide: -(2:Int) ^40<0-2^36*3) (Int.sub_le_sub (bL hu.1) h1.2)
 ·exact b_ (Int.sub_le_self _ h1.1) (kj hu.2 (by decide))
noncomputable def MB:D→List D
 |.tup ds=>ds
 |_=>[]
noncomputable def NB:D→Int
 |.int i=>i
 |_=>0
noncomputable def wy(n_ n5:Int)(d:D):Option D:=if NB ((MB d).getD 0 .none)*n5<n_*NB ((MB d).getD 1 .none)then some (.int 1)else none
theorem rC(n_ n5:Int):∀W:List (Int×Int×Nat),(W.map An).filterMap (wy n_ n5)=D.ints ((W.filter λ o=>decide (o.1*n5<n_*o.2.1)).map λ z=>1)
 |[]=>rfl
 |t::W=>by
  rw[a_]
  by_cases h:t.1*n5<n_*t.2.1
  ·rw[bz (f:=wy n_ n5) (a:=An t) (b:=.int 1) (if_pos h),bZ (by simpa using h),rC n_ n5 W];rfl
  ·rw[eI (f:=wy n_ n5) (a:=An t) (if_neg h),b0 (by simpa using h),rC n_ n5 W]
set_option maxHeartbeats 4000000 in
theorem De(G:PG c)(H:FnAt c 616 nr .none){m:Nat}{rows:List Row}{done:List Nat}{purse:List Int}{unit:Int}(hm:m≤4)(K:BC rows purse unit):
  Fn c (n+10) (.ref 616) [.lst (rows.map iH),.int (m:Int),.tup (D.nats done),.lst (D.ints purse),.int unit] [] (.lst ((jJ rows m done purse unit).map CV)):=by
 refine eX H ?_;clear H;intro u F p hp hc;refine Fn.of (vn:=HW) (np:=5) [.pos 0,.pos 1,.pos 2,.pos 3,.pos 4] F (by kernel_rfl) (by kernel_rfl) rfl rfl ?_ λ L=>?_
 ·intro s vs ks g hv hk;refine iB (Rn hv) λ a b zh=>iu zh λ c d e z1=>?_;subst z1;cases Bc hk;exact .of_eq (by kernel_rfl)
 ·show Ex c (n+9) (mO (nr.fd .none u) L 616 HW) [.val (.lst (rows.map iH)),.val (.int (m:Int)),.val (.tup (D.nats done)),.val (.lst (D.ints purse)),.val (.int unit),.no,.no,.no,.no,.no,.no,.no,.no] _ _;refine Ex.seq (bc.oI 5 (tn:=["cand"]) (ix:=[2]) (by kernel_rfl) (ds:=D.nats (ay m)) (qr λ x=> !decide (x∈done)) (rq G (by exact af hm (aG _ _)) (by kernel_rfl) (Ev.nm 1 rfl rfl)) (by simp[D.nats];exact af hm (aG _ _)) (λ C d hd=>?_) rfl (od rfl) (od rfl) (by kernel_rfl)) ?_
  ·refine c0 (gj hd) λ x hx z1=>?_;subst z1;exact Cr rfl (od rfl) rfl (Tr.cmp (Ev.nm 0 rfl rfl) (Ev.nm 1 rfl rfl) (cC.M8 (by exact bB _))) (Ev.nm 0 rfl rfl)
  rw[lz];refine Ex.freeze 5 rfl rfl rfl ?_;refine Ex.seq (bc.lh 6 (gF.lst .nil) rfl (od rfl) (od rfl)) ?_;have hl:=K.l;have UH:=K.lp;have key:∀(xs:List Nat) (ws:List (Int×Int×Nat)),ws.length+xs.length≤100→Lp c (n+9) (mO (nr.fd .none u) L 616 HW) [.val (.lst (rows.map iH)),.val (.int (m:Int)),.val (.tup (D.nats done)),.val (.lst (D.ints purse)),.val (.int unit),.val (.lst (D.nats (fI m done))),.own true (.lst (ws.map An)),.no,.no,.no,.no,.no,.no]
    (pJ nr.body 2) (nF nr.body 2) (D.nats xs)
    (.next [.val (.lst (rows.map iH)),.val (.int (m:Int)),.val (.tup (D.nats done)),.val (.lst (D.ints purse)),.val (.int unit),.val (.lst (D.nats (fI m done))),.own true (.lst ((ws++(xs.filter λ x=> !(cW rows x).isEmpty).map λ x=>(fY rows purse unit x,eY rows x,x)).map An)),.no,.no,.no,.no,.no,.no]):=by
   intro xs
   induction xs with
   |nil=>intro ws g;rw[show ws++fO _ (List.filter _ ([]:List Nat))=ws by simp];exact Lp.nil
   |cons x xs ih=>
    intro ws hz;simp only[aJ]at hz
    let vg:=if(cW rows x).isEmpty then ws else ws++[(fY rows purse unit x,eY rows x,x)]
    have RQ:ws++((x::xs).filter λ x=> !(cW rows x).isEmpty).map (λ x=>(fY rows purse unit x,eY rows x,x))=vg++(xs.filter λ x=> !(cW rows x).isEmpty).map (λ x=>(fY rows purse unit x,eY rows x,x)):=by
     by_cases hb:(cW rows x).isEmpty<;>simp[vg,hb]
    rw[RQ];refine Lp.step (ρ'':=[.val (.lst (rows.map iH)),.val (.int (m:Int)),.val (.tup (D.nats done)),.val (.lst (D.ints purse)),.val (.int unit),.val (.lst (D.nats (fI m done))),.own true (.lst (vg.map An)),.no,.no,.no,.no,.no,.no]) (ju.name 7 rfl (od rfl) (od rfl)) ?_ (ih vg (by simp only[vg];split<;>(try simp)<;>lia));refine Ex.weak (ρ₁:=[.val (.lst (rows.map iH)),.val (.int (m:Int)),.val (.tup (D.nats done)),.val (.lst (D.ints purse)),.val (.int unit),.val (.lst (D.nats (fI m done))),.own true (.lst (vg.map An)),.val (.int (x:Int)),.val (.lst (D.nats (cW rows x))),.no,.no,.no,.no]) ?_
     (cy.HB (ρ:=[.val (.lst (rows.map iH)),.val (.int (m:Int)),.val (.tup (D.nats done)),.val (.lst (D.ints purse)),.val (.int unit),.val (.lst (D.nats (fI m done))),.own true (.lst (vg.map An)),.no,.no,.no,.no,.no,.no]) (i:=7) (j:=8) rfl rfl)
    refine Ex.seq (bc.oI 8 (tn:=["i"]) (ix:=[7,0]) (by kernel_rfl) (ds:=D.nats (ay rows.length)) (qr λ i=>decide (x∈jo rows i)) (rq G (by exact af hl (aG _ _)) (by kernel_rfl) (Nk G hl (by kernel_rfl) (Ev.nm 0 rfl rfl))) (by simp[D.nats];lia) (λ C d hd=>?_) rfl (od rfl) (od rfl) (by kernel_rfl)) ?_
    ·refine c0 (gj hd) λ i hi z1=>?_;subst z1;have hi:=aM.mp hi;exact Cr rfl (od rfl) rfl (Tr.cmp (Ev.nm 1 rfl rfl) (Ev.sub (Ev.sub (Ev.nm 2 rfl rfl) (Ev.nm 0 rfl rfl) (Sub.list (by exact cz _) (rowAt hi) (by simp;lia))) Ev.int (Sub.tup (by decide) rfl (by simp))) (cC.H_ (by exact bB _))) (Ev.nm 0 rfl rfl)
    rw[lz];refine Ex.freeze 8 rfl rfl rfl ?_;refine Ex.one (bc.ite (p:= !(cW rows x).isEmpty) (Tr.cmp (Ev.nm 8 rfl rfl) (Ev.lst .nil) (cC.Ri (by lia))) (λ hb=>?_) λ hb=>?_)
    ·have e:vg=ws++[(fY rows purse unit x,eY rows x,x)]:=by simp only[vg];rw[if_neg (by simpa using hb)]
     rw[e,ia];have vj:(cW rows x).length≤3:=af (bG _ _) (by simpa using hl);refine Ex.one (bc.append 6 (Ev.tup (cn.cons (Ev.bin (Ev.nm 4 rfl rfl) (Ev.call (by kernel_rfl) G.sum trivial (cn.cons (gF.ev (q:=.lst (D.ints ((cW rows x).map λ i=>purse.getD i 0))) ?_ rfl) .nil) .nil (Fn.Ht (n:=n+8) ?_ ?_)) gH.J_) (cn.cons (Ev.call (by kernel_rfl) G.sum trivial (cn.cons (gF.ev (q:=.lst (D.ints ((cW rows x).map λ i=>weight rows i))) ?_ rfl) .nil) .nil (Fn.Ht (n:=n+8) ?_ ?_)) (cn.cons (Ev.nm 7 rfl rfl) .nil))) (by simp)) rfl rfl (by simp;exact GV hz rfl))
     ·have:=pC (λ i=>purse.getD i.toNat 0) (cW rows x);simp only[eT]at this;rw[← this];refine gF.comp (tn:=["i"]) (ix:=[3]) (by kernel_rfl) (i8 λ i=>.int (purse.getD i.toNat 0)) (kd.of (Ev.nm 8 rfl rfl) Ib.list) (by simp[D.nats];exact rF vj rfl) λ C d hd=>?_;refine c0 (gj hd) λ i hi z1=>?_;subst z1;have hi:=uU hi;exact wO rfl (od rfl) rfl (Ev.sub (Ev.nm 1 rfl rfl) (Ev.nm 0 rfl rfl) (Sub.list (by lia) (intAt (by exact D9 UH hi)) (by simp[D.ints];exact vi UH hl rfl)))
     ·intro y hy;refine c0 (aL.mp hy) λ i g z1=>?_;subst z1;have:=K.pa i;exact P8 this.1 (kj this.2 (by decide))
     ·simp;lia
     ·have:=pC (λ i=>weight rows i.toNat) (cW rows x);simp only[eT]at this;rw[← this];refine gF.comp (tn:=["i"]) (ix:=[0]) (by kernel_rfl) (i8 λ i=>.int (weight rows i.toNat)) (kd.of (Ev.nm 8 rfl rfl) Ib.list) (by simp[D.nats];lia) λ C d hd=>?_;refine c0 (gj hd) λ i hi z1=>?_;subst z1;have hi:=uU hi;exact wO rfl (od rfl) rfl (Ev.sub (Ev.sub (Ev.nm 1 rfl rfl) (Ev.nm 0 rfl rfl) (Sub.list (by lia) (rowAt hi) (by simp;lia))) Ev.int (Sub.tup (by decide) rfl (by simp)))
     ·intro y hy;refine c0 (aL.mp hy) λ i g z1=>?_;subst z1;have:=K.wa i;exact P8 this.1 (b_ this.2 (by decide))
     ·simp;lia
    ·have e:vg=ws:=by simp only[vg];rw[if_pos (by simpa using hb)]
     rw[e];exact Ex.nil
  refine Ex.seq (bc.for (kd.of (Ev.nm 5 rfl rfl) Ib.list) λ ds hd=>(by subst hd;exact key (fI m done) [] (by have:(fI m done).length≤m:=af (bG _ _) (by simp);simp;exact G3 this hm rfl))) ?_;have hW:([]++((fI m done).filter λ x=> !(cW rows x).isEmpty).map λ x=>(fY rows purse unit x,eY rows x,x))=fM rows m done purse unit:=rfl;rw[hW];have SN:(fM rows m done purse unit).length≤4:=by
   have:(fI m done).length≤m:=af (bG _ _) (by simp);have h2:((fI m done).filter λ x=> !(cW rows x).isEmpty).length≤(fI m done).length:=bG _ _;simp only[fM,aE];exact af (af h2 this) hm
  refine Ex.freeze 6 rfl rfl rfl ?_;unfold jJ
  by_cases hw:fM rows m done purse unit=[]
  ·rw[if_pos hw];refine Ex.stop (bc.ite (p:=(fM rows m done purse unit).isEmpty) (Tr.cmp (Ev.nm 6 rfl rfl) (Ev.lst .nil) (cC.Vh (by lia))) (λ g=>Ex.one (bc.ret (gF.ev (q:=.lst (((fI m done).map λ x=>((x,purse,unit):St)).map CV)) ?_ rfl))) (λ h=>by rw[hw]at h;cases h)) rfl;have e:((fI m done).map λ x=>((x,purse,unit):St)).map CV=(D.nats (fI m done)).filterMap (i8 λ i=>.tup [.int i,.lst (D.ints purse),.int unit]):=by
    rw[fC,bK];rfl
   rw[e];refine gF.comp (tn:=["cand"]) (ix:=[3,4]) (by kernel_rfl) (i8 λ i=>.tup [.int i,.lst (D.ints purse),.int unit]) (kd.of (Ev.nm 5 rfl rfl) Ib.list) (by have:(fI m done).length≤m:=af (bG _ _) (by simp);simp[D.nats];exact G3 this hm rfl) λ C d hd=>?_;refine c0 (gj hd) λ x hx z1=>?_;subst z1;exact wO rfl (od rfl) rfl (Ev.tup (cn.cons (Ev.nm 0 rfl rfl) (cn.cons (Ev.nm 1 rfl rfl) (cn.cons (Ev.nm 2 rfl rfl) .nil))) (by simp))
  ·rw[if_neg hw];refine Ex.seq (bc.ite (p:=(fM rows m done purse unit).isEmpty) (Tr.cmp (Ev.nm 6 rfl rfl) (Ev.lst .nil) (cC.Vh (by lia))) (λ h=>absurd (by simpa using h) hw) λ g=>Ex.nil) ?_;refine Ex.seq (bc.lh 9 (gF.lst .nil) rfl (od rfl) (od rfl)) ?_;have Dq:=CN (m:=m) (done:=done) K;generalize fM rows m done purse unit=W at hw SN Dq⊢;have Rr:∀(ts:List (Int×Int×Nat)) (fs:List St),(∀t∈ts,t∈W)→fs.length+ts.length≤100→Lp c (n+9) (mO (nr.fd .none u) L 616 HW) [.val (.lst (rows.map iH)),.val (.int (m:Int)),.val (.tup (D.nats done)),.val (.lst (D.ints purse)),.val (.int unit),.val (.lst (D.nats (fI m done))),.val (.lst (W.map An)),.no,.no,.own true (.lst (fs.map CV)),.no,.no,.no]
     (pJ nr.body 5) (nF nr.body 5) (ts.map An)
     (.next [.val (.lst (rows.map iH)),.val (.int (m:Int)),.val (.tup (D.nats done)),.val (.lst (D.ints purse)),.val (.int unit),.val (.lst (D.nats (fI m done))),.val (.lst (W.map An)),.no,.no,.own true (.lst ((fs++(ts.filter λ t=>(W.filter λ o=>decide (o.1*t.2.1<t.1*o.2.1)).isEmpty).map λ t=>(t.2.2,kQ rows purse t.1 t.2.1 t.2.2,unit*t.2.1)).map CV)),.no,.no,.no]):=by
    intro ts
    induction ts with
    |nil=>intro fs g g;rw[show fs++fO _ (List.filter _ ([]:List (Int×Int×Nat)))=fs by simp];exact Lp.nil
    |cons t ts ih=>
     intro fs NW hz;simp only[aJ]at hz;refine cg (Dq t (NW t (.head _))) λ b1 b2 b3 b4=>?_
     let Hc:=if(W.filter λ o=>decide (o.1*t.2.1<t.1*o.2.1)).isEmpty then fs++[(t.2.2,kQ rows purse t.1 t.2.1 t.2.2,unit*t.2.1)]else fs
     have zv:fs++((t::ts).filter λ t=>(W.filter λ o=>decide (o.1*t.2.1<t.1*o.2.1)).isEmpty).map (λ t=>((t.2.2,kQ rows purse t.1 t.2.1 t.2.2,unit*t.2.1):St))=Hc++(ts.filter λ t=>(W.filter λ o=>decide (o.1*t.2.1<t.1*o.2.1)).isEmpty).map (λ t=>((t.2.2,kQ rows purse t.1 t.2.1 t.2.2,unit*t.2.1):St)):=by
      by_cases hb:(W.filter λ o=>decide (o.1*t.2.1<t.1*o.2.1)).isEmpty=true
      ·rw[bZ (by simpa using hb)];simp only[Hc,if_pos hb];simp
      ·rw[b0 (by simpa using hb)];simp only[Hc,if_neg hb]
     rw[zv];refine Lp.step (ρ'':=[.val (.lst (rows.map iH)),.val (.int (m:Int)),.val (.tup (D.nats done)),.val (.lst (D.ints purse)),.val (.int unit),.val (.lst (D.nats (fI m done))),.val (.lst (W.map An)),.no,.no,.own true (.lst (Hc.map CV)),.no,.no,.no]) (ju.tup (kU.cons (ju.name 10 rfl (od rfl) (od rfl)) (kU.cons (ju.name 11 rfl (od rfl) (od rfl)) (kU.cons (ju.name 7 rfl (od rfl) (od rfl)) .nil)))) ?_ (ih Hc (λ t' h=>NW t' (.tail _ h)) (by simp only[Hc];split<;>(try simp)<;>lia));refine Ex.one (bc.ite (p:=decide (((W.filter λ o=>decide (o.1*t.2.1<t.1*o.2.1)).map λ g=>(1:Int))=[])) (Tr.cmp (gF.ev (q:=.lst (D.ints ((W.filter λ o=>decide (o.1*t.2.1<t.1*o.2.1)).map λ g=>(1:Int)))) ?_ rfl) (Ev.lst .nil) (cC.Tn (ys:=[]) (by lia))) (λ hb=>?_) λ hb=>?_)
     ·rw[← rC];refine gF.comp (tn:=["other","speed","rival"]) (ix:=[10,11]) (by kernel_rfl) (wy t.1 t.2.1) (kd.of (Ev.nm 6 rfl rfl) Ib.list) (by simp;exact af SN (aG _ _)) λ C d hd=>?_;refine c0 (aL.mp hd) λ o ho z1=>?_;subst z1;refine cg (Dq o ho) λ c1 c2 c3 c4=>?_;have hi:(wy t.1 t.2.1 (An o)).isSome=decide (o.1*t.2.1<t.1*o.2.1):=by
       show Option.isSome (if o.1*t.2.1<t.1*o.2.1 then _ else _)=_
       by_cases h:o.1*t.2.1<t.1*o.2.1<;>simp[h]
      rw[hi];refine⟨_,ju.tup (kU.cons (ju.name 0 rfl (od rfl) (od rfl)) (kU.cons (ju.name 1 rfl (od rfl) (od rfl)) (kU.cons (ju.name 2 rfl (od rfl) (od rfl)) .nil))),by repeat (first|exact cy.nil|refine cy.cons (.inr rfl) ?_|refine cy.cons (.inl rfl) ?_),He.one (Tr.cmp (Ev.bin (Ev.nm 0 rfl rfl) (Ev.nm 4 rfl rfl) (gH.nD (by exact Uk b3 rfl) (by exact RG b4 rfl))) (Ev.bin (Ev.nm 3 rfl rfl) (Ev.nm 1 rfl rfl) (gH.nD (by lia) (by lia))) cC.ltI),λ h z hz=>?_⟩;have:z=.int 1:=by
       have h':o.1*t.2.1<t.1*o.2.1:=by simpa using h
       rw[show wy t.1 t.2.1 (An o)=_ from if_pos h']at hz;exact(cG hz).symm
      subst this;exact Ev.int
     ·have wH:(W.filter λ o=>decide (o.1*t.2.1<t.1*o.2.1)).isEmpty=true:=by simpa using hb
      have e:Hc=fs++[(t.2.2,kQ rows purse t.1 t.2.1 t.2.2,unit*t.2.1)]:=by simp only[Hc,if_pos wH]
      rw[e,ia];refine Ex.weak (ρ₁:=[.val (.lst (rows.map iH)),.val (.int (m:Int)),.val (.tup (D.nats done)),.val (.lst (D.ints purse)),.val (.int unit),.val (.lst (D.nats (fI m done))),.val (.lst (W.map An)),.val (.int (t.2.2:Int)),.no,.own true (.lst (fs.map CV++[(t.2.2,kQ rows purse t.1 t.2.1 t.2.2,unit*t.2.1)].map CV)),.val (.int t.1),.val (.int t.2.1),.val (.lst (D.ints (kQ rows purse t.1 t.2.1 t.2.2)))]) ?_ (by repeat (first|exact cy.nil|refine cy.cons (.inr rfl) ?_|refine cy.cons (.inl rfl) ?_));refine Ex.seq (bc.oI 12 (tn:=["i"]) (ix:=[7,10,11,3,0]) (by kernel_rfl) (ds:=D.nats (ay rows.length)) (i8 λ i=>.int (if t.2.2∈jo rows i.toNat then 0 else purse.getD i.toNat 0*t.2.1+weight rows i.toNat*t.1)) (rq G (by lia) (by kernel_rfl) (Nk G hl (by kernel_rfl) (Ev.nm 0 rfl rfl))) (by simp[D.nats];lia) (λ C d hd=>?_) rfl (od rfl) (od rfl) (by kernel_rfl)) ?_
      ·refine c0 (gj hd) λ i hi z1=>?_;subst z1;have hi:=aM.mp hi;have hw:=K.wa i;refine wO rfl (od rfl) rfl ?_
       by_cases hm:t.2.2∈jo rows i
       ·have e3:(D.int (if t.2.2∈jo rows (i:Int).toNat then 0 else purse.getD (i:Int).toNat 0*t.2.1+weight rows (i:Int).toNat*t.1))=if decide (t.2.2∈jo rows i)=true then .int 0 else .int 0:=by simp[hm]
        rw[e3];refine Ev.ite (Tr.cmp (Ev.nm 1 rfl rfl) (Ev.sub (Ev.sub (Ev.nm 5 rfl rfl) (Ev.nm 0 rfl rfl) (Sub.list (by lia) (rowAt hi) (by simp;lia))) Ev.int (Sub.tup (by decide) rfl (by simp))) (cC.H_ (by lia))) (λ g=>Ev.int) (λ h=>by simp[hm]at h)
       ·have e3:(D.int (if t.2.2∈jo rows (i:Int).toNat then 0 else purse.getD (i:Int).toNat 0*t.2.1+weight rows (i:Int).toNat*t.1))=if decide (t.2.2∈jo rows i)=true then .int 0 else .int (purse.getD i 0*t.2.1+weight rows i*t.1):=by simp[hm]
        rw[e3];refine Ev.ite (Tr.cmp (Ev.nm 1 rfl rfl) (Ev.sub (Ev.sub (Ev.nm 5 rfl rfl) (Ev.nm 0 rfl rfl) (Sub.list (by lia) (rowAt hi) (by simp;lia))) Ev.int (Sub.tup (by decide) rfl (by simp))) (cC.H_ (by lia))) (λ h=>by simp[hm]at h) (λ g=>?_);exact Ev.bin (Ev.bin (Ev.sub (Ev.nm 4 rfl rfl) (Ev.nm 0 rfl rfl) (Sub.list (by lia) (intAt (by lia)) (by simp[D.ints];lia))) (Ev.nm 3 rfl rfl) (gH.nD (by lia) (by lia))) (Ev.bin (Ev.sub (Ev.sub (Ev.nm 5 rfl rfl) (Ev.nm 0 rfl rfl) (Sub.list (by lia) (rowAt hi) (by simp;lia))) Ev.int (Sub.tup (by decide) rfl (by simp))) (Ev.nm 2 rfl rfl) (gH.nD (by exact Uk b1 rfl) (by exact L6 b2 rfl))) gH.rT
      rw[pC (λ i=>if t.2.2∈jo rows i.toNat then 0 else purse.getD i.toNat 0*t.2.1+weight rows i.toNat*t.1)];refine Ex.freeze 12 rfl rfl rfl ?_;exact Ex.one (bc.append 9 (Ev.tup (cn.cons (Ev.nm 7 rfl rfl) (cn.cons (Ev.nm 12 rfl rfl) (cn.cons (Ev.bin (Ev.nm 4 rfl rfl) (Ev.nm 11 rfl rfl) (gH.nD (by lia) (by lia))) .nil))) (by simp)) rfl rfl (by simp;exact GV hz rfl))
     ·have wH:¬(W.filter λ o=>decide (o.1*t.2.1<t.1*o.2.1)).isEmpty=true:=by simpa using hb
      have e:Hc=fs:=by simp only[Hc,if_neg wH]
      rw[e];refine Ex.weak Ex.nil ?_
      repeat (first|exact cy.nil|refine cy.cons (.inr rfl) ?_|refine cy.cons (.inl rfl) ?_)
   refine Ex.seq (bc.for (kd.of (Ev.nm 6 rfl rfl) Ib.list) λ ds hd=>(by subst hd;exact Rr W [] (λ g h=>h) (by simp;exact af SN (aG _ _)))) ?_;refine Ex.freeze 9 rfl rfl rfl ?_;exact Ex.one (bc.ret (Ev.nm 9 rfl rfl))
end
end
noncomputable def wQ:FD:=iZ 20 3
noncomputable def xR:FD:=iZ 20 5
noncomputable abbrev yw(xs:List Str):List D:=xs.map D.str
noncomputable def n0:List (Str×D):=[("resolute_values",.tup [.bool true,.bool false]),("algorithms",.tup (yw ["float-fractions","gmpy2-fractions","standard-fractions"])),("longname",.str "Phragmén's Sequential Rule (seq-Phragmén)"),("shortname",.str "seq-Phragmén"),("rule_id",.str "seqphragmen")]
noncomputable abbrev yH:D:=.inst 343 (("available_algorithms",.lst (yw ["standard-fractions"]))::n0)
structure G0(c:Cx):Prop where
 Ub:makesIn c.K 343=true
 Ui:findIn c.K (.ref 343) "__init__"=some (some (.ref 325))
 ty:typeIn c.K (.ref 325)=some (.type "function")
 O_:FnAt c 325 wQ .none
 gR:cX c "Rule" (.ref 343)
 kR:jz c (.ref 343)
 p1:fh c.K 343 "rule_id"=true
 p2:fh c.K 343 "shortname"=true
 p3:fh c.K 343 "longname"=true
 p4:fh c.K 343 "algorithms"=true
 p5:fh c.K 343 "resolute_values"=true
 p6:fh c.K 343 "available_algorithms"=true
 a1:attrOk c.K 343 "algorithms"=true
 a2:attrOk c.K 343 "resolute_values"=true
 a3:attrOk c.K 343 "available_algorithms"=true
 cl:∃v,zR c.K 343 "_RESOLUTE_VALUES_FOR_SEQUENTIAL_RULES" v=true∧∀O s,Ok c O s→bh c.w O s.heap v (.tup [.bool true,.bool false])
 ga:∃v,cX c "available_algorithms" v∧∀O s,Ok c O s→bh c.w O s.heap v (.lst (yw ["branch-and-bound","brute-force","standard","standard-fractions"]))
 mv:jS c.K 343 "verify_compute_parameters" 340=true
 O9:FnAt c 340 xR (.ref 333)
 Ps:sX c 333 [.none]
section
variable {c:Cx}{n:Nat}
noncomputable abbrev Kg:List Str:=["self","rule_id","algorithm"]
section
variable {c:Cx}{n:Nat}{E:VE}{ρ ρ':List Sl}{out:Out}{l:List Stmt}{s:Stmt}{p:Pos}
theorem Ex.Ke(hl:l=oR l 0::l.tail)(h:bc c n E ρ (oR l 0) (.next ρ'))(t:Ex c n E ρ' l.tail out):Ex c n E ρ l out:=Eq.mpr (congrArg (λ z=>Ex c n E ρ z out) hl) (Ex.seq h t)
theorem bc.skip(hs:s=.If (vw s).e (vw s).o (vw s).b p)(h:Tr c n E ρ (vw s).e false)(k:Ex c n E ρ (vw s).b out):bc c n E ρ s out:=Eq.mpr (congrArg (λ z=>bc c n E ρ z out) hs) (bc.ite h (λ e=>absurd e (by decide)) λ j=>k)
theorem Ex.skip(hl:l=[oR l 0])(hs:oR l 0=.If (pJ l 0) (vw (oR l 0)).o (nF l 0) p)(h:Tr c n E ρ (pJ l 0) false)(k:Ex c n E ρ (nF l 0) out):Ex c n E ρ l out:=Eq.mpr (congrArg (λ z=>Ex c n E ρ z out) hl) (Ex.one (bc.skip hs h k))
theorem Ex.take(hl:l=[oR l 0])(hs:oR l 0=.If (pJ l 0) (vw (oR l 0)).o (nF l 0) p)(h:Tr c n E ρ (pJ l 0) true)(k:Ex c n E ρ (vw (oR l 0)).o out):Ex c n E ρ l out:=Eq.mpr (congrArg (λ z=>Ex c n E ρ z out) (hl.trans (congrArg (λ s=>[s]) hs))) (Ex.one (bc.ite h (λ j=>k) λ e=>absurd e (by decide)))
end
theorem C2(P:G0 c)(G:PG c):mI c (n+4) (.ref 343) [.str "seqphragmen"] [] (.ka none 343 n0 "available_algorithms" (yw ["standard-fractions"])):=by
 refine eX P.O_ λ u F p hp hc=>?_;refine c0 P.cl λ vc Wm VO=>?_;refine c0 P.ga λ va W4 VP=>?_;refine mI.make (n:=n+2) (vn:=Kg) (np:=1) [.pos 0] (ρ₁:= λ u'=>[.own true (.ka (some u') 343 n0 "available_algorithms" (yw ["standard-fractions"])),.val (.str "seqphragmen"),.no]) P.Ub P.Ui P.ty F (by kernel_rfl) (by kernel_rfl) rfl rfl ?_ ?_ ?_ ⟨_,rfl⟩
 ·intro s u' vs ks S hv hk;refine xe (rE hv) λ x z1=>?_;subst z1;cases Bc hk;exact .of_eq (by kernel_rfl)
 ·intro L u';show Ex c (n+2) (mO (wQ.fd .none u) L 325 Kg) [.own true (.inst (some u') 343 []),.val (.str "seqphragmen"),.no] wQ.body _;refine Ex.Ke rfl (bc.put 0 (Ev.nm 1 rfl rfl) rfl rfl P.p1 (by simp)) ?_;refine Ex.Ke (ρ':=[.own true (.inst (some u') 343 n0),.val (.str "seqphragmen"),.no]) rfl ?_ ?_
  ·refine bc.skip rfl (Tr.cmp (Ev.nm 1 rfl rfl) Ev.nA cC.Mo) ?_
   iterate 10 (refine Ex.skip rfl rfl (Tr.cmp (Ev.nm 1 rfl rfl) Ev.nA cC.Mo) ?_)
   refine Ex.take rfl rfl (Tr.cmp (Ev.nm 1 rfl rfl) Ev.nA cC.Mo) ?_;refine Ex.seq (bc.put 0 Ev.nA rfl rfl P.p2 (by simp)) ?_;refine Ex.seq (bc.put 0 Ev.nA rfl rfl P.p3 (by simp)) ?_;refine Ex.seq (bc.put 0 (Ev.tup (cn.cons Ev.nA (cn.cons Ev.nA (cn.cons Ev.nA .nil))) (by simp)) rfl rfl P.p4 (by simp)) ?_;exact Ex.one (bc.put 0 (Ev.PA 0 rfl rfl Wm rfl VO) rfl rfl P.p5 (by simp))
  refine Ex.Ke rfl (bc.putL 0 (gF.lst .nil) rfl rfl P.p6 (by simp[n0])) ?_;have step:∀{a:Str} {b:Bool} {ds lK:List D},jM a=true→decide (a∈[("branch-and-bound":Str),"brute-force","standard","standard-fractions"])=b→(lK=if b then ds++[.str a]else ds)→ds.length≤5→
    Ex c (n+2) (mO (wQ.fd .none u) L 325 Kg) [.own true (.ka (some u') 343 n0 "available_algorithms" ds),.val (.str "seqphragmen"),.val (.str a)]
     (nF wQ.body 3) (.next [.own true (.ka (some u') 343 n0 "available_algorithms" lK),.val (.str "seqphragmen"),.no]):=by
   intro a b ds lK h0 h1 h2 h3;refine Ex.weak (ρ₁:=[.own true (.ka (some u') 343 n0 "available_algorithms" lK),.val (.str "seqphragmen"),.val (.str a)]) ?_ (by repeat (first|exact cy.nil|refine cy.cons (.inr rfl) ?_|refine cy.cons (.inl rfl) ?_));refine Ex.one (bc.ite (p:=b) (Tr.cmp (Ev.nm 2 rfl rfl) (Ev.gd (by kernel_rfl) W4 VP) (h1▸cC.RE h0 (by kernel_rfl) (by exact bB _))) (λ hb=>?_) λ hb=>?_)
   ·subst hb;rw[h2];exact Ex.one (bc.IS 0 (Ev.nm 2 rfl rfl) rfl rfl P.a3 (by exact rF h3 rfl))
   ·subst hb;rw[h2];exact Ex.nil
  refine Ex.one (bc.for (kd.of (Ev.Pz 0 rfl rfl P.a1 rfl rfl) Ib.tuple) λ ds hd=>?_);subst hd;refine Lp.step (ρ'':=[.own true (.ka (some u') 343 n0 "available_algorithms" []),.val (.str "seqphragmen"),.no]) (ju.name 2 rfl (od rfl) (od rfl)) (step (b:=false) (by kernel_rfl) rfl rfl (by simp)) ?_;refine Lp.step (ρ'':=[.own true (.ka (some u') 343 n0 "available_algorithms" []),.val (.str "seqphragmen"),.no]) (ju.name 2 rfl (od rfl) (od rfl)) (step (b:=false) (by kernel_rfl) rfl rfl (by simp)) ?_;refine Lp.step (ρ'':=[.own true (.ka (some u') 343 n0 "available_algorithms" (yw ["standard-fractions"])),.val (.str "seqphragmen"),.no]) (ju.name 2 rfl (od rfl) (od rfl)) (step (b:=true) (by kernel_rfl) rfl rfl (by simp)) ?_;exact Lp.nil
 ·intro u;exact⟨_,rfl,λ O h v fp r=>r.Cb⟩
noncomputable abbrev Mx:List Str:=["self","profile","committeesize","algorithm","resolute","max_num_of_committees"]
theorem yn(P:G0 c)(Q:iD c)(PF:fj c)(G:PG c){m k:Nat}{vs:List (Int×List Nat)}{b:Bool}{o:Option Nat}(h4:m≤4)(h1:0<k)(hk:k≤m)(h2:0<vs.length)(h3:vs.length≤3)(ho:∀j,o=some j→0<j∧b=false):
  Fn c (n+6) (.ref 340) [yH] [("profile",pb m vs),("committeesize",.int (k:Int)),("algorithm",.str "standard-fractions"),("resolute",.bool b),("max_num_of_committees",mz o)] .none:=by
 refine eX P.O9 λ u F p hp hc=>?_;refine Fn.of_next (vn:=Mx) (np:=6) [.pos 0,.kw 0,.kw 1,.kw 2,.kw 3,.kw 4] (ρ₁:=[.val yH,.val (pb m vs),.val (.int (k:Int)),.val (.str "standard-fractions"),.val (.bool b),.val (mz o)]) F (by kernel_rfl) (by kernel_rfl) rfl rfl ?_ λ L=>?_
 ·intro s vs ks S hv hk;refine xe (rE hv) λ x z1=>?_;subst z1;refine iB (V5 hk) λ a b zh=>iu zh λ c d e z1=>?_;subst z1;exact P.Ps.binds S rfl rfl rfl
 ·show Ex c (n+5) (mO (xR.fd (.ref 333) u) L 340 Mx) [.val yH,.val (pb m vs),.val (.int (k:Int)),.val (.str "standard-fractions"),.val (.bool b),.val (mz o)] _ _;refine xe Q.E3 λ pr KY=>?_;refine Ex.seq (bc.ite (p:=decide ((k:Int)<1)) (Tr.cmp (Ev.nm 2 rfl rfl) Ev.int cC.ltI) (λ h=>absurd h (by simp;exact cA.mpr h1)) λ z=>Ex.nil) ?_;refine Ex.seq (bc.ite (p:=decide ((m:Int)<(k:Int))) (Tr.cmp (Ev.nm 2 rfl rfl) (Ev.prop (Ev.nm 1 rfl rfl) KY (yU Q G h4)) cC.Mn) (λ h=>absurd h (by simp;exact hk)) λ z=>Ex.nil) ?_;refine Ex.seq (bc.ite (p:=((vs.length:Int)==0)) (Tr.cmp (Ev.call (by kernel_rfl) G.len trivial (cn.cons (Ev.nm 1 rfl rfl) .nil) .nil (A7 Q G (by exact rF h3 rfl))) Ev.int cC.Eg) (λ h=>by simp at h;simp[h]at h2) λ z=>Ex.nil) ?_;refine Ex.seq (bc.ite (p:=false) (Tr.cmp (Ev.nm 3 rfl rfl) (Ev.attr (Ev.nm 0 rfl rfl) P.a1 rfl) (cC.M7 (by kernel_rfl) (by kernel_rfl) (by exact bB _))) (λ h=>by cases h) λ z=>Ex.nil) ?_;refine Ex.seq (bc.ite (p:=false) (Tr.cmp (Ev.nm 4 rfl rfl) (Ev.attr (Ev.nm 0 rfl rfl) P.a2 rfl) (by cases b<;>exact cC.Kv .bool (.cons .bool (.cons .bool .nil)) (by exact bB _))) (λ h=>by cases h) λ z=>Ex.nil) ?_;cases o with
  |none=>
   refine Ex.seq (bc.ite (p:=false||false) (Tr.LY (Tr.qN (b:=false) (b':=false) (Tr.cmp (Ev.nm 5 rfl rfl) Ev.lF cC.vK) (λ h=>by cases h)) λ z=>Tr.qN (b:=false) (b':=false) (Tr.cmp (Ev.nm 5 rfl rfl) Ev.lF cC.vK) (λ h=>by cases h)) (λ h=>by cases h) λ z=>Ex.nil) ?_;exact Ex.one (bc.ite (p:=false&&false) (Tr.qN (b:=false) (Tr.cmp (Ev.nm 5 rfl rfl) Ev.lF cC.vK) (λ h=>by cases h)) (λ h=>by cases h) λ z=>Ex.nil)
  |some j=>
   refine xa (ho j rfl) λ hj z1=>?_;subst z1;refine Ex.seq (bc.ite (p:=(true&& !true)||(true&&decide ((j:Int)<1))) (Tr.LY (Tr.qN (Tr.cmp (Ev.nm 5 rfl rfl) Ev.lF cC.vK) λ z=>Tr.not (Tr.val (Ev.call (by kernel_rfl) (fj.lJ PF) trivial (cn.cons (Ev.nm 5 rfl rfl) (cn.cons (Ev.gl (by kernel_rfl) (fj.xN PF)) .nil)) .nil (Fn.jk (fj.KR PF))) kA.bool)) λ z=>Tr.qN (Tr.cmp (Ev.nm 5 rfl rfl) Ev.lF cC.vK) λ z=>Tr.cmp (Ev.nm 5 rfl rfl) Ev.int cC.ltI) (λ h=>absurd h (by simp;exact cA.mpr hj)) λ z=>Ex.nil) ?_;exact Ex.one (bc.ite (p:=true&&false) (Tr.qN (Tr.cmp (Ev.nm 5 rfl rfl) Ev.lF cC.vK) λ z=>Tr.val (Ev.nm 4 rfl rfl) kA.bool) (λ h=>by cases h) λ z=>Ex.nil)
end
section
noncomputable abbrev Vo:=Int×List Nat
noncomputable def fK(vs:List Vo)(x:Nat):Int:=((vs.filter λ v=>decide (x∈v.2)).map (·.1)).sum
noncomputable def lU(vs:List Vo)(ld:List Rat)(x:Nat):List Rat:=((vs.zip ld).filter λ p=>decide (x∈p.1.2)).map λ p=>p.2*(p.1.1:Rat)
theorem T7{a b c d:Rat}(h:a≤b)(h':c≤d):a+c≤b+d:=dK (Rat.add_le_add_right.mpr h) (Rat.add_le_add_left.mpr h')
theorem PK{v:Vo}{vs:List Vo}{q:Rat}{ld:List Rat}{x:Nat}(h:x∈v.2):lU (v::vs) (q::ld) x=q*(v.1:Rat)::lU vs ld x:=
 congrArg (fO λ p:Vo×Rat=>p.2*(p.1.1:Rat)) (bZ (p:= λ p:Vo×Rat=>decide (x∈p.1.2)) (a:=(v,q)) (decide_eq_true h))
theorem PJ{v:Vo}{vs:List Vo}{q:Rat}{ld:List Rat}{x:Nat}(h:x∉v.2):lU (v::vs) (q::ld) x=lU vs ld x:=
 congrArg (fO λ p:Vo×Rat=>p.2*(p.1.1:Rat)) (b0 (p:= λ p:Vo×Rat=>decide (x∈p.1.2)) (a:=(v,q)) λ e=>h (of_decide_eq_true e))
theorem IP{v:Vo}{vs:List Vo}{q:Rat}{ld:List Rat}{x:Nat}(h:x∈v.2):(lU (v::vs) (q::ld) x).sum=q*(v.1:Rat)+(lU vs ld x).sum:=congrArg List.sum (PK h)
theorem IQ{v:Vo}{vs:List Vo}{q:Rat}{ld:List Rat}{x:Nat}(h:x∉v.2):(lU (v::vs) (q::ld) x).sum=(lU vs ld x).sum:=congrArg List.sum (PJ h)
theorem PE{v:Vo}{vs:List Vo}{x:Nat}(h:x∈v.2):fK (v::vs) x=v.1+fK vs x:=
 congrArg (λ l=>(fO (λ v:Vo=>v.1) l).sum) (bZ (p:= λ v:Vo=>decide (x∈v.2)) (decide_eq_true h))
theorem PH{v:Vo}{vs:List Vo}{x:Nat}(h:x∉v.2):fK (v::vs) x=fK vs x:=
 congrArg (λ l=>(fO (λ v:Vo=>v.1) l).sum) (b0 (p:= λ v:Vo=>decide (x∈v.2)) λ e=>h (of_decide_eq_true e))
noncomputable def jb(vs:List Vo)(k:Nat)(com:List Nat)(ld:List Rat)(x:Nat):Rat:=
 if x∈com then(((k:Int)+2:Int):Rat)else if 0<fK vs x then((lU vs ld x).sum+(1:Int)) / ((fK vs x:Int):Rat)else(((k:Int)+1:Int):Rat)
noncomputable def Jm(a b:Rat):Bool:=decide (a<b)
noncomputable def n6:List Rat→Rat
 |[]=>0
 |q::qs=>rB Jm q qs
noncomputable def nC(vs:List Vo)(m k:Nat)(com:List Nat)(ld:List Rat):List Rat:=(ay m).map (jb vs k com ld)
noncomputable def eU(vs:List Vo)(m k:Nat)(com:List Nat)(ld:List Rat):List Nat:=(ay m).filter λ x=>decide (jb vs k com ld x=n6 (nC vs m k com ld))
noncomputable def upd(vs:List Vo)(k:Nat)(com:List Nat)(ld:List Rat)(x:Nat):List Rat:=(vs.zip ld).map λ p=>if x∈p.1.2 then jb vs k com ld x else p.2
structure lj(m:Nat)(vs:List Vo):Prop where
 l:vs.length≤3
 p:0<vs.length
 w:∀v∈vs,0<v.1∧v.1≤12
 s:∀v∈vs,v.2.Sublist [0,1,2,3]
noncomputable def eH(U:Int)(q:Rat):Prop:=∃a:Int,q*(U:Rat)=(a:Rat)
structure oV(vs:List Vo)(t:Nat)(ld:List Rat):Prop where
 l:ld.length=vs.length
 u:∃U:Int,0<U∧U≤36^t∧∀q∈ld,eH U q
 b:∀q∈ld,0≤q∧q≤((t:Int):Rat)
theorem eH.den{U:Int}(h:0<U){q:Rat}(hq:eH U q):(q.den:Int)≤U:=by
 refine xe hq ?_;clear hq;intro a e;have h1:q*((q.den:Int):Rat)=(q.num:Rat):=by
  have:=s_ (a:=(q.num:Rat)) (uM q);rwa[← t6 q]at this
 have h2:q.num*U=a*(q.den:Int):=by
  have:((q.num*U:Int):Rat)=((a*(q.den:Int):Int):Rat):=by
   rw[bH,bH,← h1,← e];grind
  exact_mod_cast this
 have h3:q.den ∣ q.num.natAbs*U.natAbs:=⟨a.natAbs,by rw[← Int.natAbs_mul,h2,Int.natAbs_mul];simp[Nat.mul_comm]⟩;have h4:q.den ∣ U.natAbs:=q.reduced.symm.dvd_of_dvd_mul_left h3;have e:=qT (bL h);rw[← e];exact ki.mpr (Nat.le_of_dvd (Int.natAbs_pos.mpr (u6 h)) h4)
theorem eH.add{U:Int}{p q:Rat}(hp:eH U p)(hq:eH U q):eH U (p+q):=by
 refine xe hp ?_;clear hp;intro a e;refine xe hq ?_;clear hq;intro b f;exact⟨a+b,by rw[fQ,← e,← f,Rat.add_mul]⟩
theorem eH.int(U a:Int):eH U (a:Rat):=⟨a*U,by rw[bH]⟩
theorem eH.mul{U:Int}{p:Rat}(hp:eH U p)(w:Int):eH U (p*(w:Rat)):=by
 refine xe hp ?_;clear hp;intro a e;exact⟨a*w,by rw[bH,← e];grind⟩
theorem eH.more{U:Int}{p:Rat}(hp:eH U p)(W:Int):eH (U*W) p:=by
 refine xe hp ?_;clear hp;intro a e;exact⟨a*W,by rw[bH,bH,← e];grind⟩
theorem eH.div{U W:Int}{p:Rat}(hp:eH U p)(hW:0<W):eH (U*W) (p / (W:Rat)):=by
 refine xe hp ?_;clear hp;intro a e;have SO:(W:Rat)≠0:=by have:=pk.mpr hW;grind
 exact⟨a,by rw[bH,← e];have:=s_ (a:=p) SO;grind⟩
theorem eH.sum{U:Int}{qs:List Rat}(h:∀q∈qs,eH U q):eH U qs.sum:=by
 induction qs with
 |nil=>exact eH.int U 0
 |cons q qs ih=>rw[rY];exact(h q (.head _)).add (ih λ z hz=>h z (.tail _ hz))
theorem td(qs:List Rat)(a:Option Rat):nz qs a=if qs=[]then a else some (qs.sum+pS a):=by
 induction qs generalizing a with
 |nil=>rfl
 |cons q qs ih=>
  refine(ih (some (q+pS a))).trans ?_;rw[if_neg (List.cons_ne_nil q qs),rY]
  by_cases h:qs=[]
  ·subst h;show some (q+pS a)=some (q+0+pS a);rw[Rat.add_zero]
  ·rw[if_neg h];show some (qs.sum+(q+pS a))=_;rw[← Rat.add_assoc,Rat.add_comm qs.sum q]
theorem Ez{U:Int}(hU:0<U)(U3:U<2^32){qs:List Rat}{a:Option Rat}(h:∀q∈qs,eH U q)(ha:eH U (pS a)):zZ qs a:=by
 induction qs generalizing a with
 |nil=>trivial
 |cons q qs ih=>exact⟨b_ ((h q (.head _)).den hU) U3,b_ (ha.den hU) U3,ih (λ z hz=>h z (.tail _ hz)) ((h q (.head _)).add ha)⟩
variable {vs:List Vo}{m k t:Nat}{ld:List Rat}{com:List Nat}{x:Nat}
theorem oJ(V:lj m vs)(x:Nat):0≤fK vs x∧fK vs x≤36:=
 have q:=AL (b:=12) (by decide) (l:=(vs.filter λ v:Vo=>decide (x∈v.2)).map λ v:Vo=>v.1) (λ y hy=>jw hy λ v hv=>⟨bL (V.w v (aN.mp hv).1).1,(V.w v (aN.mp hv).1).2⟩) (by rw[aE];exact af (bG _ _) V.l)
 ⟨q.1,d9 q.2 (by decide)⟩
theorem tc(h:p∈vs.zip ld):p.1∈vs∧p.2∈ld:=⟨(js h).1,(js h).2⟩
theorem tw(L:oV vs t ld){U:Int}(hu:∀q∈ld,eH U q)(x:Nat):∀q∈lU vs ld x,eH U q:= λ q hq=>by
 refine jw hq λ p hp=>?_;exact(hu _ (tc (aN.mp hp).1).2).mul _
theorem DH{x:Nat}{t:Nat}{vs:List Vo}{ld:List Rat}(hl:ld.length=vs.length)(hv:∀v∈vs,0<v.1)(hq:∀q∈ld,0≤q∧q≤((t:Int):Rat)):0≤(lU vs ld x).sum∧(lU vs ld x).sum≤((t:Int):Rat)*((fK vs x:Int):Rat)∧0≤fK vs x∧(fK vs x=0→∀v∈vs,x∉v.2):=by
 induction vs generalizing ld with
 |nil=>
  refine y8 hl ⟨ek,?_,Int.le_refl _,λ _ _=>nn⟩;show(0:Rat)≤_*((0:Int):Rat);rw[Rat.intCast_zero,Rat.mul_zero];exact ek
 |cons v vs ih=>
  cases ld with
  |nil=>cases hl
  |cons q ld=>
   refine cg (ih (Nat.succ.inj hl) (λ z hz=>hv z (.tail _ hz)) λ z hz=>hq z (.tail _ hz)) λ h1 h2 h3 h4=>?_;have w:=hv v (.head _);have w':(0:Rat)≤(v.1:Rat):=h_.mpr (bL w);refine xa (hq q (.head _)) λ q0 q1=>?_
   by_cases hx:x∈v.2
   ·rw[IP hx,PE hx,fQ,Rat.mul_add];have p:0<v.1+fK vs x:=Int.add_pos_of_pos_of_nonneg w h3;exact⟨Rat.add_nonneg (qS q0 w') h1,T7 (eC q1 w') h2,bL p,λ h=>absurd h (u6 p)⟩
   ·rw[IQ hx,PH hx];exact⟨h1,h2,h3,λ h z hz=>by
     rcases mc hz with rfl|hz
     ·exact hx
     ·exact h4 h z hz⟩
theorem oV.pos(V:lj m vs)(L:oV vs t ld)(x:Nat):0≤(lU vs ld x).sum∧(lU vs ld x).sum≤((t:Int):Rat)*((fK vs x:Int):Rat)∧0≤fK vs x∧(fK vs x=0→∀v∈vs,x∉v.2):=DH L.l (λ v hv=>(V.w v hv).1) L.b
theorem oF(V:lj m vs)(L:oV vs t ld)(hx:x∉com)(hw:0<fK vs x):0≤jb vs k com ld x∧jb vs k com ld x≤(((t:Int)+1:Int):Rat)∧jb vs k com ld x*((fK vs x:Int):Rat)=(lU vs ld x).sum+1:=by
 refine cg (L.pos V x) λ h1 h2 h3 z=>?_;have hW:(0:Rat)<((fK vs x:Int):Rat):=pk.mpr hw;have Yt:(1:Rat)≤((fK vs x:Int):Rat):=by have:((1:Int):Rat)≤((fK vs x:Int):Rat):=bY.mpr (by trivial);exact_mod_cast this
 have e:jb vs k com ld x*((fK vs x:Int):Rat)=(lU vs ld x).sum+1:=by
  unfold jb;rw[if_neg hx,if_pos hw,s_ (by grind)];rfl
 refine⟨?_,?_,e⟩
 ·refine mK (c:=((fK vs x:Int):Rat)) ?_ hW;rw[e];grind
 ·refine mK (c:=((fK vs x:Int):Rat)) ?_ hW;rw[e,fQ,Rat.add_mul];grind
theorem xu(hx:x∈com):jb vs k com ld x=(((k:Int)+2:Int):Rat):=by unfold jb;rw[if_pos hx]
theorem qz(V:lj m vs)(L:oV vs t ld)(hx:x∉com)(hw:¬0<fK vs x):jb vs k com ld x=(((k:Int)+1:Int):Rat):=by unfold jb;rw[if_neg hx,if_neg hw]
theorem A9(V:lj m vs)(L:oV vs t ld)(ht:t<k)(hx:x∉com):jb vs k com ld x≤(((k:Int)+1:Int):Rat):=by
 by_cases hw:0<fK vs x
 ·exact dK (oF V L hx hw).2.1 (bY.mpr (by lia))
 ·rw[qz V L hx hw];exact ek
theorem yP{t:Nat}(h:t≤4):(36:Int) ^t≤36^4:=by
 exact(by decide:∀t<5,(36:Int) ^t≤36^4) t (kq h)
theorem B2(V:lj m vs)(L:oV vs t ld)(ht:t≤4)(x:Nat):((jb vs k com ld x).den:Int)<2^32:=by
 unfold jb
 split
 ·rw[Rat.den_intCast];decide
 ·split
  ·rename_i hw;refine cI L.u λ U h0 h1 hu=>?_;have:=((eH.sum (tw L hu x)).add (eH.int U 1)).div hw;have h2:=this.den (qR h0 hw);have h3:=(oJ V x).2;have h4:=yP ht;have h5:U*fK vs x≤36^4*36:=Aa (d9 h1 h4) h3 (bL hw) (by decide);exact b_ (d9 h2 h5) (by decide)
  ·rw[Rat.den_intCast];decide
theorem oV.T2(L:oV vs t ld)(ht:t≤4)(x:Nat):zZ (lU vs ld x) none:=by
 refine cI L.u λ U h0 h1 hu=>?_;exact Ez h0 (b_ (d9 h1 (yP ht)) (by decide)) (tw L hu x) (eH.int U 0)
theorem oV.den(L:oV vs t ld)(ht:t≤4):∀q∈ld,(q.den:Int)<2^32:= λ q hq=>by
 refine cI L.u λ U h0 h1 hu=>?_;exact b_ ((hu q hq).den h0) (b_ (d9 h1 (yP ht)) (by decide))
theorem B4:∀(qs:List Rat) (b:Rat),rB Jm b qs≤b∧∀q∈qs,rB Jm b qs≤q:=by
 intro w
 induction w with
 |nil=>
  intro b;exact⟨ek,λ z=>nn⟩
 |cons x xs ih=>
  intro b;rw[Fg];refine xa (ih (if Jm x b then x else b)) λ h1 h2=>?_
  by_cases h:Jm x b
  ·rw[if_pos h]at h1 h2⊢;have h':x<b:=by simpa[Jm]using h
   exact⟨dK h1 (Rat.le_of_lt h'),λ q hq=>by
    rcases mc hq with rfl|hq
    ·exact h1
    ·exact h2 q hq⟩
  ·rw[if_neg h]at h1 h2⊢;have h':b≤x:=Rat.not_lt.mp (by simpa[Jm]using h);exact⟨h1,λ q hq=>by
    rcases mc hq with rfl|hq
    ·exact dK h1 h'
    ·exact h2 q hq⟩
theorem xy{qs:List Rat}{q:Rat}(h:q∈qs):n6 qs≤q:=by
 cases qs with
 |nil=>exact nn h
 |cons y ys=>
  rcases aD.mp h with rfl|h
  ·exact(B4 ys q).1
  ·exact(B4 ys y).2 q h
theorem ug{qs:List Rat}(h:qs≠[]):n6 qs∈qs:=by
 cases qs with
 |nil=>exact absurd rfl h
 |cons y ys=>exact yV
theorem lC:x∈eU vs m k com ld↔x<m∧∀y,y<m→jb vs k com ld x≤jb vs k com ld y:=by
 unfold eU;rw[aN,aM,decide_eq_true_eq];refine⟨λ w0=>xa w0 λ h1 h2=>⟨h1,λ y hy=>h2▸xy (aL.mpr ⟨y,aM.mpr hy,rfl⟩)⟩,λ w0=>xa w0 λ h1 h2=>⟨h1,?_⟩⟩;refine Rat.le_antisymm ?_ (xy (aL.mpr ⟨x,aM.mpr h1,rfl⟩));refine c0 (aL.mp (ug (qs:=nC vs m k com ld) (by unfold nC;intro e;simp at e;lia))) λ y hy e=>?_;rw[← e];exact h2 y (aM.mp hy)
structure oK(m k t:Nat)(com:List Nat):Prop where
 n:com.Nodup
 r:∀x∈com,x<m
 l:com.length=t
 k:k≤m
theorem oK.free(C:oK m k t com)(ht:t<k):∃y,y<m∧y∉com:=dr λ h=>by
 have h1:∀y∈ay m,y∈com:= λ y hy=>dr λ hn=>h ⟨y,aM.mp hy,hn⟩;have h2:=List.Nodup.length_le_of_subset List.nodup_range h1;have:=C.l;have:=C.k;rw[tF]at h2;lia
theorem ic(V:lj m vs)(L:oV vs t ld)(C:oK m k t com)(ht:t<k)(h:x∈eU vs m k com ld):x∉com:= λ hx=>by
 refine c0 (C.free ht) λ y hy Wf=>?_;have h1:=(lC.mp h).2 y hy;have h2:=A9 V L ht Wf;rw[xu hx]at h1;have:=bY.mp (dK h1 h2);lia
theorem th(h:0<m):eU vs m k com ld≠[]:= λ e=>by
 refine c0 (aL.mp (ug (qs:=nC vs m k com ld) (by unfold nC;intro e;simp at e;exact TX h e))) λ y hy e'=>?_;have:y∈eU vs m k com ld:=aN.mpr ⟨hy,by simpa using e'⟩;rw[e]at this;cases this
theorem sa(L:oV vs t ld)(f:Vo×Rat→Rat):((vs.zip ld).map f).length=vs.length:=by simp[L.l]
theorem tP(V:lj m vs)(L:oV vs t ld)(hx:x∉com):oV vs (t+1) (upd vs k com ld x):=by
 have pF:∀q∈upd vs k com ld x,q∈ld∨(0<fK vs x∧q=jb vs k com ld x):= λ q hq=>by
  refine jw hq λ p hp=>?_
  by_cases h:x∈p.1.2
  ·rw[if_pos h];refine .inr ⟨?_,rfl⟩;refine cg (L.pos V x) λ z z h3 h4=>?_;exact dr λ e=>h4 (by lia) _ (tc hp).1 h
  ·rw[if_neg h];exact .inl (tc hp).2
 refine cI L.u λ U h0 h1 hu=>?_;refine⟨sa L _,?_,λ q hq=>?_⟩
 ·by_cases hw:0<fK vs x
  ·refine⟨U*fK vs x,qR h0 hw,?_,λ q hq=>?_⟩
   ·rw[u5];exact Aa h1 (oJ V x).2 (bL hw) (bL (wZ (by decide)))
   ·rcases pF q hq with h|⟨_,rfl⟩
    ·exact(hu q h).more _
    ·unfold jb;rw[if_neg hx,if_pos hw];exact((eH.sum (tw L hu x)).add (eH.int U 1)).div hw
  ·refine⟨U,h0,?_,λ q hq=>?_⟩
   ·rw[u5];have:(0:Int)<36^t:=wZ (by decide);lia
   ·rcases pF q hq with h|⟨h,_⟩
    ·exact hu q h
    ·exact absurd h hw
 ·rcases pF q hq with h|⟨hw,rfl⟩
  ·exact⟨(L.b q h).1,dK (L.b q h).2 (bY.mpr (by lia))⟩
  ·have:=oF (k:=k) V L hx hw;exact⟨this.1,by exact_mod_cast this.2.1⟩
theorem oV.start(vs:List Vo):oV vs 0 (vs.map λ z=>0):=by
 have h:∀q∈vs.map (λ z=>(0:Rat)),q=0:= λ q hq=>by refine c0 (aL.mp hq) λ z z e=>?_;exact e.symm
 exact⟨by exact aE _,⟨1,by decide,by decide,λ q hq=>by rw[h q hq];exact eH.int 1 0⟩,λ q hq=>by rw[h q hq];exact⟨ek,ek⟩⟩
noncomputable def xE(f:Nat→D):List Nat→List (Int×D)→List (Int×D)
 |[],acc=>acc
 |x::xs,acc=>xE f xs (((x:Int),f x)::acc)
theorem Nq(f:Nat→D)(x:Nat)(xs:List Nat)(acc:List (Int×D)):xE f (x::xs) acc=xE f xs (((x:Int),f x)::acc):=rfl
theorem mX{f:Nat→D}{x:Nat}:∀(xs:List Nat) (acc:List (Int×D)),(xE f xs acc).lookup (x:Int)=if x∈xs then some (f x)else acc.lookup (x:Int):=by
 intro w
 induction w with
 |nil=>
  intro acc;rfl
 |cons y ys ih=>
  intro acc;rw[Nq,ih,aX]
  by_cases h:x∈ys
  ·simp[h]
  ·by_cases e:x=y
   ·subst e;simp[h]
   ·have:((x:Int)==(y:Int))=false:=by simp;lia
    simp[h,e,this]
noncomputable def D6{α:Type}(v:α)(com:List Nat):List Nat→List α→List α
 |[],ws=>ws
 |x::xs,ws=>D6 v com xs (if x∈com then ws.set x v else ws)
theorem E5{α:Type}(v:α)(com:List Nat)(x:Nat)(xs:List Nat)(ws:List α):D6 v com (x::xs) ws=D6 v com xs (if x∈com then ws.set x v else ws):=rfl
theorem HP{α:Type}{v:α}:∀(xs:List Nat) (ws:List α),(D6 v com xs ws).length=ws.length:=by
 intro w
 induction w with
 |nil=>
  intro z;exact rfl
 |cons x xs ih=>
  intro ws;rw[E5,ih];split<;>simp
theorem HQ{α:Type}{v:α}{i:Nat}:∀(xs:List Nat) (ws:List α),i<ws.length→(D6 v com xs ws)[i]? =if i∈xs∧i∈com then some v else ws[i]? :=by
 intro w
 induction w with
 |nil=>
  intro ws z;rfl
 |cons x xs ih=>
  intro ws h;rw[E5,ih _ (by split<;>simpa using h)]
  by_cases h1:i∈xs∧i∈com
  ·rw[if_pos h1,if_pos ⟨.tail _ h1.1,h1.2⟩]
  ·rw[if_neg h1]
   by_cases hx:x∈com
   ·rw[if_pos hx]
    by_cases e:i=x
    ·subst e;rw[if_pos ⟨.head _,hx⟩];simp[h]
    ·rw[aQ (λ h=>e h.symm),if_neg (λ h=>h1 ⟨(aD.mp h.1).resolve_left e,h.2⟩)]
   ·rw[if_neg hx,if_neg (show¬(i∈x::xs∧i∈com)from λ h=>(aD.mp h.1).elim (λ e=>hx (by rw[← e];exact h.2)) λ h'=>h1 ⟨h',h.2⟩)]
theorem B0{α:Type}{v:α}(f:Nat→α):D6 v com (ay m) ((ay m).map f)=(ay m).map λ x=>if x∈com then v else f x:=by
 refine j4 λ i=>?_
 by_cases h:i<m
 ·rw[HQ _ _ (by simpa using h)]
  by_cases hc:i∈com<;>simp[h,hc]
 ·rw[bk (by rw[HP];simp;lia),bk (by simp;lia)]
noncomputable def AI(f:Nat→Vo→D→D):List Vo→Nat→List D→List D
 |[],_,ws=>ws
 |v::vs,i,ws=>AI f vs (i+1) (match ws[i]? with|some w=>ws.set i (f i v w)|none=>ws)
theorem Et(f:Nat→Vo→D→D)(v:Vo)(vs:List Vo)(i:Nat)(ws:List D):AI f (v::vs) i ws=AI f vs (i+1) (match ws[i]? with|some w=>ws.set i (f i v w)|none=>ws):=rfl
theorem J2(f:Nat→Vo→D→D)(i:Nat)(ws:List D):AI f [] i ws=ws:=rfl
theorem Es{f:Nat→Vo→D→D}:∀(vs:List Vo) (i:Nat) (ws:List D),ws.length=i+vs.length→∀j,(AI f vs i ws)[j]? =if i≤j then(vs[j-i]?.bind λ v=>ws[j]?.map (f j v))else ws[j]? :=by
 intro w
 induction w with
 |nil=>
  intro i ws h j;rw[J2]
  split
  ·rw[bk (by simp at h;lia)];rfl
  ·rfl
 |cons v vs ih=>
  intro i ws h j;simp only[aJ]at h;have hi:i<ws.length:=by exact GS h
  rw[Et,aq hi,ih (i+1) _ (by rw[jt];exact LN h)]
  rcases vd j i with h1|h1|h1
  ·rw[if_neg (by lia),if_neg (by lia),aQ (by exact dA h1)]
  ·subst h1;rw[if_neg (by lia),if_pos (by exact az _),bp hi,DW];simp[hi]
  ·rw[if_pos (by trivial),if_pos (by exact bX h1),aQ (by exact dM h1)];obtain⟨d,rfl⟩:∃d,j=i+1+d:=Tj h1;rw[PT,List.getElem?_cons_succ,oA]
theorem I0{k:Nat}{com:List Nat}{ld:List Rat}{x:Nat}{f:Nat→Vo→D→D}{ws:List D}(h:ld.length=vs.length)(hw:ws.length=vs.length)(hf:∀j v w,ws[j]? =some w→f j v w=eL (if x∈v.2 then jb vs k com ld x else ld.getD j 0)):AI f vs 0 ws=(upd vs k com ld x).map eL:=by
 refine j4 λ j=>?_;rw[Es vs 0 ws (by lia),if_pos (bV _),DV,bU,upd,bU]
 by_cases hj:j<vs.length
 ·have hz:j<(vs.zip ld).length:=by rw[lS];exact KD h hj
  have WX:j<ld.length:=by exact D9 h hj
  rw[aq hj,aq (show j<ws.length by exact D9 hw hj),aq hz];simp only[nv,jf,List.getElem_zip];rw[hf j _ _ (aq (show j<ws.length by lia)),ai,aq WX];rfl
 ·rw[bk (l:=vs) (by exact cw hj),bk (l:=vs.zip ld) (by rw[lS];lia)];rfl
noncomputable def cK(xs:List Nat):List Nat:=(qq (xs.map λ (x:Nat)=>(x:Int))).map CC
theorem wd(xs:List Nat):(cK xs).map (λ (x:Nat)=>(x:Int))=qq (xs.map λ (x:Nat)=>(x:Int)):=by
 unfold cK;rw[bK];have:∀y∈qq (xs.map λ (x:Nat)=>(x:Int)),((λ (x:Nat)=>(x:Int))∘CC) y=id y:= λ y hy=>by
  obtain⟨z,_,rfl⟩:=aL.mp ((mU _).mem_iff.mp hy);simp
 rw[ck this,List.map_id]
theorem eJ(xs:List Nat):(cK xs).Perm xs:=by
 have:=(mU (xs.map λ (x:Nat)=>(x:Int))).map CC;rw[bK]at this;refine this.trans (by rw[show CC∘ (λ (x:Nat)=>(x:Int))=id from funext λ x=>by simp,List.map_id])
theorem xm(xs:List Nat):(cK xs).Pairwise (·≤ ·):=by
 have h:=mT (xs.map λ (x:Nat)=>(x:Int));rw[← wd,tE]at h;exact h.imp λ h=>by exact ki.mp h
theorem AM{ys xs:List Nat}(hx:xs.Pairwise (· < ·))(hy:ys.Pairwise (· < ·))(h:∀x∈xs,x∈ys):xs.Sublist ys:=by
 induction ys generalizing xs with
 |nil=>cases xs with|nil=>exact .slnil|cons x xs=>exact nn (h x (.head _))
 |cons y ys ih=>
  have hy:=dO.mp hy;cases xs with
  |nil=>exact List.nil_sublist _
  |cons x xs=>
   have wA:=dO.mp hx
   rcases mc (h x (.head _))with rfl|hm
   ·exact(ih wA.2 hy.2 λ z hz=>(mc (h z (.tail _ hz))).elim (λ e=>TZ (wA.1 _ hz) e) id).cons₂ _
   ·refine(ih hx hy.2 λ z hz=>(mc (h z hz)).elim (λ e=>?_) id).cons _;have l:=e▸hy.1 _ hm;exact(mc hz).elim (λ e=>TZ l e.symm) λ hz=>Vx (wA.1 _ hz) l
theorem wc(hn:com.Nodup)(hr:∀x∈com,x<m)(hm:m≤4):(cK com).Sublist [0,1,2,3]:=
 have hp:=eJ com
 AM (((xm com).and (hp.nodup_iff.mpr hn)).imp λ h=>mJ h.1 h.2) (by decide) λ x hx=>
  (aM.mpr (ab (hr x (hp.mem_iff.mp hx)) hm):x∈ay 4)
theorem oK.next(C:oK m k t com)(ht:t<k)(hx:x∉com)(hm:x<m):oK m k (t+1) (com++[x]):=
 ⟨jZ.mpr ⟨C.n,jG _ _,λ a ha b hb=>by rw[aj]at hb;subst hb;exact λ e=>hx (e▸ha)⟩,λ z hz=>(aC.mp hz).elim (C.r z) (λ h=>by rw[aj]at h;subst h;exact hm),by rw[aY,C.l];rfl,C.k⟩
theorem oK.sort(C:oK m k t com):oK m k t (cK com):=
 ⟨(eJ com).nodup_iff.mpr C.n,λ z hz=>C.r z ((eJ com).mem_iff.mp hz),by rw[(eJ com).length_eq,C.l],C.k⟩
theorem oK.nil(h:k≤m):oK m k 0 []:=⟨mm,λ z=>nn,rfl,h⟩
end
section
set_option backward.match.sparseCases false
noncomputable def DF:FD:=defAt 26
noncomputable def IH:FD:=defAt 27
noncomputable def Ct:FD:=defAt 25
structure LR(c:Cx):Prop where
 Pa:FnAt c 200 pM .none
 gT:cX c "total" (.ref 200)
 kT:jz c (.ref 200)
 O6:FnAt c 441 rR .none
 gD:cX c "division" (.ref 441)
 kD:jz c (.ref 441)
 O8:FnAt c 428 DF (.ref 423)
 Pr:sX c 423 [.none,.none]
 gR:cX c "_seqphragmen_resolute" (.ref 428)
 kR:jz c (.ref 428)
 O7:FnAt c 434 IH (.ref 429)
 Pq:sX c 429 [.none,.none]
 gI:cX c "_seqphragmen_irresolute" (.ref 434)
 kI:jz c (.ref 434)
 IC:FnAt c 422 Ct (.ref 415)
 II:∃t,sX c 415 [.str "fastest" t,.bool true,.none]
 gC:cX c "compute_seqphragmen" (.ref 422)
 kC:jz c (.ref 422)
noncomputable def Je:BE:=⟨⟨588,12,588,17⟩,⟨589,18,589,23⟩,⟨589,12,589,23⟩,⟨589,12,589,23⟩,⟨588,21,588,25⟩,⟨588,21,588,33⟩,⟨588,8,589,23⟩⟩
section
variable {c:Cx}{n:Nat}{E:VE}{ρ ρ':List Sl}
theorem KU(P:iD c){tg:Expr}{m:Nat}{vs:List Vo}:Ib c (n+1) tg (pb m vs) (· =vs.map ly):=by
 refine eX P.Lu λ u F p hp hc=>?_;exact Ib.inst (nm:="_voters") (x:="self") (y:="voter") Je F (by kernel_rfl) (by kernel_rfl) P.Ry P.RA P.GJ rfl λ s v z=>.of_eq (by kernel_rfl)
theorem xQ(P:iD c)(G:PG c){elts:List Expr}{x1}{nU p pos pz:Pos}{z:Str}{m:Nat}{vs:List Vo}(hx:E.env.kindOf "enumerate"=some .globalImplicit)(h:Ev c (n+4) E ρ (.Name z pz) (pb m vs)):
  kd c (n+4) E ρ (.Call (.Name "enumerate" p) [.Name z pz] [] pos) (.Tuple elts x1 nU) (· =il 0 (vs.map ly)):=by
 refine eX P.Lu λ u F p hp hc=>?_;exact kd.enum (nm:="_voters") (x:="self") (y:="voter") Je F (by kernel_rfl) (by kernel_rfl) P.Ry P.RA P.GJ rfl (λ s v j=>.of_eq (by kernel_rfl)) hx G.enum h
noncomputable def D.QU:D→Option (List D)
 |.tup l=>some l
 |_=>.none
noncomputable def D.NA:D→Option Int
 |.int i=>some i
 |_=>.none
noncomputable def D.NC:D→Option (List (Str×D))
 |.inst _ l=>some l
 |_=>.none
noncomputable def D.Nx:D→Option (List Nat)
 |.dm l=>some l
 |_=>.none
noncomputable def Mw(d:D):Option Vo:=d.NC.bind λ l=>(l[0]?).bind λ a=>(l[1]?).bind λ b=>a.2.NA.bind λ w=>b.2.Nx.map λ xs=>(w,xs)
noncomputable def MX(d:D):Option (Int×D):=d.QU.bind λ l=>(l[0]?).bind λ a=>(l[1]?).bind λ b=>a.NA.map λ i=>(i,b)
noncomputable def CO(x:Nat)(d:D):Option D:=(Mw d).bind λ v=>if x∈v.2 then some (.int v.1)else none
theorem Ep(x:Nat)(vs:List Vo):(vs.map ly).filterMap (CO x)=D.ints ((vs.filter λ v=>decide (x∈v.2)).map (·.1)):=by
 induction vs with
 |nil=>rfl
 |cons v vs ih=>
  have e:CO x (ly v)=if x∈v.2 then some (.int v.1)else none:=rfl
  rw[a_,f_,e,ih]
  by_cases h:x∈v.2
  ·rw[if_pos h,bZ (p:= λ v:Vo=>decide (x∈v.2)) (decide_eq_true h)];rfl
  ·rw[if_neg h,b0 (p:= λ v:Vo=>decide (x∈v.2)) λ e=>h (of_decide_eq_true e)]
noncomputable def Bb(ld:List Rat)(x:Nat)(d:D):Option D:=(MX d).bind λ p=>(Mw p.2).bind λ v=>if x∈v.2 then some (eL (ld.getD p.1.toNat 0*(v.1:Rat)))else none
theorem Fx(ld:List Rat)(x:Nat)(vs:List Vo)(i:Nat)(h:ld.length=i+vs.length):(il i (vs.map ly)).filterMap (Bb ld x)=(lU vs (ld.drop i) x).map eL:=by
 induction vs generalizing i with
 |nil=>rfl
 |cons v vs ih=>
  have hi:i<ld.length:=GS h;have e:Bb ld x (.tup [.int (i:Int),ly v])=if x∈v.2 then some (eL (ld.getD i 0*(v.1:Rat)))else none:=rfl
  show yf (Bb ld x) (D.tup [.int (i:Int),ly v]::il (i+1) (vs.map ly))=_;rw[f_,e,ih (i+1) (LN h),eo hi,ai,aq hi]
  by_cases hx:x∈v.2
  ·rw[if_pos hx,PK hx];rfl
  ·rw[if_neg hx,PJ hx]
theorem yW{d:D}{vs:List Vo}{i:Nat}(h:d∈il i (vs.map ly)):∃j v,v∈vs∧i≤j∧j<i+vs.length∧d=.tup [.int (j:Int),ly v]:=by
 induction vs generalizing i with
 |nil=>exact nn h
 |cons v vs ih=>
  rcases mc h with rfl|h
  ·exact⟨i,v,.head _,az _,jO (bB _),rfl⟩
  ·exact bO (ih h) λ j w hw h1 h2 e=>⟨j,w,.tail _ hw,bX h1,fx h2 (dq i 1 _),e⟩
theorem Lp.fill(i j:Nat){x y:Str}{f:Nat→D}{p1 p2 p3 p4 pos:Pos}{e:Expr}(hy:E.vn[i]? =some y)(hx:E.vn[j]? =some x)(hj:j<E.k)(rJ:i≠j)(hl:i<ρ.length)(dP:ρ[j]? =some .no)(hs:swapsWith e (some (.Subscript (.Name y p2) (.Name x p3) p4)) pos.line E.env=pure false):∀(xs:List Nat) (N:Nat) (acc:List (Int×D)),N+xs.length≤900→
  (∀z∈xs,∀N acc,Ev c n E ((ρ.set i (.own true (.dJ N acc))).set j (.val (.int (z:Int)))) e (f z))→
  Lp c n E (ρ.set i (.own true (.dJ N acc))) (.Name x p1) [.Assign [.Subscript (.Name y p2) (.Name x p3) p4] e pos] (D.nats xs) (.next (ρ.set i (.own true (.dJ (N+xs.length) (xE f xs acc))))):=by
 intro w
 induction w with
 |nil=>
  intro N acc u u;exact Lp.nil
 |cons z xs ih=>
  intro N acc hz he;have K2:j<ρ.length:=(aw.mp dP).1;simp only[aJ]at hz⊢;rw[show N+(xs.length+1)=(N+1)+xs.length by lia];refine Lp.step (ρ'':=ρ.set i (.own true (.dJ (N+1) (((z:Int),f z)::acc)))) (ju.name j hx hj (by simpa using K2)) ?_ (ih _ _ (by exact JQ hz rfl) λ z' h=>he z' (.tail _ h));have hi:((ρ.set i (.own true (.dJ N acc))).set j (.val (.int (z:Int))))[i]? =some (.own true (.dJ N acc)):=by rw[aQ (Ne.symm rJ),bp hl]
  have Om:((ρ.set i (.own true (.dJ N acc))).set j (.val (.int (z:Int))))[j]? =some (.val (.int (z:Int))):=by rw[bp (by simpa using K2)]
  have q:=bc.Q0 i (pos:=pos) (p:=p2) (p':=p4) (ke:=.Name x p3) (he z (.head _) N acc) (Ev.nm j hx Om) hy hi (by exact GV hz rfl) hs;rw[Ay _ _ rJ.symm,l_]at q;exact Ex.weak (Ex.one q) (cy.set (by rw[ai,aQ rJ,dP];rfl))
theorem Fn.n6(P:fj c){qs:List Rat}(h:qs≠[])(hd:∀q∈qs,(q.den:Int)<2^32):Fn c (n+2) (.builtin "min") [.lst (qs.map eL)] [] (eL (n6 qs)):=by
 cases qs with
 |nil=>exact absurd rfl h
 |cons q qs=>exact Fn.HY (f:=eL) (lt:=Jm) λ y hy z hz=>Tb P (kj (hd y hy) (by decide)) (kj (hd z hz) (by decide))
theorem vR.nats{xs:List Nat}(hl:xs.length<64):vR c n [] (D.nats xs) (D.nats (cK xs)):=by
 have:=vR.ints (c:=c) (n:=n) (xs:=xs.map λ (x:Nat)=>(x:Int)) (by simpa using hl);rwa[← wd,← dW,← dW]at this
theorem DC{qs:List Rat}{i:Nat}{q:Rat}(h:qs[i]? =some q):(qs.map eL)[((i:Nat):Int).toNat]? =some (eL q):=by
 show(qs.map eL)[i]? =_;rw[bU,h];rfl
theorem xw{vs:List Vo}{m k:Nat}{com:List Nat}{ld:List Rat}{x:Nat}(h:x<m):(nC vs m k com ld)[x]? =some (jb vs k com ld x):=by
 unfold nC;rw[bU,qZ h];rfl
end
end
section
variable {c:Cx}{n:Nat}{E:VE}{ρ ρ':List Sl}
theorem X3{v:Vo}{x:Nat}{y:Str}{q:Pos}{e elt:Expr}(hx:E.vn[0]? =some y)(hk:0<E.k)(dP:ρ[0]? =some .no)(t:Tr c n E (ρ.set 0 (.val (ly v))) e (decide (x∈v.2)))(h:xZ c n E (ρ.set 0 (.val (ly v))) elt (.int v.1)):
  El c n E ρ (.Name y q) [e] (ly v) (CO x (ly v)).isSome λ ρ'=>∀z,CO x (ly v)=some z→xZ c n E ρ' elt z:=by
 have e0:CO x (ly v)=if x∈v.2 then some (D.int v.1)else none:=rfl
 rw[e0]
 by_cases hm:x∈v.2
 ·rw[if_pos hm];rw[decide_eq_true hm]at t;exact El.Fa 0 hx hk dP t λ j z hz=>by cases hz;exact h
 ·rw[if_neg hm];rw[decide_eq_false hm]at t;exact El.Fa 0 hx hk dP t λ h=>nomatch h
theorem X4{v:Vo}{x j:Nat}{ld:List Rat}{y y':Str}{p p' q:Pos}{k:Nat}{e elt:Expr}(hx:E.vn[0]? =some y)(wA:E.vn[1]? =some y')(hk:1<E.k)(dP:ρ[0]? =some .no)(ux:ρ[1]? =some .no)(t:Tr c n E ((ρ.set 0 (.val (.int (j:Int)))).set 1 (.val (ly v))) e (decide (x∈v.2)))(h:xZ c n E ((ρ.set 0 (.val (.int (j:Int)))).set 1 (.val (ly v))) elt (eL (ld.getD j 0*(v.1:Rat)))):
  El c n E ρ (.Tuple [.Name y p,.Name y' p'] k q) [e] (.tup [.int (j:Int),ly v]) (Bb ld x (.tup [.int (j:Int),ly v])).isSome λ ρ'=>∀z,Bb ld x (.tup [.int (j:Int),ly v])=some z→xZ c n E ρ' elt z:=by
 have e0:Bb ld x (.tup [.int (j:Int),ly v])=if x∈v.2 then some (eL (ld.getD j 0*(v.1:Rat)))else none:=rfl
 rw[e0]
 by_cases hm:x∈v.2
 ·rw[if_pos hm];rw[decide_eq_true hm]at t;exact El.I5 0 1 hx (kr hk) dP wA hk ux t λ u z hz=>by cases hz;exact h
 ·rw[if_neg hm];rw[decide_eq_false hm]at t;exact El.I5 0 1 hx (kr hk) dP wA hk ux t λ h=>nomatch h
theorem xV{i:Nat}{tn:List Str}{ix:List Nat}{j:Nat}{d:D}(hi:ix[i]? =some j)(hj:ρ[j]? =some (.val d)):(oT ρ tn ix)[tn.length+i]? =some (.val d):=by
 unfold oT;rw[dZ (by simp),D2,oA,bU,hi,jf,ai,hj];rfl
theorem Ev.cast{e:Expr}{d d':D}(h:d=d')(x:Ev c n E ρ e d'):Ev c n E ρ e d:=h▸x
theorem Ev.fK(P:iD c)(G:PG c){m x:Nat}{vs:List Vo}(V:lj m vs)(i j:Nat){scope:iU}{p1 p2 p3 p4 p5 p6 p7 p8 p9 uE pos:Pos}{tb:Addr×Addr}(k:sD E.env E.vn scope ["voter"] [j]=true)(h0:scope.names.lookup (".0":Str)=some NameKind.local)(hs:E.env.kindOf "sum"=some .globalImplicit)(KY:E.vn[i]? =some ("profile":Str))(KX:ρ[i]? =some (.val (pb m vs)))(Dw:E.vn[j]? =some ("cand":Str))(Lc:ρ[j]? =some (.val (.int (x:Int))))(hp:tb∈c.tabs)(hc:E.env.code=.ref tb.1)(hf:∀z,genFold (.Name "profile" p5) E.env z=pure z):
  Ev c (n+5) E ρ (.Call (.Name "sum" p1) [.GeneratorExp (.Attribute (.Name "voter" p2) "weight" p3) [⟨.Name "voter" p4,.Name "profile" p5,[.Compare (.Name "cand" p6) [.In] [.Attribute (.Name "voter" p7) "approved" p8] p9],0⟩] scope uE] [] pos) (.int (fK vs x)):=by
 refine Ev.zT (m:=n+4) (tg:=.Name "x" default) hs G.sum trivial (Hf.mk (n:=n+2) k h0 (CO x) (kd.of (Ev.nm i KY KX) (KU (n:=n+1) P)) hp hc (λ ds hd C code d iQ=>?_) hf) (by exact bq _) λ eK ho=>?_
 ·subst hd;refine jw iQ λ v hv=>?_;refine X3 rfl (by show 0<vU ["voter"];decide) rfl (Tr.cmp (Ev.nm 1 (by simp[kL,ji,ai,Dw]) ((aQ (by decide)).trans (xV (tn:=["voter"]) (ix:=[j]) (i:=0) rfl Lc))) (Ev.attr (Ev.nm 0 rfl rfl) P.LJ rfl) cC.inSet) ((Ev.attr (Ev.nm 0 rfl rfl) P.PB rfl).flat rfl)
 ·obtain⟨ds,rfl,rfl⟩:=ho;rw[Ep];refine yb.Ht (n:=n+4) (az _) (λ y hy=>?_) ?_
  ·refine jw hy λ v hv=>?_;have:=V.w v (aN.mp hv).1;exact P8 (bL this.1) (b_ this.2 (by decide))
  ·have h1:(vs.filter λ v=>decide (x∈v.2)).length≤vs.length:=bG _ _;have:=V.l;rw[aE];exact G3 h1 this rfl
theorem Ev.LK(PF:fj c)(P:iD c)(G:PG c)(Q:LR c){m x t:Nat}{vs:List Vo}{ld:List Rat}{dl:D}(V:lj m vs)(L:oV vs t ld)(ht:t≤4)(hl:∀j,j<vs.length→∀n',Mine.Sub c (n'+1) dl (.int (j:Int)) (eL (ld.getD j 0)))(i j l:Nat){scope:iU}{p1 p2 p3 p4 p5 p6 p7 p8 p9 q1 q2 q3 q4 q5 uE pos:Pos}{k1:Nat}{tb:Addr×Addr}(k:sD E.env E.vn scope ["v","voter"] [j,l]=true)(h0:scope.names.lookup (".0":Str)=some NameKind.local)(hs:E.env.kindOf "total"=some .globalImplicit)(W6:E.env.kindOf "enumerate"=some .globalImplicit)(KY:E.vn[i]? =some ("profile":Str))(KX:ρ[i]? =some (.val (pb m vs)))(Dw:E.vn[j]? =some ("cand":Str))(Lc:ρ[j]? =some (.val (.int (x:Int))))(Qi:E.vn[l]? =some ("load":Str))(Se:ρ[l]? =some (.val dl))(hp:tb∈c.tabs)(hc:E.env.code=.ref tb.1)(hf:∀z,genFold (.Call (.Name "enumerate" q4) [.Name "profile" p5] [] q5) E.env z=pure z):
  Ev c (n+9) E ρ (.Call (.Name "total" p1) [.GeneratorExp (.BinOp (.Subscript (.Name "load" q1) (.Name "v" q2) q3) .Mult (.Attribute (.Name "voter" p2) "weight" p3) p9) [⟨.Tuple [.Name "v" p4,.Name "voter" p8] k1 uE,.Call (.Name "enumerate" q4) [.Name "profile" p5] [] q5,[.Compare (.Name "cand" p6) [.In] [.Attribute (.Name "voter" p7) "approved" pos] pr],0⟩] scope gp] [] ps) (lV (nz (lU vs ld x) none)):=by
 refine Ev.zT (m:=n+8) (tg:=xd) hs Q.gT Q.kT (Hf.mk (n:=n+6) k h0 (Bb ld x) (xQ (n:=n+2) P G W6 (Ev.nm i KY KX)) hp hc (λ ds hd C code d iQ=>?_) hf) (by exact bq _) λ eK ho=>?_
 ·subst hd;refine bO (yW iQ) λ b v hv u hb z1=>?_;subst z1;have OF:b<ld.length:=by rw[L.l];lia
  have hq:((ld.getD b 0).den:Int)<2^64:=by
   rw[ai,aq OF];exact kj (L.den ht _ (gb OF)) (by decide)
  have hw:=V.w v hv;refine X4 rfl rfl (by show 1<vU ["v","voter"];decide) rfl rfl
   (Tr.cmp (Ev.nm 2 (by simp[kL,ji,ai,Dw]) ((aQ (by decide)).trans ((aQ (by decide)).trans (xV (tn:=["v","voter"]) (ix:=[j,l]) (i:=0) rfl Lc)))) (Ev.attr (Ev.nm 1 rfl rfl) P.LJ rfl) cC.inSet)
   (xZ.bin (Ev.sub (Ev.nm 3 (by simp[kL,ji,ai,Qi]) ((aQ (by decide)).trans ((aQ (by decide)).trans (xV (tn:=["v","voter"]) (ix:=[j,l]) (i:=1) rfl Se)))) (Ev.nm 0 rfl rfl) (hl b (by lia) (n+5))) (Ev.attr (Ev.nm 1 rfl rfl) P.PB rfl) (Lq (n:=n+3) PF hq (by lia) (by lia)))
 ·refine c0 ho ?_;clear ho;intro ds z1 z2;subst z1;subst z2;rw[Fx ld x vs 0 (by rw[L.l];lia),List.drop_zero];exact AJ (n:=n+5) PF Q.Pa (by exact az _) (L.T2 ht x)
theorem Vk(PF:fj c)(Q:LR c){m x t k:Nat}{vs:List Vo}{ld:List Rat}{kv kw:List (Int×D)}(V:lj m vs)(L:oV vs t ld)(ht:t≤4)(hv:kv.lookup (x:Int)=some (lV (nz (lU vs ld x) none)))(hw:kw.lookup (x:Int)=some (.int (fK vs x))){p0 p1 p2 p3 p4 p5 p6 p7 p8 p9 q1 q2 q3 q4 q5 q6 q7 q8 q9:Pos}{k1 k2 k3:Nat}(hk:0<E.k)(h0:E.vn[0]? =some ("cand":Str))(h1:E.vn[1]? =some ("approvers_load":Str))(h2:E.vn[2]? =some ("approvers_weight":Str))(h3:E.vn[3]? =some ("committeesize":Str))(hd:E.env.kindOf "division"=some .globalImplicit)(hF:E.env.kindOf "Fraction"=some .globalImplicit):
  El c (n+3) E [.no,.val (.dJ kv),.val (.dJ kw),.val (.int (k:Int))] (.Name "cand" p0) [] (.int (x:Int)) (i8 (λ i=>eL (jb vs k [] ld i.toNat)) (.int (x:Int))).isSome λ ρ'=>∀z,i8 (λ i=>eL (jb vs k [] ld i.toNat)) (.int (x:Int))=some z→Ev c (n+3) E ρ'
   (.IfExp (.Compare (.Subscript (.Name "approvers_weight" p1) (.Name "cand" p2) p3) [.Gt] [.Constant (.int 0) k1 p4] p5)
    (.Call (.Name "division" p6) [.BinOp (.Subscript (.Name "approvers_load" p7) (.Name "cand" p8) p9) .Add (.Constant (.int 1) k2 q1) q2,.Subscript (.Name "approvers_weight" q3) (.Name "cand" q4) q5] [] q6)
    (.Call (.Name "Fraction" q7) [.BinOp (.Name "committeesize" q8) .Add (.Constant (.int 1) k3 q9) r1] [] r2) r3) z:=by
 refine wO h0 hk rfl ?_;have gz:=L.T2 ht x;refine cI L.u λ U Qx SQ hu=>?_;have hU:=b_ (d9 SQ (yP ht)) (show(36:Int) ^4<2^31 by decide);have N1:=eH.sum (tw L hu x);refine cg (L.pos V x) λ b1 b2 b3 b4=>?_;have hb:=(oJ V x).2;have tr:Tr c (n+3) E [.val (.int (x:Int)),.val (.dJ kv),.val (.dJ kw),.val (.int (k:Int))] (.Compare (.Subscript (.Name "approvers_weight" p1) (.Name "cand" p2) p3) [.Gt] [.Constant (.int 0) k1 p4] p5) (decide ((0:Int)<fK vs x)):=
  Tr.cmp (Ev.sub (Ev.nm 2 h2 rfl) (Ev.nm 0 h0 rfl) (Sub.dJ hw)) Ev.int cC.Mn
 by_cases hp:0<fK vs x
 ·have e:eL (jb vs k [] ld (x:Int).toNat)=if decide ((0:Int)<fK vs x)=true then eL (((lU vs ld x).sum+(1:Int)) / ((fK vs x:Int):Rat))else .none:=by
   rw[decide_eq_true hp,if_pos rfl];simp only[eT];unfold jb;rw[if_neg (by simp),if_pos hp]
  rw[e];refine Ev.ite tr (λ j=>?_) λ h=>absurd hp (by simpa using h);have ku:lU vs ld x≠[]:= λ e0=>by
   have:∀v∈vs,x∉v.2:= λ v hv hx=>by
    obtain⟨i,hi,rfl⟩:=eV hv;have hz:i<(vs.zip ld).length:=by rw[lS,L.l];simpa using hi
    have hm:(vs.zip ld)[i]∈(vs.zip ld).filter (λ p=>decide (x∈p.1.2)):=aN.mpr ⟨gb hz,by simpa using hx⟩;rw[qY.mp e0]at hm;exact nn hm
   have h0:fK vs x=0:=by unfold fK;rw[j8.mpr λ v hv=>by simpa using this v hv];rfl
   lia
  have e1:lV (nz (lU vs ld x) none)=eL ((lU vs ld x).sum):=by rw[td,if_neg ku];simp only[lV,pS,Rat.add_zero]
  rw[e1]at hv;have Sy:=N1.den Qx;have Bk:=(N1.add (eH.int U 1)).den Qx;refine Ev.call hd Q.gD Q.kD (cn.cons (Ev.bin (Ev.sub (Ev.nm 1 h1 rfl) (Ev.nm 0 h0 rfl) (Sub.dJ hv)) Ev.int (Gj (n:=n) PF (by lia)).bin) (cn.cons (Ev.sub (Ev.nm 2 h2 rfl) (Ev.nm 0 h0 rfl) (Sub.dJ hw)) .nil)) .nil ((vN (n:=n) PF Q.O6 hp (b_ Bk (by exact L6 hU rfl)) (by exact RG hb rfl)).fn rfl)
 ·have e:eL (jb vs k [] ld (x:Int).toNat)=if decide ((0:Int)<fK vs x)=true then .none else eL (((k:Int)+1:Int):Rat):=by
   rw[decide_eq_false hp,if_neg (by decide)];simp only[eT];unfold jb;rw[if_neg (by simp),if_neg hp]
  rw[e];exact Ev.ite tr (λ h=>absurd (by simpa using h) hp) λ j=>Ev.call hF PF.sS PF.keep (cn.cons (Ev.bin (Ev.nm 3 h3 rfl) Ev.int gH.rT) .nil) .nil ((oi (n:=n+1) PF _).fn rfl)
theorem Lp.D6(i j:Nat){x y:Str}{com:List Nat}{w:D}{p1 p2 p3 p4 pos pos':Pos}{te e:Expr}(hy:E.vn[i]? =some y)(hx:E.vn[j]? =some x)(hj:j<E.k)(rJ:i≠j)(hl:i<ρ.length)(dP:ρ[j]? =some .no)(hs:swapsWith e (some (.Subscript (.Name y p2) (.Name x p3) p4)) pos.line E.env=pure false):∀(xs:List Nat) (ws:List D),ws.length≤900→(∀z∈xs,z<ws.length)→
  (∀z∈xs,∀ws,Tr c n E ((ρ.set i (.own true (.lst ws))).set j (.val (.int (z:Int)))) te (decide (z∈com))∧Ev c n E ((ρ.set i (.own true (.lst ws))).set j (.val (.int (z:Int)))) e w)→
  Lp c n E (ρ.set i (.own true (.lst ws))) (.Name x p1) [.If te [.Assign [.Subscript (.Name y p2) (.Name x p3) p4] e pos] [] pos'] (D.nats xs) (.next (ρ.set i (.own true (.lst (D6 w com xs ws))))):=by
 intro w
 induction w with
 |nil=>
  intro ws u u u;exact Lp.nil
 |cons z xs ih=>
  intro ws hz hw he;have K2:j<ρ.length:=(aw.mp dP).1;rw[E5];refine Lp.step (ρ'':=ρ.set i (.own true (.lst (if z∈com then ws.set z w else ws)))) (ju.name j hx hj (by simpa using K2)) ?_ (ih _ (by split<;>simpa using hz) (λ z' h=>by have:=hw z' (.tail _ h);split<;>simpa using this) λ z' h=>he z' (.tail _ h));have hi:((ρ.set i (.own true (.lst ws))).set j (.val (.int (z:Int))))[i]? =some (.own true (.lst ws)):=by rw[aQ (Ne.symm rJ),bp hl]
  have Om:((ρ.set i (.own true (.lst ws))).set j (.val (.int (z:Int))))[j]? =some (.val (.int (z:Int))):=by rw[bp (by simpa using K2)]
  refine xa (he z (.head _) ws) λ t ev=>?_;refine Ex.weak (ρ₁:=(ρ.set i (.own true (.lst (if z∈com then ws.set z w else ws)))).set j (.val (.int (z:Int)))) (Ex.one (bc.ite t (λ h=>?_) λ h=>?_)) (cy.set (by rw[ai,aQ rJ,dP];rfl))
  ·rw[if_pos (by simpa using h)];have q:=bc.px i (pos:=pos) (p:=p2) (p':=p4) (ke:=.Name x p3) ev (Ev.nm j hx Om) hy hi (by exact cz _) (by have:=hw z (.head _);exact cA.mpr this) hz hs;rw[Ay _ _ rJ.symm,l_]at q;exact Ex.one q
  ·rw[if_neg (by simpa using h)];exact Ex.nil
theorem Lp.upd(i j o:Nat){x y:Str}{f:Nat→Vo→D→D}{p p' q:Pos}{k:Nat}{body:List Stmt}(hx:E.vn[j]? =some x)(hy:E.vn[o]? =some y)(hj:j<E.k)(ho:o<E.k)(rJ:i≠j)(UO:i≠o)(hl:i<ρ.length)(dP:ρ[j]? =some .no)(ux:ρ[o]? =some .no){vs:List Vo}{N:Nat}(hb:∀v∈vs,∀(a:Nat) (ws:List D) (w:D),ws.length=N→ws[a]? =some w→Ex c n E (((ρ.set i (.own true (.lst ws))).set j (.val (.int (a:Int)))).set o (.val (ly v))) body (.next (((ρ.set i (.own true (.lst (ws.set a (f a v w))))).set j (.val (.int (a:Int)))).set o (.val (ly v))))):
  ∀(i7:List Vo) (a:Nat) (ws:List D),(∀v∈i7,v∈vs)→ws.length=a+i7.length→ws.length=N→Lp c n E (ρ.set i (.own true (.lst ws))) (.Tuple [.Name x p,.Name y p'] k q) body (il a (i7.map ly)) (.next (ρ.set i (.own true (.lst (AI f i7 a ws)))))
 |[],a,ws,_,_,_=>Lp.nil
 |v::i7,a,ws,hv,hz,hN=>by
  simp only[aJ]at hz;have K2:j<ρ.length:=(aw.mp dP).1;have Sd:o<ρ.length:=(aw.mp ux).1;have ha:a<ws.length:=by exact GS hz
  rw[a_,il,Et,aq ha];refine Lp.step (CR j o hx hj (by simpa using K2) hy ho (by simpa using Sd)) (Ex.weak (hb v (hv v (.head _)) a ws _ hN (aq ha)) ?_) (Lp.upd i j o hx hy hj ho rJ UO hl dP ux hb i7 (a+1) _ (λ v h=>hv v (.tail _ h)) (by rw[jt];exact LN hz) (by rw[jt];exact hN));exact cy.HB (by rw[ai,aQ rJ,dP];rfl) (by rw[ai,aQ UO,ux];rfl)
end
noncomputable def qp(vs:List Vo)(m k:Nat)(s:List Nat×List Rat):List Nat×List Rat:=
 (cK (s.1++[(eU vs m k s.1 s.2).headD 0]),upd vs k s.1 s.2 ((eU vs m k s.1 s.2).headD 0))
noncomputable def rn(vs:List Vo)(m k:Nat):Nat→List Nat×List Rat→List Nat×List Rat
 |0,s=>s
 |r+1,s=>rn vs m k r (qp vs m k s)
theorem EZ(vs:List Vo)(m k r:Nat)(s:List Nat×List Rat):rn vs m k (r+1) s=rn vs m k r (qp vs m k s):=rfl
theorem Kk(vs:List Vo)(m k:Nat)(s:List Nat×List Rat):rn vs m k 0 s=s:=rfl
structure GZ(vs:List Vo)(m k t:Nat)(s:List Nat×List Rat):Prop where
 c:oK m k t s.1
 l:oV vs t s.2
theorem k9{vs:List Vo}{m k:Nat}{com:List Nat}{ld:List Rat}{x:Nat}(h:x∈eU vs m k com ld):x<m:=(lC.mp h).1
theorem head_mem{α:Type}{d:α}{l:List α}(h:l≠[]):l.headD d∈l:=by
 cases l with
 |nil=>exact absurd rfl h
 |cons a l=>exact .head _
theorem GZ.step{vs:List Vo}{m k t:Nat}{s:List Nat×List Rat}(V:lj m vs)(S:GZ vs m k t s)(ht:t<k):GZ vs m k (t+1) (qp vs m k s):=by
 have hx:=head_mem (d:=0) (th (vs:=vs) (m:=m) (k:=k) (com:=s.1) (ld:=s.2) (by have:=S.c.k;lia));have ho:=ic V S.l S.c ht hx;exact⟨(S.c.next ht ho (k9 hx)).sort,tP V S.l ho⟩
theorem GZ.run{vs:List Vo}{m k:Nat}(V:lj m vs):∀(r t:Nat) (s:List Nat×List Rat),t+r=k→GZ vs m k t s→GZ vs m k k (rn vs m k r s)
 |0,t,s,h,S=>by rw[Kk];have:t=k:=h;exact this▸S
 |r+1,t,s,h,S=>GZ.run V r (t+1) _ (by exact By h) (S.step V (by exact JP h))
section
variable {c:Cx}{n:Nat}
noncomputable abbrev Kh:List Str:=["profile","committeesize","algorithm","start_load","partial_committee","approvers_weight","cand","load","committee","detailed_info","_","approvers_load","new_maxload","opt","tied_cands","next_cand","v","voter"]
noncomputable abbrev sr:List Str:=["next_cand","tied_cands","load","max_load"]
theorem FH:sr.Nodup:=of_decide_eq_true (by kernel_rfl)
theorem Ex.info(i:Nat){E:VE}{ρ:List Sl}{x:Str}{p pos pos':Pos}{ks:List (Option Expr)}{vs:List Expr}{ns:List Str}{ss:List Stmt}{out:Out}(h:KL ks vs ns)(h0:ns≠[])(hlen:ns.length≤15)(xI:ns.Nodup)(hx:E.vn[i]? =some x)(hi:i<E.k)(hl:i<ρ.length)(k:Ex c n E (ρ.set i (.own true (sq c ns.length 0 ns))) ss out):Ex c n E ρ (.Assign [.Name x p] (.Dict ks vs pos) pos'::ss) out:=Ex.seq (bc.lh i (gF.info h h0 hlen xI) hx hi hl rfl) k
theorem Ex.ND(i l:Nat){E:VE}{ρ:List Sl}{x key y:Str}{m N oc:Nat}{keys:List Str}{p p1 p2 p3 p4 pos:Pos}{ke:Expr}{xs:List Int}{ds:List D}{ss:List Stmt}{out:Out}(hk:Ev c (n+1) E (ρ.set l (.val (.lst ds))) ke (.tup (D.ints xs)))(hy:E.vn[l]? =some y)(hl:ρ[l]? =some (.own true (.lst ds)))(hx:E.vn[i]? =some x)(dP:ρ[i]? =some (.own true (sq c m N keys)))(hm:m≤900)(k:Ex c (n+1) E (ρ.set i (.val .any)) ss out):
  Ex c (n+1) E ρ (.Assign [.Subscript (.Name x p) (.Constant (.str key) oc p1) p2] (.Dict [some ke] [.Name y p3] p4) pos::ss) out:=by
 have Md:l<ρ.length:=(aw.mp hl).1;have WY:i<ρ.length:=(aw.mp dP).1;refine Ex.seq (bc.setInfo i (Ev.I_ l hy hl rfl (Ev.Pm hk (Ev.nm l hy (by rw[bp Md])))) hx dP hm rfl) ?_;refine Ex.freeze i hx (by rw[bp WY]) rfl ?_;rw[l_];exact k
noncomputable abbrev EO(c:Cx)(m k:Nat)(vs:List Vo)(ld:List D)(com:List Nat)(N:Nat)(l:List Sl):List Sl:=
 [.val (pb m vs),.val (.int (k:Int)),.val (.str "standard-fractions"),.val .none,.val .none,.val (.dJ (xE (λ x=>.int (fK vs x)) (ay m) [])),.no,.own true (.lst ld),.val (.lst (D.nats com)),.own true (sq c 4 N sr)]++l
theorem dk(xs:List Nat):(D.nats xs).length=xs.length:=by exact aE _
theorem uf(xs:List Nat)(x:Nat):D.nats xs++[.int (x:Int)]=D.nats (xs++[x]):=by simp[D.nats]
set_option maxHeartbeats 400000 in
theorem EX(Q:LR c)(P:iD c)(PF:fj c)(G:PG c){m k:Nat}{vs:List Vo}(V:lj m vs)(h4:m≤4)(hk:k≤m):
  Fn c (n+16) (.ref 428) [] [("profile",pb m vs),("committeesize",.int (k:Int)),("algorithm",.str "standard-fractions")] (.tup [.lst [.lst (D.nats (rn vs m k k ([],vs.map λ g=>0)).1)],.any]):=by
 refine eX Q.O8 λ u F p hp hc=>?_;have hV:=V.l;refine Fn.of (vn:=Kh) (np:=5) [.kw 0,.kw 1,.kw 2,.dN,.dN] F (by kernel_rfl) (by kernel_rfl) rfl rfl ?_ λ L=>?_
 ·intro s vs ks S hv hk;cases Nn hv;refine iu (Qb hk) λ a b c z1=>?_;subst z1;exact Q.Pr.binds S rfl rfl rfl
 ·show Ex c (n+15) (mO (DF.fd (.ref 423) u) L 428 Kh) [.val (pb m vs),.val (.int (k:Int)),.val (.str "standard-fractions"),.val .none,.val .none,.no,.no,.no,.no,.no,.no,.no,.no,.no,.no,.no,.no,.no] _ _;refine Ex.seq (bc.ite (p:=false) (Tr.cmp (Ev.nm 2 rfl rfl) Ev.nA cC.Mo) (λ h=>by cases h) λ g=>Ex.nil) ?_;refine Ex.seq (bc.ite (p:=false) (Tr.cmp (Ev.nm 2 rfl rfl) Ev.nA cC.T9) (λ h=>by cases h) λ g=>Ex.nil) ?_;refine Ex.seq (bc.lh 5 gF.Cs rfl (od rfl) (od rfl)) ?_;refine Ex.seq (ρ':=[.val (pb m vs),.val (.int (k:Int)),.val (.str "standard-fractions"),.val .none,.val .none,.own true (.dJ (0+(ay m).length) (xE (λ x=>.int (fK vs x)) (ay m) [])),.no,.no,.no,.no,.no,.no,.no,.no,.no,.no,.no,.no]) (bc.for (kd.of (Ev.attr (Ev.nm 0 rfl rfl) P.Cw rfl) Ib.list) λ ds hd=>?_) ?_
  ·subst hd;refine Lp.fill (ρ:=[.val (pb m vs),.val (.int (k:Int)),.val (.str "standard-fractions"),.val .none,.val .none,.no,.no,.no,.no,.no,.no,.no,.no,.no,.no,.no,.no,.no]) 5 6 rfl rfl (od rfl) (od rfl) (od rfl) rfl rfl (ay m) 0 [] (by simp;exact af h4 (aG _ _)) λ z g N acc=>?_;exact Ev.fK P G V 0 6 (by kernel_rfl) rfl (by kernel_rfl) rfl rfl rfl rfl hp hc (by intro g;rfl)
  refine Ex.freeze 5 rfl rfl rfl ?_;refine Ex.seq (bc.asg 7 (Ev.nm 3 rfl rfl) rfl (od rfl) (od rfl)) ?_;refine Ex.seq (ρ':=[.val (pb m vs),.val (.int (k:Int)),.val (.str "standard-fractions"),.val .none,.val .none,.val (.dJ (xE (λ x=>.int (fK vs x)) (ay m) [])),.no,.own true (.lst ((vs.map λ g=>(0:Rat)).map eL)),.no,.no,.no,.no,.no,.no,.no,.no,.no,.no])
   (bc.ite (p:=true) (Tr.cmp (Ev.nm 7 rfl rfl) Ev.lF (cC.Ny rfl)) (λ g=>Ex.one ?_) (λ h=>by cases h)) ?_
  ·have e:(vs.map λ g=>(0:Rat)).map eL=(D.nats (ay vs.length)).filterMap (i8 λ g=>eL 0):=by
    rw[fC,bK];refine j4 λ i=>?_
    by_cases h:i<vs.length
    ·simp[h]
    ·simp[h]
   rw[e];refine bc.lh 7 (gF.comp (tn:=["_"]) (ix:=[]) (by kernel_rfl) (ds:=D.nats (ay vs.length)) (i8 λ g=>eL 0) (rq G (by exact rF hV rfl) (by kernel_rfl) (Ev.call (by kernel_rfl) G.len trivial (cn.cons (Ev.nm 0 rfl rfl) .nil) .nil (A7 (n:=n+13) P G (by lia)))) (by simp[D.nats];exact rF hV rfl) λ C d hd=>?_) rfl (od rfl) (od rfl);refine c0 (gj hd) λ x hx z1=>?_;subst z1;exact wO rfl (od rfl) rfl (Ev.call (by kernel_rfl) PF.sS PF.keep (cn.cons Ev.int .nil) .nil ((oi (n:=n+13) PF 0).fn rfl))
  refine Ex.seq (bc.asg 8 (Ev.nm 4 rfl rfl) rfl (od rfl) (od rfl)) ?_;refine Ex.seq (ρ':=[.val (pb m vs),.val (.int (k:Int)),.val (.str "standard-fractions"),.val .none,.val .none,.val (.dJ (xE (λ x=>.int (fK vs x)) (ay m) [])),.no,.own true (.lst ((vs.map λ g=>(0:Rat)).map eL)),.val (.lst []),.no,.no,.no,.no,.no,.no,.no,.no,.no])
   (bc.ite (p:=true) (Tr.cmp (Ev.nm 4 rfl rfl) Ev.lF (cC.Ny rfl)) (λ g=>Ex.one (bc.asg 8 (Ev.lst .nil) rfl (od rfl) (od rfl))) (λ h=>by cases h)) ?_
  with_reducible refine Ex.info 9 (ns:=sr) ?_ ?_ ?_ FH ?_ ?_ ?_ ?_
  ·exact .cons (.cons (.cons (.cons .nil)))
  ·simp
  ·simp
  ·rfl
  ·exact(od rfl)
  ·exact(od rfl)
  have hK:∀x,x<m→(xE (λ x=>D.int (fK vs x)) (ay m) []).lookup (x:Int)=some (.int (fK vs x)):= λ x hx=>by rw[mX,if_pos (aM.mpr hx)]
  have key:∀(ds:List D) (t:Nat) (s:List Nat×List Rat) (N:Nat),t+ds.length=k→GZ vs m k t s→N+4*ds.length≤100→Lp c (n+15) (mO (DF.fd (.ref 423) u) L 428 Kh) (EO c m k vs (s.2.map eL) s.1 N (al 8 .no))
    (pJ DF.body 9) (nF DF.body 9) ds
    (.next (EO c m k vs ((rn vs m k ds.length s).2.map eL) (rn vs m k ds.length s).1 (N+4*ds.length) (al 8 .no))):=by
   intro ds
   induction ds with
   |nil=>intro t s N g g g;exact Lp.nil
   |cons d ds ih=>
    intro t s N hz S hN;simp only[aJ]at hz hN⊢;rw[show N+4*(ds.length+1)=(N+4)+4*ds.length by lia];have ht:t<k:=by exact JP hz
    have G6:=S.l.l;have Sf:=S.c.l;obtain⟨com,ld⟩:=s;simp only at G6 Sf;refine Lp.step (ρ'':=EO c m k vs ((qp vs m k (com,ld)).2.map eL) (qp vs m k (com,ld)).1 (N+4) (al 8 .no)) (ju.name 10 rfl (od rfl) (od rfl)) ?_ (ih (t+1) (qp vs m k (com,ld)) (N+4) (by exact By hz) (S.step V ht) (by lia));have hT:=th (vs:=vs) (m:=m) (k:=k) (com:=com) (ld:=ld) (by lia);have L8:(eU vs m k com ld).headD 0∈eU vs m k com ld:=head_mem hT;unfold qp;generalize RO:(eU vs m k com ld).headD 0=x at L8⊢;have G5:=k9 L8;have Mc:nC vs m k com ld≠[]:=by unfold nC;intro e;simp at e;lia
    have Dv:=B2 (k:=k) (com:=com) V S.l (by lia);simp only at Dv;refine Ex.weak (ρ₁:=EO c m k vs ((upd vs k com ld x).map eL) (cK (com++[x])) (N+4) [.val d,.val (.dJ (xE (λ x=>lV (nz (lU vs ld x) none)) (ay m) [])),.val (.lst ((nC vs m k com ld).map eL)),.val (eL (n6 (nC vs m k com ld))),.val (.lst (D.nats (eU vs m k com ld))),.val (.int (x:Int)),.no,.no]) ?_ (by repeat (first|exact cy.nil|refine cy.cons (.inr rfl) ?_|refine cy.cons (.inl rfl) ?_));refine Ex.seq (bc.lh 11 gF.Cs rfl (od rfl) (od rfl)) ?_;refine Ex.seq (ρ':=EO c m k vs (ld.map eL) com N [.val d,.own true (.dJ (0+(ay m).length) (xE (λ x=>lV (nz (lU vs ld x) none)) (ay m) [])),.no,.no,.no,.no,.no,.no]) (bc.for (kd.of (Ev.attr (Ev.nm 0 rfl rfl) P.Cw rfl) Ib.list) λ ds hd=>?_) ?_
    ·subst hd;refine Lp.fill (ρ:=EO c m k vs (ld.map eL) com N [.val d,.no,.no,.no,.no,.no,.no,.no]) 11 6 rfl rfl (od rfl) (od rfl) (od rfl) rfl rfl (ay m) 0 [] (by simp;lia) λ z g N acc=>?_;have hl:∀j,j<vs.length→∀n',Mine.Sub c (n'+1) (.lst (ld.map eL)) (.int (j:Int)) (eL (ld.getD j 0)):= λ j hj n'=>Sub.list (by exact cz _) (DC (by rw[ai,aq (by exact D9 G6 hj)];rfl)) (by simp;exact vi G6 hV rfl);rw[td]
     by_cases hq:lU vs ld z=[]
     ·rw[if_pos hq];refine Ev.tU 7 rfl rfl rfl (Ev.cast (by rw[td,if_pos hq]) (Ev.LK (n:=n+6) PF P G Q V S.l (by lia) hl 0 6 7 (by kernel_rfl) rfl (by kernel_rfl) (by kernel_rfl) rfl rfl rfl rfl rfl rfl hp hc (by intro g;rfl)))
     ·rw[if_neg hq];refine Ev.ME 7 rfl rfl (xO _) (Ev.cast (by rw[td,if_neg hq];rfl) (Ev.LK (n:=n+6) PF P G Q V S.l (by lia) hl 0 6 7 (by kernel_rfl) rfl (by kernel_rfl) (by kernel_rfl) rfl rfl rfl rfl rfl rfl hp hc (by intro g;rfl)))
    refine Ex.freeze 11 rfl rfl rfl ?_;have hA:∀x,x<m→(xE (λ x=>lV (nz (lU vs ld x) none)) (ay m) []).lookup (x:Int)=some (lV (nz (lU vs ld x) none)):= λ x hx=>by rw[mX,if_pos (aM.mpr hx)]
    refine Ex.seq (bc.lh 12 (gF.comp (tn:=["cand"]) (ix:=[11,5,1]) (by kernel_rfl) (ds:=D.nats (ay m)) (i8 λ i=>eL (jb vs k [] ld i.toNat)) (kd.of (Ev.attr (Ev.nm 0 rfl rfl) P.Cw rfl) Ib.list) (by simp[D.nats];exact af h4 (aG _ _)) λ C d hd=>?_) rfl (od rfl) (od rfl)) ?_
    ·refine c0 (gj hd) λ x hx z1=>?_;subst z1;have hx:=aM.mp hx;exact Vk (n:=n+12) PF Q V S.l (by lia) (hA x hx) (hK x hx) (od rfl) rfl rfl rfl rfl (by kernel_rfl) (by kernel_rfl)
    rw[fC];simp only[eT];have R9:D6 (eL (((k:Int)+2:Int):Rat)) com (ay m) ((ay m).map λ x=>eL (jb vs k [] ld x))=(nC vs m k com ld).map eL:=by
     rw[B0,nC,bK];refine ck λ x g=>?_;show _=eL (jb vs k com ld x);unfold jb;simp only[vt,if_false];split<;>rfl
    refine Ex.seq (ρ':=EO c m k vs (ld.map eL) com N [.val d,.val (.dJ (xE (λ x=>lV (nz (lU vs ld x) none)) (ay m) [])),.own true (.lst ((nC vs m k com ld).map eL)),.no,.no,.no,.no,.no]) (bc.for (kd.of (Ev.attr (Ev.nm 0 rfl rfl) P.Cw rfl) Ib.list) λ ds hd=>?_) ?_
    ·subst hd;rw[← R9];exact Lp.D6 (ρ:=EO c m k vs (ld.map eL) com N [.val d,.val (.dJ (xE (λ x=>lV (nz (lU vs ld x) none)) (ay m) [])),.no,.no,.no,.no,.no,.no]) 12 6 rfl rfl (od rfl) (od rfl) (od rfl) rfl rfl (ay m) _ (by simp;lia) (λ z hz=>by simpa using hz) λ z g ws=>
      ⟨Tr.cmp (Ev.nm 6 rfl rfl) (Ev.nm 8 rfl rfl) (cC.H_ (by exact bB _)),Ev.call (by kernel_rfl) PF.sS PF.keep (cn.cons (Ev.bin (Ev.nm 1 rfl rfl) Ev.int gH.rT) .nil) .nil ((oi (n:=n+13) PF _).fn rfl)⟩
    refine Ex.freeze 12 rfl rfl rfl ?_;refine Ex.seq (bc.asg 13 (Ev.call (by kernel_rfl) G.min trivial (cn.cons (Ev.nm 12 rfl rfl) .nil) .nil (Fn.n6 (n:=n+13) PF Mc λ q hq=>(by refine jw hq λ y g=>?_;exact Dv y))) rfl (od rfl) (od rfl)) ?_;refine Ex.seq (bc.oI 14 (tn:=["cand"]) (ix:=[12,13]) (by kernel_rfl) (ds:=D.nats (ay m)) (qr λ x=>decide (jb vs k com ld x=n6 (nC vs m k com ld))) (kd.of (Ev.attr (Ev.nm 0 rfl rfl) P.Cw rfl) Ib.list) (by simp[D.nats];lia) (λ C d hd=>?_) rfl (od rfl) (od rfl) (by kernel_rfl)) ?_
    ·refine c0 (gj hd) λ x hx z1=>?_;subst z1;have hx:=aM.mp hx;exact Cr rfl (od rfl) rfl (Tr.cmp (Ev.sub (Ev.nm 1 rfl rfl) (Ev.nm 0 rfl rfl) (Sub.list (by lia) (DC (xw hx)) (by simp[nC];lia))) (Ev.nm 2 rfl rfl) (Td (n:=n+14) PF)) (Ev.nm 0 rfl rfl)
    rw[lz,show(ay m).filter (λ x=>decide (jb vs k com ld x=n6 (nC vs m k com ld)))=eU vs m k com ld from rfl];refine Ex.freeze 14 rfl rfl rfl ?_;have Uq:(eU vs m k com ld).length≤m:=af (bG _ _) (by simp);have FO:(D.nats (eU vs m k com ld))[((0:Int)).toNat]? =some (.int (x:Int)):=by
     cases hh:eU vs m k com ld with
     |nil=>exact absurd hh hT
     |cons a l=>rw[hh]at RO;simp at RO;subst RO;rfl
    refine Ex.seq (bc.asg 15 (Ev.sub (Ev.nm 14 rfl rfl) Ev.int (Sub.list (by decide) FO (by rw[dk];exact G3 Uq h4 rfl))) rfl (od rfl) (od rfl)) ?_;refine Ex.seq (ρ':=EO c m k vs ((upd vs k com ld x).map eL) com N [.val d,.val (.dJ (xE (λ x=>lV (nz (lU vs ld x) none)) (ay m) [])),.val (.lst ((nC vs m k com ld).map eL)),.val (eL (n6 (nC vs m k com ld))),.val (.lst (D.nats (eU vs m k com ld))),.val (.int (x:Int)),.no,.no]) (bc.for (xQ (n:=n+11) P G (by kernel_rfl) (Ev.nm 0 rfl rfl)) λ ds hd=>?_) ?_
    ·subst hd;rw[← I0 (ws:=ld.map eL) (f:= λ g v w=>if x∈v.2 then eL (jb vs k com ld x)else w) G6 (by simp[G6]) λ j v w hw=>by
      rw[bU]at hw;refine c0 (eW.mp hw) λ q hq z1=>?_;subst z1;rw[ai,hq];split<;>rfl]
     refine Lp.upd (ρ:=EO c m k vs (ld.map eL) com N [.val d,.val (.dJ (xE (λ x=>lV (nz (lU vs ld x) none)) (ay m) [])),.val (.lst ((nC vs m k com ld).map eL)),.val (eL (n6 (nC vs m k com ld))),.val (.lst (D.nats (eU vs m k com ld))),.val (.int (x:Int)),.no,.no]) 7 16 17 rfl rfl (od rfl) (od rfl) (od rfl) (od rfl) (od rfl) rfl rfl (vs:=vs) (N:=vs.length) (λ v hv a ws w hN hw=>?_) vs 0 _ (λ g h=>h) (by simp[G6]) (by simp[G6]);have Qw:a<ws.length:=(aw.mp hw).1;have FP:ws.length≤900:=by exact vi hN hV rfl
     by_cases Qe:x∈v.2
     ·rw[if_pos Qe];exact Ex.one (bc.ite (p:=decide (x∈v.2)) (Tr.cmp (Ev.nm 15 rfl rfl) (Ev.attr (Ev.nm 17 rfl rfl) P.LJ rfl) cC.inSet) (λ g=>Ex.one (bc.px 7 (k:=(a:Int)) (Ev.sub (Ev.nm 12 rfl rfl) (Ev.nm 15 rfl rfl) (Sub.list (by lia) (DC (xw G5)) (by simp[nC];lia))) (Ev.nm 16 rfl rfl) rfl rfl (by lia) (by exact cA.mpr Qw) FP)) λ h=>absurd Qe (by simpa using h))
     ·rw[if_neg Qe,show ws.set a w=ws from by rw[← (aw.mp hw).2];exact D1 _];exact Ex.one (bc.ite (p:=decide (x∈v.2)) (Tr.cmp (Ev.nm 15 rfl rfl) (Ev.attr (Ev.nm 17 rfl rfl) P.LJ rfl) cC.inSet) (λ h=>absurd (by simpa using h) Qe) λ g=>Ex.nil)
    refine Ex.seq (bc.asg 8 (d:=.lst (D.nats (cK (com++[x])))) (Ev.call (by kernel_rfl) G.sorted trivial (cn.cons (Ev.bin (Ev.nm 8 rfl rfl) (Ev.lst (cn.cons (Ev.nm 15 rfl rfl) .nil) (by simp)) (gH.TM (by rw[dk];simp;lia))) .nil) .nil (by
     rw[uf];exact Fn.sorted (n:=n+13) (JX.lst (by rw[dk];simp;lia)) (by rw[dk];simp;lia) (vR.nats (by simp;lia)))) rfl (od rfl) (od rfl)) ?_
    refine Ex.seq (bc.tx 9 (keys:=sr) (Ev.nm 15 rfl rfl) rfl rfl (by decide) (by lia)) ?_;refine Ex.seq (bc.tx 9 (keys:=sr) (Ev.nm 14 rfl rfl) rfl rfl (by decide) (by lia)) ?_;refine Ex.seq (bc.tx 9 (keys:=sr) (Ev.I_ 7 rfl rfl rfl (Ev.call (by kernel_rfl) G.list trivial (cn.cons (Ev.nm 7 rfl rfl) .nil) .nil (Fn.Fs (by rw[aE,upd,sa S.l];lia)))) rfl rfl (by decide) (by lia)) ?_;exact Ex.one (bc.tx 9 (keys:=sr) (Ev.nm 13 rfl rfl) rfl rfl (by decide) (by lia))
  have Dt:=key (D.nats (ay k)) 0 ([],vs.map λ g=>0) 0 (by rw[dk];simp) ⟨oK.nil hk,oV.start vs⟩ (by rw[dk];simp;lia);rw[dk,tF]at Dt;have hS:=GZ.run V k 0 ([],vs.map λ g=>0) (by lia) ⟨oK.nil hk,oV.start vs⟩;generalize rn vs m k k ([],vs.map λ g=>0)=s at Dt hS⊢;refine Ex.seq (ρ':=EO c m k vs (s.2.map eL) s.1 (0+4*k) (al 8 .no)) (bc.for (kd.of (Ev.call (by kernel_rfl) G.range trivial (cn.cons (Ev.call (by kernel_rfl) G.len trivial (cn.cons (Ev.nm 8 rfl rfl) .nil) .nil (Fn.la (by decide))) (cn.cons (Ev.nm 1 rfl rfl) .nil)) .nil Fn.Kp) (Ib.range (by decide) (by decide) (by lia) (by lia))) λ ds hd=>?_) ?_
  ·subst hd;have e:(qu ((([]:List D).length:Nat):Int) (k:Int)).map D.int=D.nats (ay k):=HG k;rw[e];exact Dt
  with_reducible refine Ex.ND (n:=n+14) 9 7 (m:=4) (N:=0+4*k) (keys:=sr) (ds:=s.2.map eL) (xs:=s.1.map λ (x:Nat)=>(x:Int)) ?_ ?_ ?_ ?_ ?_ ?_ ?_
  ·rw[← dW];exact Ev.call (by kernel_rfl) G.tuple trivial (cn.cons (Ev.nm 8 rfl rfl) .nil) .nil (Fn.v7 (by rw[dk,hS.c.l];lia))
  ·rfl
  ·rfl
  ·rfl
  ·rfl
  ·decide
  exact Ex.one (bc.ret (Ev.tup (cn.cons (Ev.lst (cn.cons (Ev.nm 8 rfl rfl) .nil) (by simp)) (cn.cons (Ev.nm 9 rfl rfl) .nil)) (by simp)))
end
section
noncomputable def uw(k:Nat)(com:List Nat):Nat:=(j9 k).idxOf (cK com)
noncomputable def put(k:Nat)(st:TS)(com:List Nat):TS:=st.plus k (uw k com)
noncomputable def iv(k:Nat)(o:Option Nat):TS→List (List Nat)→TS×Bool
 |st,[]=>(st,false)
 |st,c::cs=>if o=some (put k st c).ids.length then(put k st c,true)else iv k o (put k st c) cs
noncomputable def lv(vs:List Vo)(m k:Nat):Nat→List Nat→List Rat→List (List Nat)
 |0,com,_=>[com]
 |r+1,com,ld=>(eU vs m k com ld).flatMap λ x=>lv vs m k r (com++[x]) (upd vs k com ld x)
theorem t5(k:Nat)(o:Option Nat)(st:TS)(c:List Nat)(cs:List (List Nat)):iv k o st (c::cs)=if o=some (put k st c).ids.length then(put k st c,true)else iv k o (put k st c) cs:=rfl
theorem HZ(vs:List Vo)(m k r:Nat)(com:List Nat)(ld:List Rat):lv vs m k (r+1) com ld=(eU vs m k com ld).flatMap λ x=>lv vs m k r (com++[x]) (upd vs k com ld x):=rfl
theorem KH(vs:List Vo)(m k:Nat)(com:List Nat)(ld:List Rat):lv vs m k 0 com ld=[com]:=rfl
theorem yF{k:Nat}{o:Option Nat}:∀(a b:List (List Nat)) (st:TS),iv k o st (a++b)=if(iv k o st a).2=true then iv k o st a else iv k o (iv k o st a).1 b:=by
 intro w
 induction w with
 |nil=>
  intro b st;rfl
 |cons c a ih=>
  intro b st;rw[List.cons_append,t5,t5]
  by_cases h:o=some (put k st c).ids.length
  ·simp[h]
  ·rw[if_neg h,if_neg h,ih b]
noncomputable def fD(k:Nat)(st:TS):List (List Nat):=(j9 k).filter λ c=>decide ((j9 k).idxOf c∈st.ids)
theorem Hq:∀k,1≤k→k≤3→(j9 k).Pairwise λ x y=>strLt (keyOf x) (keyOf y)=true:= λ k h1 h3=>
 (by decide +kernel:∀k<4,1≤k→(j9 k).Pairwise λ x y=>strLt (keyOf x) (keyOf y)=true) k (kq h3) h1
theorem qm:∀k,1≤k→k≤3→(∀c∈j9 k,c∈kJ)∧(∀c∈kJ,c.length=k→c∈j9 k)∧(j9 k).length≤6∧(j9 k).Nodup∧(j9 k).Pairwise (· < ·):= λ k h1 h3=>Rv (M:= λ k=>(∀c∈j9 k,c∈kJ)∧(∀c∈kJ,c.length=k→c∈j9 k)∧(j9 k).length≤6∧(j9 k).Nodup∧(j9 k).Pairwise (· < ·)) h1 h3 (by decide +kernel) (by decide +kernel) (by decide +kernel)
theorem AP:∀c∈kJ,c.Sublist [0,1,2,3]:=by decide +kernel
theorem oH{k m t:Nat}{com:List Nat}(h1:1≤k)(h3:k≤3)(h4:m≤4)(C:oK m k k com):cK com∈j9 k∧uw k com<(j9 k).length∧fS k (uw k com)=cK com:=by
 have hm:cK com∈j9 k:=(qm k h1 h3).2.1 _ (oD (wc C.n C.r h4)) (by rw[(eJ com).length_eq,C.l]);have gE:(j9 k).idxOf (cK com)<(j9 k).length:=dU hm;refine⟨hm,gE,?_⟩;unfold fS uw;rw[ai,aq gE];exact gK gE
theorem MC{k:Nat}{st:TS}(h:st∈l4 k):st.ids.Nodup∧∀x∈st.ids,x<(j9 k).length:=by
 have:(l4 k).all (λ st=>decide (st.ids.Nodup)&&st.ids.all λ x=>decide (x<(j9 k).length))=true:=L5 (M:= λ k=>(l4 k).all (λ st=>decide (st.ids.Nodup)&&st.ids.all λ x=>decide (x<(j9 k).length))=true) k rfl (by decide +kernel) (by decide +kernel) (by decide +kernel) λ k=>rfl;have:=bD.mp this st h;rw[bg,decide_eq_true_eq,bD]at this;exact⟨this.1,λ x hx=>by simpa using this.2 x hx⟩
theorem sA{k:Nat}{st:TS}(h1:1≤k)(h3:k≤3)(h:st∈l4 k):(fD k st).Perm (st.ids.map (fS k)):=by
 refine xa (MC h) λ hn hl=>?_;refine xa (qm k h1 h3) λ z zh=>cg zh λ z z hu z=>?_;have Lh:∀x,x<(j9 k).length→fS k x∈j9 k∧(j9 k).idxOf (fS k x)=x:= λ x hx=>by
  unfold fS;rw[ai,aq hx];exact⟨gb hx,hu.idxOf_getElem x hx⟩
 refine(yk (hu.filter _) ?_).mpr λ c=>?_
 ·refine tE.mpr (hn.imp_of_mem λ {a b} ha hb Mj e=>Mj ?_);rw[← (Lh a (hl a ha)).2,← (Lh b (hl b hb)).2,e]
 ·rw[aN,aL,decide_eq_true_eq];refine⟨λ w0=>xa w0 λ h1 h2=>⟨_,h2,?_⟩,λ w0=>c0 w0 λ x hx e=>?_⟩
  ·have:=dU h1;unfold fS;rw[ai,aq this];exact gK this
  ·subst e;refine xa (Lh x (hl x hx)) λ q1 q2=>?_;exact⟨q1,by rw[q2];exact hx⟩
theorem wR{k:Nat}{st:TS}(h1:1≤k)(h3:k≤3)(h:st∈l4 k):(∀c∈fD k st,c.Sublist [0,1,2,3])∧((fD k st).Pairwise λ x y=>strLt (keyOf x) (keyOf y)=true)∧(fD k st).length≤6:=by
 refine cg (qm k h1 h3) λ q1 z q3 z=>?_;exact⟨λ c hc=>AP c (q1 c (aN.mp hc).1),(Hq k h1 h3).sublist q_,af (bG _ _) q3⟩
theorem xq{k m:Nat}{st:TS}{com:List Nat}(h1:1≤k)(h3:k≤3)(h4:m≤4)(h:st∈l4 k)(C:oK m k k com):put k st com∈l4 k:=(TS.xt h (oH (t:=0) h1 h3 h4 C).2.1).1
theorem Hs{vs:List Vo}{m k x:Nat}{com:List Nat}{ld:List Rat}(hx:x<m):decide (jb vs k com ld x≤n6 (nC vs m k com ld))=decide (x∈eU vs m k com ld):=by
 refine decide_eq_decide.mpr ?_;unfold eU;rw[aN,decide_eq_true_eq];have h1:n6 (nC vs m k com ld)≤jb vs k com ld x:=xy (aL.mpr ⟨x,aM.mpr hx,rfl⟩);exact⟨λ h=>⟨aM.mpr hx,Rat.le_antisymm h h1⟩,λ h=>by rw[h.2];exact ek⟩
theorem tT{vs:List Vo}{m k:Nat}{com:List Nat}{ld:List Rat}:(eU vs m k com ld).length≤m:=af (bG _ _) (by simp)
theorem l7{vs:List Vo}{m k:Nat}{com:List Nat}{ld:List Rat}:(ay m).filter (λ x=>decide (x∈eU vs m k com ld))=eU vs m k com ld:=by
 unfold eU;refine m9 λ x hx=>?_;refine decide_eq_decide.mpr ?_;rw[aN,decide_eq_true_eq];exact⟨λ h=>h.2,λ h=>⟨hx,h⟩⟩
theorem tj{k m:Nat}{o:Option Nat}(h1:1≤k)(h3:k≤3)(h4:m≤4):∀(cs:List (List Nat)) (st:TS),(∀c∈cs,oK m k k c)→st∈l4 k→(iv k o st cs).1∈l4 k:=by
 intro w
 induction w with
 |nil=>
  intro st z h;exact h
 |cons c cs ih=>
  intro st hc h;have:=xq h1 h3 h4 h (hc c (.head _));rw[t5];split
  ·exact this
  ·exact ih _ (λ c h=>hc c (.tail _ h)) this
theorem B6{vs:List Vo}{m k:Nat}(V:lj m vs):∀(r t:Nat) (com:List Nat) (ld:List Rat),t+r=k→oK m k t com→oV vs t ld→∀c∈lv vs m k r com ld,oK m k k c:=by
 intro w
 induction w with
 |zero=>
  intro t com ld h C L c hc;rw[KH,aj]at hc;subst hc;have:t=k:=by exact h
  exact this▸C
 |succ r ih=>
  intro t com ld h C L c hc;rw[HZ,kZ]at hc;refine c0 hc ?_;clear hc;intro x hx hc;have ho:=ic V L C (by exact JP h) hx;exact ih (t+1) _ _ (by exact By h) (C.next (by lia) ho (k9 hx)) (tP V L ho) c hc
end
section
variable {c:Cx}{n:Nat}
noncomputable abbrev LC:Str:="committee_load_pairs"
noncomputable abbrev Nz:List Str:=["profile","committeesize","algorithm","max_num_of_committees","start_load","partial_committee","approvers_weight","cand","load","committee_load_pairs","committees","detailed_info","committee","approvers_load","new_maxload","new_committee_load_pairs","select_cand","new_load","v","voter","new_committee"]
noncomputable abbrev Dl(u:rU)(L:Addr):VE:=mO (IH.fd (.ref 429) u) L 434 Nz
theorem Ex.MZ(i:Nat){E:VE}{ρ:List Sl}{x key:Str}{p p1 p2 pos pos':Pos}{k:Nat}{ss:List Stmt}{out:Out}(hx:E.vn[i]? =some x)(hi:i<E.k)(hl:i<ρ.length)(h:Ex c n E (ρ.set i (.own true (t_ c key 0))) ss out):Ex c n E ρ (.Assign [.Name x p] (.Dict [some (.Constant (.str key) k p1)] [.Dict [] [] p2] pos) pos'::ss) out:=by
 with_reducible refine Ex.seq (bc.lh i (gF.Pl (c:=c) (n:=n)) hx hi hl ?_) h
 rfl
noncomputable def LU(c:Cx)(vs:List Vo)(ld:List Rat)(dl:D):Prop:=∀j,j<vs.length→∀n',Mine.Sub c (n'+1) dl (.int (j:Int)) (eL (ld.getD j 0))
theorem LU.lst{vs:List Vo}{ld:List Rat}(h:ld.length=vs.length)(h3:vs.length≤3):LU c vs ld (.lst (ld.map eL)):= λ j hj n'=>Sub.list (by exact cz _) (DC (by rw[ai,aq (by exact D9 h hj)];rfl)) (by simp;exact vi h h3 rfl)
noncomputable def BN(d:D):Option (Int×D):=(MX d).map λ p=>(p.1,eL 0)
theorem Hg(vs:List Vo)(i:Nat):(il i (vs.map ly)).filterMap BN=(vT i vs.length).map λ (j:Nat)=>((j:Int),eL 0):=by
 induction vs generalizing i with
 |nil=>rfl
 |cons v vs ih=>
  show yf BN (D.tup [.int (i:Int),ly v]::il (i+1) (vs.map ly))=_;rw[bz (f:=BN) (b:=((i:Int),eL 0)) rfl,ih];rfl
theorem xA{d:D}{l:List (Int×D)}{k:Int}(h:∀p∈l,p.2=d)(hk:k∈l.map (·.1)):l.lookup k=some d:=by
 induction l with
 |nil=>exact nn hk
 |cons p l ih=>
  rw[aX];cases e:k==p.1 with
  |true=>exact congrArg some (h p (.head _))
  |false=>exact ih (λ q hq=>h q (.tail _ hq)) ((aD.mp hk).resolve_left λ h=>bE (e.symm.trans (beq_iff_eq.mpr h)))
theorem LU.zero{vs:List Vo}:LU c vs (vs.map λ z=>0) (.dJ ((il 0 (vs.map ly)).filterMap BN).reverse):= λ j hj n'=>by
 refine Sub.dJ ?_;rw[Hg];rw[show(vs.map λ z=>(0:Rat)).getD j 0=0 by simp[ai];cases vs[j]? <;>rfl];refine xA (λ p hp=>?_) ?_
 ·obtain⟨x,_,rfl⟩:=aL.mp (vy.mp hp);rfl
 ·rw[List.map_reverse,vy,bK];exact aL.mpr ⟨j,List.mem_range'_1.mpr ⟨bV _,fx hj (gW _).symm⟩,rfl⟩
noncomputable abbrev pairD(com:List Nat)(dl:D):D:=.tup [.tup (D.nats com),dl]
noncomputable abbrev Qa(m:Nat)(vs:List Vo):List (Int×D):=xE (λ x=>.int (fK vs x)) (ay m) []
noncomputable abbrev L3(m:Nat)(vs:List Vo)(ld:List Rat):List (Int×D):=xE (λ x=>lV (nz (lU vs ld x) none)) (ay m) []
noncomputable abbrev H9(c:Cx)(m k:Nat)(o:Option Nat)(vs:List Vo)(LF:Sl)(dl:Sl)(stk:List D)(st:TS)(cnt:Nat)(l:List Sl):List Sl:=
 [.val (pb m vs),.val (.int (k:Int)),.val (.str "standard-fractions"),.val (mz o),.val .none,.val (.tup []),.val (.dJ (Qa m vs)),LF,dl,.own true (.lst stk),.own true (.k8 k st),.own true (t_ c LC cnt)]++l
noncomputable def HI(k:Nat)(st:TS):D:=.tup [.lst ((fD k st).map D.dm),.any]
noncomputable def Lx(k:Nat)(r:TS×Bool)(ρ:TS→List Sl):Out:=if r.2=true then .ret (HI k r.1)else .next (ρ r.1)
noncomputable def uu:List Stmt:=nF IH.body 10
noncomputable def xH:List Stmt:=nF uu 6
noncomputable def NF:Expr:=pJ uu 6
theorem EW(PC:kc c)(G:PG c){u:rU}{L:Addr}{ρ:List Sl}{k cnt:Nat}{st:TS}{p1 p2 p3 p4 p5 p6:Pos}{k1:Nat}(h1:1≤k)(h3:k≤3)(kt:st∈l4 k)(hl:ρ[10]? =some (.own true (.k8 k st)))(nE:ρ[11]? =some (.own true (t_ c LC cnt))):
  Ex c (n+15) (Dl u L) ρ [.Return (some (.Tuple [.Call (.Name "sorted_committees" p1) [.Name "committees" p2] [] p3,.Name "detailed_info" p4] k1 p5)) p6] (.ret (HI k st)):=by
 have Si:10<ρ.length:=(aw.mp hl).1;have Sh:11<ρ.length:=(aw.mp nE).1;refine Ex.freeze 10 rfl hl rfl ?_;refine Ex.freeze 11 rfl (by rw[aQ (by decide)];exact nE) rfl ?_;refine jH (wR h1 h3 kt) λ q1 q2 q3=>?_;refine Ex.one (bc.ret (Ev.tup (cn.cons (Ev.call (ds:=[.k8 k st]) (by kernel_rfl) PC.gS PC.kS (cn.cons (Ev.nm 10 rfl (by rw[aQ (by decide),bp Si])) .nil) .nil (xl (n:=n+3) (mk:= λ c=>yp c) (css:=fD k st) PC G (λ xs=>by show some (D.dm ((D.nats xs).filterMap natOf))=_;rw[pD]) (λ xs hx=>jL.tup (n:=n+3) (q1 xs hx)) (λ m' tg=>?_) q1 q2 q3)) (cn.cons (Ev.nm 11 rfl (by rw[bp (by simpa using Sh)])) .nil))));exact Ib.weak Ib.k8 λ ds w0=>c0 w0 λ cs hp e=>⟨cs,hp.trans (sA h1 h3 kt).symm,e⟩
end
section
variable {c:Cx}{n:Nat}
noncomputable abbrev ya(c:Cx)(m k:Nat)(o:Option Nat)(vs:List Vo)(com:List Nat)(ld:List Rat)(dl:D)(stk:List D)(LF:Sl)(st:TS)(cnt:Nat)(acc:List D)(l:List Sl):List Sl:=
 H9 c m k o vs LF (.val dl) stk st cnt ([.val (.tup (D.nats com)),.val (.dJ (L3 m vs ld)),.val (.lst ((nC vs m k com ld).map eL)),.own true (.lst acc)]++l)
noncomputable def Fv:Stmt:=oR (vw (oR xH 1)).o 3
structure Ctx(c:Cx)(m k t:Nat)(vs:List Vo)(com:List Nat)(ld:List Rat)(dl:D):Prop where
 V:lj m vs
 h4:m≤4
 h1:1≤k
 h3:k≤3
 C:oK m k t com
 L:oV vs t ld
 t:t<k
 dl:LU c vs ld dl
theorem Tr.cast{E:VE}{ρ:List Sl}{e:Expr}{b b':Bool}(h:b=b')(x:Tr c n E ρ e b'):Tr c n E ρ e b:=h▸x
theorem EJ(P:iD c)(PF:fj c)(G:PG c){u:rU}{L:Addr}{m k t:Nat}{o:Option Nat}{vs:List Vo}{com:List Nat}{ld:List Rat}{dl:D}{stk acc:List D}{st:TS}{cnt x:Nat}{out:Out}(X:Ctx c m k t vs com ld dl)(hx:x<m)(h1:x∈eU vs m k com ld→Ex c (n+15) (Dl u L) (ya c m k o vs com ld dl stk (.val (.int (x:Int))) st cnt acc [.val (.bool true),.val (.lst ((upd vs k com ld x).map eL)),.no,.no,.val (.tup (D.nats (com++[x])))]) [Fv] out)(h0:x∉eU vs m k com ld→out=.next (ya c m k o vs com ld dl stk .no st cnt acc (al 5 .no))):
  Ex c (n+15) (Dl u L) (ya c m k o vs com ld dl stk (.val (.int (x:Int))) st cnt acc (al 5 .no)) xH out:=by
 have hV:=X.V.l;have h4:=X.h4;have G6:=X.L.l;have Sf:=X.C.l;have SD:=X.C.k;have ht:=X.t;have Mc:nC vs m k com ld≠[]:=by unfold nC;intro e;simp at e;lia
 have Dv:=B2 (k:=k) (com:=com) X.V X.L (by exact G3 (bX ht) (af SD h4) rfl);have Sb:((n6 (nC vs m k com ld)).den:Int)<2^32:=by
  obtain⟨y,_,e⟩:=aL.mp (ug Mc);have e:jb vs k com ld y=n6 (nC vs m k com ld):=e;rw[← e];exact Dv y
 have hle:=Tc (c:=c) (n:=n+14) PF (q:=jb vs k com ld x) (r:=n6 (nC vs m k com ld)) (kj (Dv x) (by decide)) (kj Sb (by decide));rw[Hs hx]at hle;refine Ex.seq (bc.asg 16 (Ev.cmp (Ev.sub (Ev.nm 14 rfl rfl) (Ev.nm 7 rfl rfl) (Sub.list (by exact cz _) (DC (xw hx)) (by simp[nC];exact af h4 (aG _ _)))) (Ev.call (by kernel_rfl) G.min trivial (cn.cons (Ev.nm 14 rfl rfl) .nil) .nil (Fn.n6 (n:=n+13) PF Mc λ q hq=>(by refine jw hq λ y z=>?_;exact Dv y))) hle) rfl (od rfl) (od rfl)) ?_
 by_cases hm:x∈eU vs m k com ld
 ·have h1:=h1 hm;rw[decide_eq_true hm];refine Ex.one (bc.ite (p:=true) (Tr.val (Ev.nm 16 rfl rfl) kA.bool) (λ z=>?_) (λ h=>by cases h));refine Ex.seq (bc.lh 17 (gF.mulL (ds:=[.int 0]) (k:=(vs.length:Int)) (Ev.lst (cn.cons Ev.int .nil)) (Ev.call (by kernel_rfl) G.len trivial (cn.cons (Ev.nm 0 rfl rfl) .nil) .nil (A7 (n:=n+13) P G (by exact rF hV rfl))) (by exact cz _) (by exact RH hV rfl) (by simp;exact rF hV rfl)) rfl (od rfl) (od rfl)) ?_;have FP:(al (vs.length:Int).toNat [D.int 0]).flatten.length=vs.length:=by simp
  generalize (al (vs.length:Int).toNat [D.int 0]).flatten=Vz at FP⊢;refine Ex.seq (ρ':=ya c m k o vs com ld dl stk (.val (.int (x:Int))) st cnt acc [.val (.bool true),.own true (.lst ((upd vs k com ld x).map eL)),.no,.no,.no]) (bc.for (xQ (n:=n+11) P G (by kernel_rfl) (Ev.nm 0 rfl rfl)) λ ds hd=>?_) ?_
  ·subst hd;rw[← I0 (ws:=Vz) (f:= λ j v z=>eL (if x∈v.2 then jb vs k com ld x else ld.getD j 0)) G6 FP λ j v w hw=>rfl];refine Lp.upd (ρ:=ya c m k o vs com ld dl stk (.val (.int (x:Int))) st cnt acc [.val (.bool true),.no,.no,.no,.no]) 17 18 19 rfl rfl (od rfl) (od rfl) (od rfl) (od rfl) (od rfl) rfl rfl (vs:=vs) (N:=vs.length) (λ v hv a ws w hN hw=>?_) vs 0 _ (λ z h=>h) (by lia) FP;have Qw:a<ws.length:=(aw.mp hw).1;refine Ex.one (bc.ite (p:=decide (x∈v.2)) (Tr.cmp (Ev.nm 7 rfl rfl) (Ev.attr (Ev.nm 19 rfl rfl) P.LJ rfl) cC.inSet) (λ h=>?_) λ h=>?_)
   ·rw[if_pos (by simpa using h)];exact Ex.one (bc.px 17 (k:=(a:Int)) (Ev.sub (Ev.nm 14 rfl rfl) (Ev.nm 7 rfl rfl) (Sub.list (by lia) (DC (xw hx)) (by simp[nC];lia))) (Ev.nm 18 rfl rfl) rfl rfl (by lia) (by exact cA.mpr Qw) (by exact vi hN hV rfl))
   ·rw[if_neg (by simpa using h)];exact Ex.one (bc.px 17 (k:=(a:Int)) (Ev.sub (Ev.nm 8 rfl rfl) (Ev.nm 18 rfl rfl) (X.dl a (by exact fx Qw hN) (n+14))) (Ev.nm 18 rfl rfl) rfl rfl (by lia) (by lia) (by lia))
  refine Ex.freeze 17 rfl rfl rfl ?_;refine Ex.seq (bc.asg 20 (d:=.tup (D.nats (com++[x]))) (Ev.cast (uf com x▸rfl) (Ev.bin (Ev.nm 12 rfl rfl) (Ev.tup (cn.cons (Ev.nm 7 rfl rfl) .nil) (by simp)) (gH.IU (by rw[dk];simp;lia)))) rfl (od rfl) (od rfl)) ?_;exact h1
 ·rw[decide_eq_false hm,h0 hm];refine Ex.weak (ρ₁:=ya c m k o vs com ld dl stk (.val (.int (x:Int))) st cnt acc [.val (.bool false),.no,.no,.no,.no]) ?_ (by repeat (first|exact cy.nil|refine cy.cons (.inr rfl) ?_|refine cy.cons (.inl rfl) ?_));exact Ex.one (bc.ite (p:=false) (Tr.val (Ev.nm 16 rfl rfl) kA.bool) (λ h=>by cases h) λ z=>Ex.nil)
theorem Np(P:iD c)(PF:fj c)(PC:kc c)(G:PG c){u:rU}{L:Addr}{m k t:Nat}{o:Option Nat}{vs:List Vo}{com:List Nat}{ld:List Rat}{dl:D}{stk acc:List D}{st:TS}{cnt x:Nat}(X:Ctx c m k t vs com ld dl)(ht:t+1=k)(hx:x∈eU vs m k com ld)(kt:st∈l4 k)(xM:cnt≤900):
  Ex c (n+15) (Dl u L) (ya c m k o vs com ld dl stk (.val (.int (x:Int))) st cnt acc [.val (.bool true),.val (.lst ((upd vs k com ld x).map eL)),.no,.no,.val (.tup (D.nats (com++[x])))]) [Fv]
   (if o=some (put k st (com++[x])).ids.length then .ret (HI k (put k st (com++[x])))else .next (ya c m k o vs com ld dl stk (.val (.int (x:Int))) (put k st (com++[x])) (cnt+1) acc [.val (.bool true),.val (.lst ((upd vs k com ld x).map eL)),.no,.no,.val (.tup (D.nats (cK (com++[x]))))])):=by
 have C':=X.C.next X.t (ic X.V X.L X.C X.t hx) (k9 hx);rw[ht]at C';refine jH (oH X.h1 X.h3 X.h4 C' (t:=0)) λ i1 i2 i3=>?_;have hl:(com++[x]).length=k:=C'.l;have h3:=X.h3;have Bg:put k st (com++[x])∈l4 k:=xq X.h1 X.h3 X.h4 kt C';have hlen:Fn c (n+15) (.builtin "len") [.tup (D.nats (com++[x]))] [] (.int (k:Int)):=by
  have:=Fn.xB (c:=c) (n:=n+15) (ds:=D.nats (com++[x])) (by rw[dk];exact vi hl h3 rfl);rwa[dk,hl]at this
 refine Ex.one (bc.ite (p:=((k:Int)==(k:Int))) (Tr.cmp (Ev.call (by kernel_rfl) G.len trivial (cn.cons (Ev.nm 20 rfl rfl) .nil) .nil hlen) (Ev.nm 1 rfl rfl) cC.Eg) (λ z=>?_) λ h=>by simp at h);refine Ex.seq (bc.asg 20 (Ev.call (by kernel_rfl) G.tuple trivial (cn.cons (Ev.call (by kernel_rfl) G.sorted trivial (cn.cons (Ev.nm 20 rfl rfl) .nil) .nil (Fn.sorted (n:=n+13) (JX.tup (by rw[dk];lia)) (by rw[dk];lia) (vR.nats (by exact P9 hl h3 rfl)))) .nil) .nil (Fn.v7 (by rw[dk,(eJ _).length_eq];lia))) rfl (od rfl) (od rfl)) ?_;refine Ex.seq (bc.IU 10 (n:=n+14) (k:=k) (y:=uw k (com++[x])) (st:=st) (Ev.cast (by rw[i3]) (Ev.nm 20 rfl rfl)) i2 rfl rfl) ?_;rw[show st.plus k (uw k (com++[x]))=put k st (com++[x])from rfl];generalize put k st (com++[x])=nd at Bg⊢;refine Ex.seq (bc.HA 11 (n:=n+14) (key:=LC) (m:=cnt) (xs:=(cK (com++[x])).map λ (x:Nat)=>(x:Int)) (Ev.nm 17 rfl rfl) (Ev.cast (by rw[dW]) (Ev.nm 20 rfl rfl)) rfl rfl xM) ?_;cases o with
 |none=>
  rw[if_neg (by simp)];exact Ex.one (bc.ite (p:=false&&false) (Tr.qN (b:=false) (b':=false) (Tr.cmp (Ev.nm 3 rfl rfl) Ev.lF cC.vK) (λ h=>by cases h)) (λ h=>by cases h) λ z=>Ex.nil)
 |some j=>
  have e:(true&&((nd.ids.length:Int)==(j:Int)))=decide (some j=some nd.ids.length):=by
   by_cases h:j=nd.ids.length
   ·subst h;simp
   ·rw[decide_eq_false (by simpa using h)];simp;lia
  by_cases h:some j=some nd.ids.length
  ·have e2:true=(true&&((nd.ids.length:Int)==(j:Int))):=by rw[e,decide_eq_true h]
   rw[if_pos h];exact Ex.stop (bc.ite (p:=true) (Tr.cast e2 (Tr.qN (b:=true) (Tr.cmp (Ev.nm 3 rfl rfl) Ev.lF cC.vK) λ z=>Tr.cmp (Ev.tU 10 rfl rfl rfl (Ev.call (by kernel_rfl) G.len trivial (cn.cons (Ev.nm 10 rfl rfl) .nil) .nil Fn.yZ)) (Ev.nm 3 rfl rfl) cC.Eg)) (λ z=>EW PC G X.h1 X.h3 Bg rfl rfl) (λ h=>by cases h)) rfl
  ·have e2:false=(true&&((nd.ids.length:Int)==(j:Int))):=by rw[e,decide_eq_false h]
   rw[if_neg h];exact Ex.one (bc.ite (p:=false) (Tr.cast e2 (Tr.qN (b:=true) (Tr.cmp (Ev.nm 3 rfl rfl) Ev.lF cC.vK) λ z=>Tr.cmp (Ev.tU 10 rfl rfl rfl (Ev.call (by kernel_rfl) G.len trivial (cn.cons (Ev.nm 10 rfl rfl) .nil) .nil Fn.yZ)) (Ev.nm 3 rfl rfl) cC.Eg)) (λ h=>by cases h) λ z=>Ex.nil)
end
section
variable {c:Cx}{n:Nat}
noncomputable def xS(vs:List Vo)(m k:Nat)(com:List Nat)(ld:List Rat)(xs:List Nat):List (List Nat):=(xs.filter λ x=>decide (x∈eU vs m k com ld)).map λ x=>com++[x]
noncomputable def C7(vs:List Vo)(m k:Nat)(com:List Nat)(ld:List Rat)(xs:List Nat):List D:=(xs.filter λ x=>decide (x∈eU vs m k com ld)).map λ x=>pairD (com++[x]) (.lst ((upd vs k com ld x).map eL))
theorem KT(P:iD c)(PF:fj c)(PC:kc c)(G:PG c){u:rU}{L:Addr}{m k t:Nat}{o:Option Nat}{vs:List Vo}{com:List Nat}{ld:List Rat}{dl:D}{stk acc:List D}(X:Ctx c m k t vs com ld dl)(ht:t+1=k):∀(xs:List Nat) (st:TS) (cnt:Nat),(∀x∈xs,x<m)→st∈l4 k→cnt+xs.length≤900→
  Lp c (n+15) (Dl u L) (ya c m k o vs com ld dl stk .no st cnt acc (al 5 .no)) NF xH (D.nats xs) (Lx k (iv k o st (xS vs m k com ld xs)) λ nd=>ya c m k o vs com ld dl stk .no nd (cnt+(xS vs m k com ld xs).length) acc (al 5 .no)):=by
 intro w
 induction w with
 |nil=>
  intro st cnt j j j;exact Lp.nil
 |cons x xs ih=>
  intro st cnt hx kt hc;have G5:=hx x (.head _);simp only[aJ]at hc
  by_cases hm:x∈eU vs m k com ld
  ·have e:xS vs m k com ld (x::xs)=(com++[x])::xS vs m k com ld xs:=by unfold xS;rw[bZ (by simpa using hm)];rfl
   rw[e,t5];have C':=X.C.next X.t (ic X.V X.L X.C X.t hm) (k9 hm);rw[ht]at C';have Bg:=xq X.h1 X.h3 X.h4 kt C';have hl:=Np (n:=n) (u:=u) (L:=L) (o:=o) (stk:=stk) (acc:=acc) P PF PC G X ht hm kt (cnt:=cnt) (by exact GV hc rfl)
   by_cases hs:o=some (put k st (com++[x])).ids.length
   ·rw[if_pos hs]at hl⊢;exact Lp.ret (ju.name 7 rfl (od rfl) (od rfl)) (EJ P PF G X G5 (λ j=>hl) λ h=>absurd hm h)
   ·rw[if_neg hs]at hl⊢;rw[show cnt+((com++[x])::xS vs m k com ld xs).length=(cnt+1)+(xS vs m k com ld xs).length by simp;lia];refine Lp.step (ρ'':=ya c m k o vs com ld dl stk .no (put k st (com++[x])) (cnt+1) acc (al 5 .no)) (ju.name 7 rfl (od rfl) (od rfl)) (EJ P PF G X G5 (λ j=>Ex.weak hl (by repeat (first|exact cy.nil|refine cy.cons (.inr rfl) ?_|refine cy.cons (.inl rfl) ?_))) λ h=>absurd hm h) (ih _ _ (λ z h=>hx z (.tail _ h)) Bg (by exact JQ hc rfl))
  ·have e:xS vs m k com ld (x::xs)=xS vs m k com ld xs:=by unfold xS;rw[b0 (by simpa using hm)]
   rw[e];exact Lp.step (ju.name 7 rfl (od rfl) (od rfl)) (EJ P PF G X G5 (λ h=>absurd h hm) λ j=>rfl) (ih _ _ (λ z h=>hx z (.tail _ h)) kt (by exact bX hc))
theorem KS(P:iD c)(PF:fj c)(G:PG c){u:rU}{L:Addr}{m k t:Nat}{o:Option Nat}{vs:List Vo}{com:List Nat}{ld:List Rat}{dl:D}{stk:List D}{st:TS}{cnt:Nat}(X:Ctx c m k t vs com ld dl)(ht:t+1<k):∀(xs:List Nat) (acc:List D),(∀x∈xs,x<m)→acc.length+xs.length≤900→
  Lp c (n+15) (Dl u L) (ya c m k o vs com ld dl stk .no st cnt acc (al 5 .no)) NF xH (D.nats xs) (.next (ya c m k o vs com ld dl stk .no st cnt (acc++C7 vs m k com ld xs) (al 5 .no))):=by
 intro w
 induction w with
 |nil=>
  intro acc j j;rw[show acc++C7 vs m k com ld []=acc from bM _];exact Lp.nil
 |cons x xs ih=>
  intro acc hx hc;have G5:=hx x (.head _);simp only[aJ]at hc
  by_cases hm:x∈eU vs m k com ld
  ·have e:acc++C7 vs m k com ld (x::xs)=(acc++[pairD (com++[x]) (.lst ((upd vs k com ld x).map eL))])++C7 vs m k com ld xs:=by unfold C7;rw[bZ (by simpa using hm)];simp
   rw[e];have hl:=X.C.l;have h3:=X.h3;have hlen:Fn c (n+15) (.builtin "len") [.tup (D.nats (com++[x]))] [] (.int ((t+1:Nat):Int)):=by
    have:=Fn.xB (c:=c) (n:=n+15) (ds:=D.nats (com++[x])) (by rw[dk];simp;lia);rwa[dk,aY,hl]at this
   refine Lp.step (ρ'':=ya c m k o vs com ld dl stk .no st cnt (acc++[pairD (com++[x]) (.lst ((upd vs k com ld x).map eL))]) (al 5 .no)) (ju.name 7 rfl (od rfl) (od rfl)) (EJ P PF G X G5 (λ j=>?_) λ h=>absurd hm h) (ih _ (λ z h=>hx z (.tail _ h)) (by simp;exact JQ hc rfl));refine Ex.weak (ρ₁:=ya c m k o vs com ld dl stk (.val (.int (x:Int))) st cnt (acc++[pairD (com++[x]) (.lst ((upd vs k com ld x).map eL))]) [.val (.bool true),.val (.lst ((upd vs k com ld x).map eL)),.no,.no,.val (.tup (D.nats (com++[x])))]) ?_ (by repeat (first|exact cy.nil|refine cy.cons (.inr rfl) ?_|refine cy.cons (.inl rfl) ?_));refine Ex.one (bc.ite (p:=(((t+1:Nat):Int)==(k:Int))) (Tr.cmp (Ev.call (by kernel_rfl) G.len trivial (cn.cons (Ev.nm 20 rfl rfl) .nil) .nil hlen) (Ev.nm 1 rfl rfl) cC.Eg) (λ h=>absurd h (by simp;lia)) λ j=>?_);exact Ex.one (bc.append 15 (Ev.tup (cn.cons (Ev.nm 20 rfl rfl) (cn.cons (Ev.nm 17 rfl rfl) .nil))) rfl rfl (by exact GV hc rfl))
  ·have e:C7 vs m k com ld (x::xs)=C7 vs m k com ld xs:=by unfold C7;rw[b0 (by simpa using hm)]
   rw[e];exact Lp.step (ju.name 7 rfl (od rfl) (od rfl)) (EJ P PF G X G5 (λ h=>absurd h hm) λ j=>rfl) (ih _ (λ z h=>hx z (.tail _ h)) (by exact bX hc))
theorem cC.RC{x:Nat}{xs:List Nat}(hn:1≤n):cC c n .In (.int (x:Int)) (.tup (D.nats xs)) (decide (x∈xs)):=by
 have:=cC.RD (c:=c) (x:=(x:Int)) (xs:=xs.map λ (x:Nat)=>(x:Int)) hn;rw[← dW]at this;rwa[mem_cast]at this
noncomputable abbrev H8(c:Cx)(m k:Nat)(o:Option Nat)(vs:List Vo)(stk:List D)(st:TS)(cnt:Nat):List Sl:=H9 c m k o vs .no .no stk st cnt (al 9 .no)
theorem MA(Q:LR c)(P:iD c)(PF:fj c)(PC:kc c)(G:PG c){u:rU}{L:Addr}{p:Addr×Addr}(hp:p∈c.tabs)(hc:u.code=.ref p.1){m k t:Nat}{o:Option Nat}{vs:List Vo}{com:List Nat}{ld:List Rat}{dl:D}{stk:List D}{st:TS}{cnt:Nat}(X:Ctx c m k t vs com ld dl)(kt:st∈l4 k)(xM:cnt≤200)(N3:stk.length≤200):
  Ex c (n+15) (Dl u L) (H8 c m k o vs (stk++[pairD com dl]) st cnt) uu (if t+1=k then Lx k (iv k o st (xS vs m k com ld (ay m))) (λ nd=>H8 c m k o vs stk nd (cnt+(xS vs m k com ld (ay m)).length))else .next (H8 c m k o vs (stk++(C7 vs m k com ld (ay m)).reverse) st cnt)):=by
 have hV:=X.V.l;have h4:=X.h4;have G6:=X.L.l;have Sf:=X.C.l;have SD:=X.C.k;have ht:=X.t;have hK:∀x,x<m→(Qa m vs).lookup (x:Int)=some (.int (fK vs x)):= λ x hx=>by rw[mX,if_pos (aM.mpr hx)]
 have hA:∀x,x<m→(L3 m vs ld).lookup (x:Int)=some (lV (nz (lU vs ld x) none)):= λ x hx=>by rw[mX,if_pos (aM.mpr hx)]
 refine Ex.seq (ρ':=H9 c m k o vs .no (.val dl) stk st cnt (.val (.tup (D.nats com))::al 8 .no)) (bc.Rg 9 (ds:=stk) (es:=[.tup (D.nats com),dl]) rfl rfl (by exact af N3 (aG _ _)) (ju.tup (kU.cons (ju.name 12 rfl (od rfl) (od rfl)) (kU.cons (ju.name 8 rfl (od rfl) (od rfl)) .nil)))) ?_;refine Ex.seq (bc.lh 13 gF.Cs rfl (od rfl) (od rfl)) ?_;refine Ex.seq (ρ':=H9 c m k o vs .no (.val dl) stk st cnt (.val (.tup (D.nats com))::.own true (.dJ (0+(ay m).length) (L3 m vs ld))::al 7 .no)) (bc.for (kd.of (Ev.attr (Ev.nm 0 rfl rfl) P.Cw rfl) Ib.list) λ ds hd=>?_) ?_
 ·subst hd;refine Lp.fill (ρ:=H9 c m k o vs .no (.val dl) stk st cnt (.val (.tup (D.nats com))::al 8 .no)) 13 7 rfl rfl (od rfl) (od rfl) (od rfl) rfl rfl (ay m) 0 [] (by simp;exact af h4 (aG _ _)) λ z j N acc=>?_;exact Ev.LK (n:=n+6) PF P G Q X.V X.L (by exact G3 (bX ht) (af SD h4) rfl) X.dl 0 7 8 (by kernel_rfl) rfl (by kernel_rfl) (by kernel_rfl) rfl rfl rfl rfl rfl rfl hp hc (by intro j;rfl)
 refine Ex.freeze 13 rfl rfl rfl ?_;refine Ex.seq (bc.oI 14 (tn:=["cand"]) (ix:=[13,6,1]) (by kernel_rfl) (ds:=D.nats (ay m)) (i8 λ i=>eL (jb vs k [] ld i.toNat)) (kd.of (Ev.attr (Ev.nm 0 rfl rfl) P.Cw rfl) Ib.list) (by simp[D.nats];exact af h4 (aG _ _)) (λ C d hd=>?_) rfl (od rfl) (od rfl) (by kernel_rfl)) ?_
 ·obtain⟨x,hx,rfl⟩:=gj hd;have hx:=aM.mp hx;exact Vk (n:=n+12) PF Q X.V X.L (by lia) (hA x hx) (hK x hx) (od rfl) rfl rfl rfl rfl (by kernel_rfl) (by kernel_rfl)
 rw[fC];simp only[eT];have R9:D6 (eL (((k:Int)+2:Int):Rat)) com (ay m) ((ay m).map λ x=>eL (jb vs k [] ld x))=(nC vs m k com ld).map eL:=by
  rw[B0,nC,bK];refine ck λ x j=>?_;show _=eL (jb vs k com ld x);unfold jb;simp only[vt,if_false];split<;>rfl
 refine Ex.seq (ρ':=H9 c m k o vs .no (.val dl) stk st cnt ([.val (.tup (D.nats com)),.val (.dJ (L3 m vs ld)),.own true (.lst ((nC vs m k com ld).map eL))]++al 6 .no)) (bc.for (kd.of (Ev.attr (Ev.nm 0 rfl rfl) P.Cw rfl) Ib.list) λ ds hd=>?_) ?_
 ·subst hd;rw[← R9];exact Lp.D6 (c:=c) (n:=n+15) (E:=Dl u L) (w:=eL (((k:Int)+2:Int):Rat)) (com:=com) (ρ:=H9 c m k o vs .no (.val dl) stk st cnt ([.val (.tup (D.nats com)),.val (.dJ (L3 m vs ld)),.no]++al 6 .no)) 14 7 rfl rfl (od rfl) (od rfl) (od rfl) rfl rfl (ay m) ((ay m).map λ x=>eL (jb vs k [] ld x)) (by simp;lia) (λ z hz=>by simpa using hz) λ z j ws=>
   ⟨Tr.cmp (Ev.nm 7 rfl rfl) (Ev.nm 12 rfl rfl) (cC.RC (by exact bB _)),Ev.call (by kernel_rfl) PF.sS PF.keep (cn.cons (Ev.bin (Ev.nm 1 rfl rfl) Ev.int gH.rT) .nil) .nil ((oi (n:=n+13) PF _).fn rfl)⟩
 refine Ex.freeze 14 rfl rfl rfl ?_;refine Ex.seq (bc.lh 15 (gF.lst .nil) rfl (od rfl) (od rfl)) ?_;have tl:∀(es:List D) (nd:TS) (IK:Nat),es.length≤200→Ex c (n+15) (Dl u L) (ya c m k o vs com ld dl stk .no nd IK es (al 5 .no)) (uu.drop 7) (.next (H8 c m k o vs (stk++es.reverse) nd IK)):= λ es nd IK he=>by
  refine Ex.freeze 15 rfl rfl rfl ?_;refine Ex.weak (ρ₁:=H9 c m k o vs .no (.val dl) (stk++es.reverse) nd IK ([.val (.tup (D.nats com)),.val (.dJ (L3 m vs ld)),.val (.lst ((nC vs m k com ld).map eL)),.val (.lst es)]++al 5 .no)) ?_ (by repeat (first|exact cy.nil|refine cy.cons (.inr rfl) ?_|refine cy.cons (.inl rfl) ?_));exact Ex.one (bc.Ic (n:=n+13) 9 (Ev.nm 15 rfl rfl) rfl (od rfl) rfl (by exact T4 N3 he rfl) (by kernel_rfl) G.rev)
 have Ux:∀x∈ay m,x<m:= λ x hx=>aM.mp hx
 by_cases hk:t+1=k
 ·rw[if_pos hk];have tp:=KT (n:=n) (u:=u) (L:=L) (o:=o) (stk:=stk) (acc:=[]) P PF PC G X hk (ay m) st cnt Ux kt (by simp;exact T4 xM h4 rfl);generalize hr:iv k o st (xS vs m k com ld (ay m))=r at tp⊢;obtain⟨nd,b⟩:=r;cases b with
  |true=>exact Ex.stop (bc.for (kd.of (Ev.attr (Ev.nm 0 rfl rfl) P.Cw rfl) Ib.list) λ ds hd=>(by subst hd;exact tp)) rfl
  |false=>
   refine Ex.seq (ρ':=ya c m k o vs com ld dl stk .no nd (cnt+(xS vs m k com ld (ay m)).length) [] (al 5 .no)) (bc.for (kd.of (Ev.attr (Ev.nm 0 rfl rfl) P.Cw rfl) Ib.list) λ ds hd=>(by subst hd;exact tp)) ?_;have:=tl [] nd (cnt+(xS vs m k com ld (ay m)).length) (by simp);rw[List.reverse_nil,bM]at this;exact this
 ·rw[if_neg hk];refine Ex.seq (ρ':=ya c m k o vs com ld dl stk .no st cnt (C7 vs m k com ld (ay m)) (al 5 .no)) (bc.for (kd.of (Ev.attr (Ev.nm 0 rfl rfl) P.Cw rfl) Ib.list) λ ds hd=>(by subst hd;exact KS (n:=n) (u:=u) (L:=L) (o:=o) (stk:=stk) (st:=st) (cnt:=cnt) P PF G X (by exact mJ ht hk) (ay m) [] Ux (by simp;lia))) ?_;refine tl _ st cnt ?_;unfold C7;rw[aE];exact af (bG _ _) (by simp;exact af h4 (aG _ _))
end
structure Nd where
 com:List Nat
 ld:List Rat
 dl:D
noncomputable abbrev Nd.d(x:Nd):D:=pairD x.com x.dl
noncomputable def DJ(c:Cx)(m k:Nat)(vs:List Vo)(x:Nd):Prop:=Ctx c m k x.com.length vs x.com x.ld x.dl
noncomputable def D8(vs:List Vo)(m k:Nat)(x:Nd):List (List Nat):=lv vs m k (k-x.com.length) x.com x.ld
noncomputable def vG(vs:List Vo)(m k:Nat)(l:List Nd):List (List Nat):=l.reverse.flatMap (D8 vs m k)
noncomputable def Am(k:Nat):List Nd→Nat
 |[]=>0
 |x::l=>5^ (k-x.com.length)+Am k l
noncomputable def kids(vs:List Vo)(m k:Nat)(x:Nd):List Nd:=(eU vs m k x.com x.ld).map λ y=>⟨x.com++[y],upd vs k x.com x.ld y,.lst ((upd vs k x.com x.ld y).map eL)⟩
theorem tM(k:Nat)(x:Nd)(l:List Nd):Am k (x::l)=5^ (k-x.com.length)+Am k l:=rfl
theorem BP(k:Nat):Am k []=0:=rfl
theorem qj(k:Nat):∀a b:List Nd,Am k (a++b)=Am k a+Am k b
 |[],b=>by simp[BP]
 |x::a,b=>by rw[List.cons_append,tM,tM,qj k a b];exact(eM _ _ _).symm
theorem w9(k:Nat):∀a:List Nd,Am k a.reverse=Am k a
 |[]=>rfl
 |x::a=>by rw[List.reverse_cons,qj,w9 k a,tM];simp[tM,BP];exact kh _ _
theorem w_(k:Nat):∀a:List Nd,a.length≤Am k a
 |[]=>az _
 |x::a=>by have:=w_ k a;have:0<5^ (k-x.com.length):=Nat.pow_pos (by decide);simp only[tM,aJ];lia
theorem BQ{k e:Nat}:∀a:List Nd,(∀x∈a,k-x.com.length=e)→Am k a=a.length*5^e
 |[],_=>by simp[BP]
 |x::a,h=>by rw[tM,h x (.head _),BQ a λ y hy=>h y (.tail _ hy),aJ,Nat.succ_mul];exact kh _ _
section
variable {c:Cx}{n:Nat}
theorem H7{m k:Nat}{vs:List Vo}{x:Nd}(X:DJ c m k vs x)(ht:x.com.length+1<k):∀y∈kids vs m k x,DJ c m k vs y:= λ y hy=>by
 refine jw hy λ z hz=>?_;have ho:=ic X.V X.L X.C X.t hz;have L':=tP (k:=k) X.V X.L ho;have C':=X.C.next X.t ho (k9 hz);unfold DJ;simp only[aY,pn];exact⟨X.V,X.h4,X.h1,X.h3,C',L',ht,LU.lst L'.l X.V.l⟩
theorem E2{vs:List Vo}{m k:Nat}{x:Nd}:C7 vs m k x.com x.ld (ay m)=(kids vs m k x).map Nd.d:=by
 unfold C7 kids;rw[l7,bK];rfl
theorem zQ{vs:List Vo}{m k:Nat}{com:List Nat}{ld:List Rat}:xS vs m k com ld (ay m)=(eU vs m k com ld).map λ x=>com++[x]:=by unfold xS;rw[l7]
theorem yX{vs:List Vo}{m k:Nat}{x:Nd}(h:x.com.length+1=k):D8 vs m k x=xS vs m k x.com x.ld (ay m):=by
 unfold D8;rw[zQ,show k-x.com.length=0+1 by lia,HZ];simp only[KH];rw[← List.map_eq_flatMap]
theorem Fj{vs:List Vo}{m k:Nat}{x:Nd}(h:x.com.length+1<k):D8 vs m k x=(kids vs m k x).flatMap (D8 vs m k):=by
 unfold D8 kids;rw[Ka (show x.com.length<k by first|assumption|exact kr (by assumption)),HZ,vA];simp only[aY,pn]
theorem VA(Q:LR c)(P:iD c)(PF:fj c)(PC:kc c)(G:PG c){u:rU}{L:Addr}{p:Addr×Addr}(hp:p∈c.tabs)(hc:u.code=.ref p.1){m k:Nat}{o:Option Nat}{vs:List Vo}{p1:Pos}:∀(f:Nat) (l:List Nd) (st:TS) (cnt:Nat),(∀x∈l,DJ c m k vs x)→Am k l≤f→cnt+Am k l≤125→st∈l4 k→
  Wh c (n+15) (Dl u L) (H8 c m k o vs (l.map Nd.d) st cnt) (.Name "committee_load_pairs" p1) uu (Lx k (iv k o st (vG vs m k l)) λ nd=>H8 c m k o vs [] nd (cnt+(vG vs m k l).length)):=by
 intro f
 induction f with
 |zero=>
  intro l st cnt j hf j j;have:l=[]:=gh.mp (by have:=w_ k l;lia);subst this;exact Wh.done (Tr.tU 9 rfl rfl rfl (Tr.val (Ev.nm 9 rfl rfl) (kA.list (ds:=[]) (by simp))))
 |succ f ih=>
  intro l st cnt hl hf xM kt
  rcases List.eq_nil_or_concat l with rfl|⟨l,x,rfl⟩
  ·exact Wh.done (Tr.tU 9 rfl rfl rfl (Tr.val (Ev.nm 9 rfl rfl) (kA.list (ds:=[]) (by simp))))
  ·rw[List.concat_eq_append]at hl hf xM⊢;have X:=hl x (by simp);have nE:∀y∈l,DJ c m k vs y:= λ y hy=>hl y (by simp[hy]);rw[qj]at hf xM;have Yk:Am k [x]=5^ (k-x.com.length):=by simp[tM,BP]
   have Md:=w_ k l;have Wq:=X.t;have Dp:0<5^ (k-x.com.length):=Nat.pow_pos (by decide);have e:vG vs m k (l++[x])=D8 vs m k x++vG vs m k l:=by unfold vG;simp
   have ed:(l++[x]).map Nd.d=l.map Nd.d++[pairD x.com x.dl]:=by simp
   have tr:∀{st cnt},Tr c (n+15) (Dl u L) (H8 c m k o vs (l.map Nd.d++[pairD x.com x.dl]) st cnt) (.Name "committee_load_pairs" p1) true:= λ {st cnt}=>by
    have:=Tr.tU (c:=c) (n:=n+15) (E:=Dl u L) (ρ:=H8 c m k o vs (l.map Nd.d++[pairD x.com x.dl]) st cnt) (e:=.Name "committee_load_pairs" p1) 9 rfl rfl rfl (Tr.val (Ev.nm 9 rfl rfl) (kA.list (ds:=l.map Nd.d++[pairD x.com x.dl]) (by simp;lia)));rwa[show(!(l.map Nd.d++[pairD x.com x.dl]).isEmpty)=true by simp]at this
   have body:=MA (n:=n) (L:=L) (o:=o) (stk:=l.map Nd.d) (st:=st) (cnt:=cnt) Q P PF PC G hp hc X kt (by exact GV xM rfl) (by rw[aE];lia);have uD:(xS vs m k x.com x.ld (ay m)).length≤4:=by rw[zQ,aE];exact af tT X.h4
   rw[e,ed,yF]
   by_cases ht:x.com.length+1=k
   ·rw[if_pos ht,← yX ht]at body;rw[← yX ht]at uD;have h5:5^ (k-x.com.length)=5:=by rw[show k-x.com.length=1 by lia]
    have tp:(iv k o st (D8 vs m k x)).1∈l4 k:=by
     refine tj X.h1 X.h3 X.h4 _ _ (B6 X.V _ _ _ _ (by lia) X.C X.L) kt
    generalize iv k o st (D8 vs m k x)=r at body tp⊢;obtain⟨nd,b⟩:=r;cases b with
    |true=>exact Wh.ret tr body
    |false=>
     have zo:=ih l nd (cnt+(D8 vs m k x).length) nE (by lia) (by lia) tp;rw[eM,← aY]at zo;exact Wh.step tr body zo
   ·have NZ:x.com.length+1<k:=by exact mJ Wq ht
    rw[if_neg ht,E2,← List.map_reverse,← ia]at body;have K5:(kids vs m k x).length≤4:=by unfold kids;rw[aE];exact af tT X.h4
    have Yj:Am k (kids vs m k x)+1≤5^ (k-x.com.length):=by
     rw[BQ (e:=k-(x.com.length+1)) _ λ y hy=>by
      refine jw hy λ z j=>?_;simp]
     rw[Ka (show x.com.length<k by first|assumption|exact kr (by assumption)),Nat.pow_succ];have:=Nat.mul_le_mul_right (5^ (k-(x.com.length+1))) K5;have:0<5^ (k-(x.com.length+1)):=Nat.pow_pos (by decide);lia
    have zo:=ih (l++(kids vs m k x).reverse) st cnt (λ y hy=>(aC.mp hy).elim (nE y) λ h=>H7 X NZ y (vy.mp h)) (by rw[qj,w9];lia) (by rw[qj,w9];lia) kt;have e2:vG vs m k (l++(kids vs m k x).reverse)=D8 vs m k x++vG vs m k l:=by rw[Fj NZ];unfold vG;simp
    rw[e2,yF]at zo;exact Wh.step tr body zo
theorem V6{ks:List (Str×ag)}{x y z p:Str}{d e f g:D}(h:ks.map (·.1)=(fO (·.1) ([(x,d),(y,e),(z,f),(p,g)]:List (Str×D)))):∃a b c d,ks=[(x,a),(y,b),(z,c),(p,d)]:=by
 refine ew (L0 (x:=x) h) λ a t z1 k=>?_;subst z1;refine iu (Qb (d:=e) (e:=f) (f:=g) k) λ b c d z1=>?_;subst z1;exact⟨a,b,c,d,rfl⟩
theorem Fz(Q:LR c)(P:iD c)(PF:fj c)(PC:kc c)(G:PG c){m k:Nat}{o:Option Nat}{vs:List Vo}(V:lj m vs)(h4:m≤4)(h1:1≤k)(h3:k≤3)(hk:k≤m):
  Fn c (n+16) (.ref 434) [] [("profile",pb m vs),("committeesize",.int (k:Int)),("algorithm",.str "standard-fractions"),("max_num_of_committees",mz o)] (HI k (iv k o iC (lv vs m k k [] (vs.map λ y=>0))).1):=by
 refine eX Q.O7 λ u F p hp hc=>?_;have hV:=V.l;refine Fn.of (vn:=Nz) (np:=6) [.kw 0,.kw 1,.kw 2,.kw 3,.dN,.dN] F (by kernel_rfl) (by kernel_rfl) rfl rfl ?_ λ L=>?_
 ·intro s vs ks S hv hk;cases Nn hv;refine xe (V6 hk) λ a zh=>iu zh λ b c d z1=>?_;subst z1;exact Q.Pq.binds S rfl rfl rfl
 ·show Ex c (n+15) (Dl u L) [.val (pb m vs),.val (.int (k:Int)),.val (.str "standard-fractions"),.val (mz o),.val .none,.val .none,.no,.no,.no,.no,.no,.no,.no,.no,.no,.no,.no,.no,.no,.no,.no] _ _;refine Ex.seq (bc.ite (p:=false) (Tr.cmp (Ev.nm 2 rfl rfl) Ev.nA cC.Mo) (λ h=>by cases h) λ y=>Ex.nil) ?_;refine Ex.seq (bc.ite (p:=false) (Tr.cmp (Ev.nm 2 rfl rfl) Ev.nA cC.T9) (λ h=>by cases h) λ y=>Ex.nil) ?_;refine Ex.seq (bc.lh 6 gF.Cs rfl (od rfl) (od rfl)) ?_;refine Ex.seq (ρ':=[.val (pb m vs),.val (.int (k:Int)),.val (.str "standard-fractions"),.val (mz o),.val .none,.val .none,.own true (.dJ (0+(ay m).length) (Qa m vs)),.no,.no,.no,.no,.no,.no,.no,.no,.no,.no,.no,.no,.no,.no]) (bc.for (kd.of (Ev.attr (Ev.nm 0 rfl rfl) P.Cw rfl) Ib.list) λ ds hd=>?_) ?_
  ·subst hd;refine Lp.fill (ρ:=[.val (pb m vs),.val (.int (k:Int)),.val (.str "standard-fractions"),.val (mz o),.val .none,.val .none,.no,.no,.no,.no,.no,.no,.no,.no,.no,.no,.no,.no,.no,.no,.no]) 6 7 rfl rfl (od rfl) (od rfl) (od rfl) rfl rfl (ay m) 0 [] (by simp;exact rF h4 rfl) λ z y N acc=>?_;exact Ev.fK P G V 0 7 (by kernel_rfl) rfl (by kernel_rfl) rfl rfl rfl rfl hp hc (by intro y;rfl)
  refine Ex.freeze 6 rfl rfl rfl ?_;refine Ex.seq (bc.asg 8 (Ev.nm 4 rfl rfl) rfl (od rfl) (od rfl)) ?_;refine Ex.seq (ρ':=[.val (pb m vs),.val (.int (k:Int)),.val (.str "standard-fractions"),.val (mz o),.val .none,.val .none,.val (.dJ (Qa m vs)),.no,.own true (.dJ ((il 0 (vs.map ly)).filterMap BN).reverse.length ((il 0 (vs.map ly)).filterMap BN).reverse),.no,.no,.no,.no,.no,.no,.no,.no,.no,.no,.no,.no])
   (bc.ite (p:=true) (Tr.cmp (Ev.nm 8 rfl rfl) Ev.lF (cC.Ny rfl)) (λ y=>Ex.one (bc.lh 8 (gF.Pn (tn:=["v","_"]) (ix:=[]) (by kernel_rfl) BN (xQ (n:=n+11) P G (by kernel_rfl) (Ev.nm 0 rfl rfl)) ?_ λ C d hd=>?_) rfl (od rfl) (od rfl))) (λ h=>by cases h)) ?_
  ·have:∀(l:List Vo) i,(il i (l.map ly)).length=l.length:=by
    intro l;induction l with
    |nil=>intro i;rfl
    |cons a l ih=>intro i;rw[a_,il,aJ,ih,aJ]
   rw[this];exact rF hV rfl
  ·refine bO (yW hd) λ j v hv y y z1=>?_;subst z1;refine⟨_,CR 0 1 rfl (od rfl) (od rfl) rfl (od rfl) (od rfl),by repeat (first|exact cy.nil|refine cy.cons (.inr rfl) ?_|refine cy.cons (.inl rfl) ?_),He.nil,λ y z hz=>?_⟩;cases hz;exact⟨Ev.nm 0 rfl rfl,Ev.call (by kernel_rfl) PF.sS PF.keep (cn.cons Ev.int .nil) .nil ((oi (n:=n+13) PF 0).fn rfl)⟩
  refine Ex.freeze 8 rfl rfl rfl ?_;refine Ex.seq (ρ':=H9 c m k o vs .no (.val (.dJ ((il 0 (vs.map ly)).filterMap BN).reverse)) [] iC 0 (al 9 .no)|>.set 9 .no|>.set 10 .no|>.set 11 .no) (bc.ite (p:=true) (Tr.cmp (Ev.nm 5 rfl rfl) Ev.lF (cC.Ny rfl)) (λ y=>Ex.one (bc.asg 5 (Ev.tup .nil) rfl (od rfl) (od rfl))) (λ h=>by cases h)) ?_;refine Ex.seq (bc.lh 9 (gF.lst (ds:=[pairD [] (.dJ ((il 0 (vs.map ly)).filterMap BN).reverse)]) (cn.cons (Ev.tup (cn.cons (Ev.nm 5 rfl rfl) (cn.cons (Ev.nm 8 rfl rfl) .nil)) (by simp)) .nil) (by simp)) rfl (od rfl) (od rfl)) ?_;refine Ex.seq (bc.lh 10 (gF.call (by kernel_rfl) G.set trivial .nil .nil (mI.Q1 (k:=k) h1 h3)) rfl (od rfl) (od rfl)) ?_
  with_reducible refine Ex.MZ 11 ?_ ?_ ?_ ?_
  ·rfl
  ·exact(od rfl)
  ·exact(od rfl)
  have X:DJ c m k vs ⟨[],vs.map λ y=>0,.dJ ((il 0 (vs.map ly)).filterMap BN).reverse⟩:=⟨V,h4,h1,h3,oK.nil hk,oV.start vs,h1,LU.zero⟩;have hw:Am k [⟨[],vs.map λ y=>0,.dJ ((il 0 (vs.map ly)).filterMap BN).reverse⟩]≤125:=by
   exact(by decide:∀k<4,5^ (k-0)+0≤125) k (kq h3)
  have h0:iC∈l4 k:=mu h1 h3;have wh:= λ p1=>VA (n:=n) (u:=u) (L:=L) (o:=o) (p1:=p1) Q P PF PC G hp hc 125 [⟨[],vs.map λ y=>0,.dJ ((il 0 (vs.map ly)).filterMap BN).reverse⟩] iC 0 (λ x hx=>by rw[aj]at hx;subst hx;exact X) hw (by lia) h0;have e:vG vs m k [⟨[],vs.map λ y=>0,.dJ ((il 0 (vs.map ly)).filterMap BN).reverse⟩]=lv vs m k k [] (vs.map λ y=>0):=by unfold vG D8;simp
  rw[e]at wh;refine Ex.JG (ρ₂:=H8 c m k o vs ([⟨[],vs.map λ y=>0,.dJ ((il 0 (vs.map ly)).filterMap BN).reverse⟩].map Nd.d) iC 0) ?_ (by repeat (first|exact cy.nil|refine cy.cons (.inr rfl) ?_|refine cy.cons (.inl rfl) ?_));have tp:(iv k o iC (lv vs m k k [] (vs.map λ y=>0))).1∈l4 k:=tj h1 h3 h4 _ _ (B6 V k 0 [] _ (by exact gW _) (oK.nil hk) (oV.start vs)) h0;generalize iv k o iC (lv vs m k k [] (vs.map λ y=>0))=r at wh tp⊢;obtain⟨nd,b⟩:=r;cases b with
  |true=>exact Ex.stop (bc.while (wh _)) rfl
  |false=>exact Ex.seq (bc.while (wh _)) (EW PC G h1 h3 tp rfl rfl)
end
theorem EY{vs:List Vo}{m k:Nat}(V:lj m vs)(h4:m≤4):∀(r t:Nat) (s:List Nat×List Rat),t+r=k→GZ vs m k t s→s.1.Sublist [0,1,2,3]→(rn vs m k r s).1.Sublist [0,1,2,3]:=by
 intro w
 induction w with
 |zero=>
  intro z z z z h;exact h
 |succ r ih=>
  intro t s e S h;rw[EZ];refine ih (t+1) _ (by exact By e) (S.step V (by exact JP e)) ?_;have hx:=head_mem (d:=0) (th (vs:=vs) (m:=m) (k:=k) (com:=s.1) (ld:=s.2) (by have:=S.c.k;lia));have C:=S.c.next (by lia) (ic V S.l S.c (by lia) hx) (k9 hx);exact wc C.n C.r h4
noncomputable def md(vs:List Vo)(m k:Nat)(b:Bool)(o:Option Nat):List (List Nat):=
 if b=true then [(rn vs m k k ([],vs.map λ z=>0)).1]else fD k (iv k o iC (lv vs m k k [] (vs.map λ z=>0))).1
section
variable {c:Cx}{n:Nat}
noncomputable abbrev IJ:List Str:=["profile","committeesize","algorithm","resolute","max_num_of_committees","rule_id","rule","committees","detailed_info"]
structure All(c:Cx):Prop where
 R:G0 c
 Q:LR c
 P:iD c
 PF:fj c
 PC:kc c
 G:PG c
theorem rS(H:All c){u:rU}{L:Addr}{m k:Nat}{vs:List Vo}{b:Bool}{o:Option Nat}(V:lj m vs)(h4:m≤4)(h1:0<k)(hk:k≤m)(h3:b=false→k≤3)(ho:∀j,o=some j→0<j∧b=false):
  Ex c (n+16) (mO (Ct.fd (.ref 415) u) L 422 IJ) [.val (pb m vs),.val (.int (k:Int)),.val (.str "standard-fractions"),.val (.bool b),.val (mz o),.no,.no,.no,.no] Ct.body (.ret (.lst ((md vs m k b o).map D.dm))):=by
 obtain⟨R,Q,P,PF,PC,G⟩:=H;refine Ex.seq (bc.asg 5 Ev.nA rfl (od rfl) (od rfl)) ?_;refine Ex.seq (bc.lh 6 (gF.call (by kernel_rfl) R.gR R.kR (cn.cons (Ev.nm 5 rfl rfl) .nil) .nil (C2 (n:=n+12) R G)) rfl (od rfl) (od rfl)) ?_;refine Ex.freeze 6 rfl rfl rfl ?_;refine Ex.seq (bc.ite (p:=false) (Tr.cmp (Ev.nm 2 rfl rfl) Ev.nA cC.Mo) (λ h=>by cases h) λ z=>Ex.nil) ?_;refine Ex.seq (bc.expr (Ev.Nc (Ev.nm 6 rfl rfl) R.mv rfl .nil (ov.cons (Ev.nm 0 rfl rfl) (ov.cons (Ev.nm 1 rfl rfl) (ov.cons (Ev.nm 2 rfl rfl) (ov.cons (Ev.nm 3 rfl rfl) (ov.cons (Ev.nm 4 rfl rfl) .nil))))) (yn (n:=n+10) R P PF G h4 h1 hk V.p V.l ho))) ?_;cases b with
 |true=>
  have hS:=GZ.run V k 0 ([],vs.map λ z=>0) (by exact gW _) ⟨oK.nil hk,oV.start vs⟩;have gz:=EY V h4 k 0 ([],vs.map λ z=>0) (by lia) ⟨oK.nil hk,oV.start vs⟩ (List.nil_sublist _);have N9:=EX (n:=n) Q P PF G V h4 hk;unfold md;rw[if_pos rfl];generalize rn vs m k k ([],vs.map λ z=>0)=s at hS gz N9⊢;refine Ex.seq (ρ':=[.val (pb m vs),.val (.int (k:Int)),.val (.str "standard-fractions"),.val (.bool true),.val (mz o),.val (.str "seqphragmen"),.val yH,.val (.lst [.lst (D.nats s.1)]),.val .any]) (bc.ite (p:=true) (Tr.val (Ev.nm 3 rfl rfl) kA.bool) (λ z=>Ex.one (bc.PD (Ev.call (by kernel_rfl) Q.gR Q.kR .nil (ov.cons (Ev.nm 0 rfl rfl) (ov.cons (Ev.nm 1 rfl rfl) (ov.cons (Ev.nm 2 rfl rfl) .nil))) N9) (CR 7 8 rfl (od rfl) (od rfl) rfl (od rfl) (od rfl)))) (λ h=>by cases h)) ?_;refine Ex.one (bc.ret (Ev.call (ds:=[.lst [.lst (D.nats s.1)]]) (by kernel_rfl) PC.gS PC.kS (cn.cons (Ev.nm 7 rfl rfl) .nil) .nil (xl (n:=n+4) (mk:= λ xs=>.lst (D.nats xs)) (css:=[s.1]) PC G (λ xs=>by show some (D.dm ((D.nats xs).filterMap natOf))=_;rw[pD]) (λ xs hx=>?_) (λ m' tg=>?_) (λ xs hx=>?_) (jG _ _) (by simp))))
  ·rw[aj]at hx;subst hx;exact jL.lst (n:=n+4) gz
  ·exact Ib.weak Ib.list λ ds e=>⟨[s.1],.refl _,e⟩
  ·rw[aj]at hx;subst hx;exact gz
 |false=>
  have h3:=h3 rfl;have Oo:=Fz (n:=n) (o:=o) Q P PF PC G V h4 h1 h3 hk;have tp:=tj (o:=o) h1 h3 h4 _ iC (B6 V k 0 [] _ (by lia) (oK.nil hk) (oV.start vs)) (mu h1 h3);unfold md;rw[if_neg (by decide)];generalize (iv k o iC (lv vs m k k [] (vs.map λ z=>0))).1=st at Oo tp⊢;refine jH (wR h1 h3 tp) λ q1 q2 q3=>?_;refine Ex.seq (ρ':=[.val (pb m vs),.val (.int (k:Int)),.val (.str "standard-fractions"),.val (.bool false),.val (mz o),.val (.str "seqphragmen"),.val yH,.val (.lst ((fD k st).map D.dm)),.val .any]) (bc.ite (p:=false) (Tr.val (Ev.nm 3 rfl rfl) kA.bool) (λ h=>by cases h) λ z=>Ex.one (bc.PD (Ev.call (by kernel_rfl) Q.gI Q.kI .nil (ov.cons (Ev.nm 0 rfl rfl) (ov.cons (Ev.nm 1 rfl rfl) (ov.cons (Ev.nm 2 rfl rfl) (ov.cons (Ev.nm 4 rfl rfl) .nil)))) Oo) (CR 7 8 rfl (od rfl) (od rfl) rfl (od rfl) (od rfl)))) ?_;exact Ex.one (bc.ret (Ev.call (ds:=[.lst ((fD k st).map D.dm)]) (by kernel_rfl) PC.gS PC.kS (cn.cons (Ev.nm 7 rfl rfl) .nil) .nil (xl (n:=n+4) (mk:=D.dm) (css:=fD k st) PC G (λ xs=>rfl) (λ xs hx=>jL.dm) (λ m' tg=>Ib.weak Ib.list λ ds e=>⟨_,.refl _,e⟩) q1 q2 q3)))
theorem wU(H:All c){m k:Nat}{vs:List Vo}(V:lj m vs)(h4:m≤4)(h1:0<k)(hk:k≤m):
  Fn c (n+17) (.ref 422) [pb m vs,.int (k:Int)] [("algorithm",.str "standard-fractions")] (.lst ((md vs m k true none).map D.dm)):=by
 refine eX H.Q.IC λ u F p hp hc=>?_;refine xe H.Q.II λ t hD=>?_;refine Fn.of (vn:=IJ) (np:=5) [.pos 0,.pos 1,.kw 0,.dB true,.dN] F (by kernel_rfl) (by kernel_rfl) rfl rfl ?_ λ L=>rS H (b:=true) (o:=none) V h4 h1 hk (λ h=>nomatch h) λ j h=>nomatch h;intro s vs ks S hv hk;refine iB (xD hv) λ a b z1=>?_;subst z1;refine xe (Qc hk) λ d z1=>?_;subst z1;exact hD.binds S rfl rfl rfl
theorem Br(H:All c){m k:Nat}{vs:List Vo}(V:lj m vs)(h4:m≤4)(h1:0<k)(hk:k≤m)(h3:k≤3):
  Fn c (n+17) (.ref 422) [pb m vs,.int (k:Int)] [("algorithm",.str "standard-fractions"),("resolute",.bool false)] (.lst ((md vs m k false none).map D.dm)):=by
 refine eX H.Q.IC λ u F p hp hc=>?_;refine xe H.Q.II λ t hD=>?_;refine Fn.of (vn:=IJ) (np:=5) [.pos 0,.pos 1,.kw 0,.kw 1,.dN] F (by kernel_rfl) (by kernel_rfl) rfl rfl ?_ λ L=>rS H (b:=false) (o:=none) V h4 h1 hk (λ z=>h3) λ j h=>nomatch h;intro s vs ks S hv hk;refine iB (xD hv) λ a b z1=>?_;subst z1;refine iB (Rp hk) λ d e z1=>?_;subst z1;exact hD.binds S rfl rfl rfl
theorem Bq(H:All c){m k j:Nat}{vs:List Vo}(V:lj m vs)(h4:m≤4)(h1:0<k)(hk:k≤m)(h3:k≤3)(hj:0<j):
  Fn c (n+17) (.ref 422) [pb m vs,.int (k:Int)] [("algorithm",.str "standard-fractions"),("resolute",.bool false),("max_num_of_committees",.int (j:Int))] (.lst ((md vs m k false (some j)).map D.dm)):=by
 refine eX H.Q.IC λ u F p hp hc=>?_;refine xe H.Q.II λ t hD=>?_;refine Fn.of (vn:=IJ) (np:=5) [.pos 0,.pos 1,.kw 0,.kw 1,.kw 2] F (by kernel_rfl) (by kernel_rfl) rfl rfl ?_ λ L=>rS H (o:=some j) V h4 h1 hk (λ z=>h3) λ i h=>by cases h;exact⟨hj,rfl⟩
 intro s vs ks S hv hk;refine iB (xD hv) λ a b z1=>?_;subst z1;refine iu (Qb hk) λ d e f z1=>?_;subst z1;exact hD.binds S rfl rfl rfl
end
section
set_option backward.match.sparseCases false
theorem wq{α β:Type}(a:α)(b:β):∀(l:List α) (r:List β),l.length=r.length→(ay l.length).map (λ i=>(l.getD i a,r.getD i b))=l.zip r:= λ l r h=>by
 refine j4 λ i=>?_
 by_cases hi:i<l.length
 ·have hz:i<(l.zip r).length:=by rw[lS];exact KD h.symm hi
  rw[bU,qZ hi,aq hz];simp[ai,hi,show i<r.length by exact fx hi h]
 ·rw[bk (by simp;exact cw hi),bk (by rw[lS];exact af (x9 _ _) (cw hi))]
theorem AZ{α:Type}(a:α)(l:List α):(ay l.length).map (λ i=>l.getD i a)=l:=by
 refine j4 λ i=>?_
 by_cases hi:i<l.length
 ·rw[bU,qZ hi];simp[ai,hi]
 ·rw[bk (by rw[aE,tF];exact cw hi),bk (cw hi)]
variable {rows:List Row}{purse:List Int}{unit:Int}{m k t x:Nat}{ld:List Rat}
theorem qx(rows:List Row)(x:Nat):eY rows x=fK (dX rows) x:=by
 have h:=AZ ([],0) rows;unfold eY fK dX cW;rw[o5,bK]
 conv=>rhs;rw[← h,o5,bK]
 rfl
theorem zX:(cW rows x).isEmpty=false↔∃r∈rows,x∈r.1:=by
 unfold cW jo;constructor
 ·intro h;have h':(ay rows.length).filter (λ i=>decide (x∈(rows.getD i ([],0)).1))≠[]:=by intro e;rw[e]at h;cases h
  refine xe (List.exists_mem_of_ne_nil _ h') λ i hi=>?_;rw[aN,aM]at hi;rw[ai,aq hi.1]at hi;exact⟨_,gb hi.1,by simpa using hi.2⟩
 ·rintro⟨r,hr,hx⟩
  obtain⟨i,hi,rfl⟩:=eV hr;have:i∈(ay rows.length).filter (λ i=>decide (x∈(rows.getD i ([],0)).1)):=by
   rw[aN,aM,ai,aq hi];exact⟨hi,by simpa using hx⟩
  cases hc:(ay rows.length).filter (λ i=>decide (x∈(rows.getD i ([],0)).1))with
  |nil=>rw[hc]at this;cases this
  |cons a l=>rfl
noncomputable def A6(rows:List Row)(purse:List Int)(x:Nat):Int:=(((rows.zip purse).filter λ p=>decide (x∈p.1.1)).map (·.2)).sum
theorem H6(h:rows.length=purse.length):fY rows purse unit x=unit-A6 rows purse x:=by
 unfold fY A6 cW jo;rw[← wq ([],0) 0 rows purse h,o5,bK];rfl
theorem GQ{n_ n5:Int}(h:rows.length=purse.length):kQ rows purse n_ n5 x=(rows.zip purse).map λ p=>if x∈p.1.1 then 0 else p.2*n5+p.1.2*n_:=by
 rw[← wq ([],0) 0 rows purse h,bK];rfl
noncomputable def PR(U T:Rat):List Row→List Rat→List Int→Prop
 |[],[],[]=>True
 |r::rows,q::ld,p::ps=>(p:Rat)=U*(r.2:Rat)*(T-q)∧q≤T∧PR U T rows ld ps
 |_,_,_=>False
@[elab_as_elim] theorem PR.ind {U T:Rat} {M:List Row→List Rat→List Int→Prop} {rows:List Row} {ld:List Rat} {ps:List Int} (h:PR U T rows ld ps) (m0:M [] [] []) (m1:∀(r:Row) (rows:List Row) (q:Rat) (ld:List Rat) (p:Int) (ps:List Int),(p:Rat)=U*(r.2:Rat)*(T-q)→q≤T→M rows ld ps→M (r::rows) (q::ld) (p::ps)):M rows ld ps:=by
 induction rows generalizing ld ps with
 |nil=>
  cases ld with
  |nil=>
   cases ps with
   |nil=>exact m0
   |cons=>exact h.elim
  |cons=>exact h.elim
 |cons r rows ih=>
  cases ld with
  |nil=>exact h.elim
  |cons q ld=>
   cases ps with
   |nil=>exact h.elim
   |cons p ps=>exact m1 r rows q ld p ps h.1 h.2.1 (ih h.2.2)
theorem PR.len{U T:Rat}{rows:List Row}{ld:List Rat}{ps:List Int}(h:PR U T rows ld ps):ld.length=rows.length∧ps.length=rows.length:=
 h.ind ⟨rfl,rfl⟩ λ _ _ _ _ _ _ _ _ ih=>⟨congrArg u4 ih.1,congrArg u4 ih.2⟩
theorem Rd{r:Row}{rows:List Row}{p:Int}{ps:List Int}{x:Nat}(h:x∈r.1):A6 (r::rows) (p::ps) x=p+A6 rows ps x:=
 congrArg (λ l=>(fO (λ p:Row×Int=>p.2) l).sum) (bZ (p:= λ p:Row×Int=>decide (x∈p.1.1)) (a:=(r,p)) (decide_eq_true h))
theorem Rf{r:Row}{rows:List Row}{p:Int}{ps:List Int}{x:Nat}(h:x∉r.1):A6 (r::rows) (p::ps) x=A6 rows ps x:=
 congrArg (λ l=>(fO (λ p:Row×Int=>p.2) l).sum) (b0 (p:= λ p:Row×Int=>decide (x∈p.1.1)) (a:=(r,p)) λ e=>h (of_decide_eq_true e))
theorem PR.sum{U T:Rat}(x:Nat){rows:List Row}{ld:List Rat}{ps:List Int}(h:PR U T rows ld ps):((A6 rows ps x:Int):Rat)=U*(T*((fK (dX rows) x:Int):Rat) -(lU (dX rows) ld x).sum):=
 h.ind (by show((0:Int):Rat)=U*(T*((0:Int):Rat) -0);grind) λ r rows q ld p ps h1 _ ih=>by
  by_cases hx:x∈r.1
  ·show _=U*(T*((fK ((r.2,r.1)::dX rows) x:Int):Rat) -(lU ((r.2,r.1)::dX rows) (q::ld) x).sum);rw[Rd hx,PE hx,IP hx,fQ,fQ,ih,h1];grind
  ·show _=U*(T*((fK ((r.2,r.1)::dX rows) x:Int):Rat) -(lU ((r.2,r.1)::dX rows) (q::ld) x).sum);rw[Rf hx,PH hx,IQ hx,ih]
noncomputable def yo(vs:List Vo)(ld:List Rat)(x:Nat)(z:Rat):List Rat:=(vs.zip ld).map λ p=>if x∈p.1.2 then z else p.2
theorem I1{v:Vo}{vs:List Vo}{q:Rat}{ld:List Rat}{x:Nat}{z:Rat}(M:List Rat→Prop)(h1:x∈v.2→M (z::yo vs ld x z))(h2:x∉v.2→M (q::yo vs ld x z)):M (yo (v::vs) (q::ld) x z):=by
 show M ((if x∈v.2 then z else q)::yo vs ld x z)
 split
 ·exact h1 ‹_›
 ·exact h2 ‹_›
theorem PR.after{U T z W:Rat}{n_ n5:Int}(hp:(n5:Rat)=W)(hl:(n_:Rat)=U*W*(z-T))(hz:T≤z){rows:List Row}{ld:List Rat}{ps:List Int}(h:PR U T rows ld ps):PR (U*W) z rows (yo (dX rows) ld x z) ((rows.zip ps).map λ p=>if x∈p.1.1 then 0 else p.2*n5+p.1.2*n_):=
 h.ind trivial λ r rows q ld p ps h1 h2 ih=>by
  rw[List.zip_cons_cons,a_];refine I1 (v:=(r.2,r.1)) (λ l=>PR (U*W) z (r::rows) l _) (λ hx=>?_) λ hx=>?_
  ·rw[if_pos hx];exact⟨by rw[Rat.intCast_zero];grind,ek,ih⟩
  ·rw[if_neg hx];refine⟨?_,dK h2 hz,ih⟩;rw[fQ,bH,bH,h1,hp,hl];grind
theorem PR.more{U T z:Rat}(y:Nat)(hz:T≤z){rows:List Row}{ld:List Rat}{ps:List Int}(hw:∀r∈rows,0<r.2)(h:PR U T rows ld ps):(lU (dX rows) ld y).sum≤(lU (dX rows) (yo (dX rows) ld x z) y).sum:=by
 revert hw;refine h.ind (λ _=>ek) λ r rows q ld p ps _ h2 ih hw=>?_;have ih:=ih λ r h=>hw r (.tail _ h);have w:(0:Rat)≤(r.2:Rat):=h_.mpr (bL (hw r (.head _)));have key:∀q':Rat,q≤q'→(lU ((r.2,r.1)::dX rows) (q::ld) y).sum≤(lU ((r.2,r.1)::dX rows) (q'::yo (dX rows) ld x z) y).sum:= λ q' hq=>by
  by_cases hy:y∈r.1
  ·rw[IP hy,IP hy];exact T7 (eC hq w) ih
  ·rw[IQ hy,IQ hy];exact ih
 exact I1 (v:=(r.2,r.1)) (λ l=>_≤(lU (dX (r::rows)) l y).sum) (λ _=>key z (dK h2 hz)) λ _=>key q ek
theorem PR.bound{U T M:Rat}(hU:0≤U)(hM:U*12*T≤M){rows:List Row}{ld:List Rat}{ps:List Int}(hw:∀r∈rows,0<r.2∧r.2≤12)(hq:∀q∈ld,0≤q)(h:PR U T rows ld ps):∀p∈ps,0≤p∧(p:Rat)≤M:=by
 revert hw hq;refine h.ind (λ _ _ _ h=>nn h) λ r rows q ld p ps h1 h2 ih hw hq p' Aq=>?_
 rcases mc Aq with rfl|Aq
 ·have w:=hw r (.head _);have w0:(0:Rat)≤(r.2:Rat):=h_.mpr (bL w.1);have w1:(r.2:Rat)≤((12:Int):Rat):=bY.mpr w.2;have d0:0≤T-q:=by grind
  have d1:T-q≤T:=by have:=hq q (.head _);grind
  rw[h1];exact⟨h_.mp (by rw[h1];exact qS (qS hU w0) d0),dK (eC (lO w1 hU) d0) (dK (lO d1 (qS hU (by decide))) hM)⟩
 ·exact ih (λ r h=>hw r (.tail _ h)) (λ z h=>hq z (.tail _ h)) p' Aq
end
section
noncomputable abbrev LS:=List Nat×List Int×Int
structure fE(m:Nat)(rows:List Row):Prop where
 r:∀r∈rows,CA m r
 l:rows.length≤3
 p:0<rows.length
variable {rows:List Row}{m k t x:Nat}{ld:List Rat}{s:LS}
theorem fE.vs(H:fE m rows):lj m (dX rows):=by
 refine⟨by unfold dX;rw[aE];exact H.l,by unfold dX;rw[aE];exact H.p,λ v hv=>?_,λ v hv=>?_⟩<;>refine jw hv λ r hr=>?_
 ·exact(H.r r hr).2.2
 ·exact(H.r r hr).1
theorem fE.w(H:fE m rows):∀r∈rows,0<r.2∧r.2≤12:= λ r hr=>(H.r r hr).2.2
structure Rel(rows:List Row)(m k t:Nat)(s:LS)(ld:List Rat):Prop where
 C:oK m k t s.1
 L:oV (dX rows) t ld
 U:0<s.2.2∧s.2.2≤36^t
 T:∃T:Rat,PR (s.2.2:Rat) T rows ld s.2.1∧0≤T∧T≤((t:Int):Rat)∧∀y,y∉s.1→0<fK (dX rows) y→T*((fK (dX rows) y:Int):Rat)≤(lU (dX rows) ld y).sum+1
theorem Rel.nx(H:fE m rows)(R:Rel rows m k t s ld)(ht:t≤4):BC rows s.2.1 s.2.2:=by
 refine eE R.T λ T hP SR Lj z=>?_;have Qx:(0:Rat)≤(s.2.2:Rat):=h_.mpr (bL R.U.1);have Vb:=yP ht;have SQ:(s.2.2:Rat)≤((36^4:Int):Rat):=bY.mpr (d9 R.U.2 Vb);have Ee:T≤((4:Int):Rat):=dK Lj (bY.mpr (by exact ki.mpr ht));have hM:(s.2.2:Rat)*12*T≤((36^4*12*4:Int):Rat):=by
  have a1:=eC SQ SR;have a2:=lO Ee (show(0:Rat)≤((36^4:Int):Rat)from h_.mpr (by decide));have e:((36^4*12*4:Int):Rat)=12*(((36^4:Int):Rat)*((4:Int):Rat)):=by rw[← bH,show(12:Rat)=((12:Int):Rat)from rfl,← bH];rfl
  rw[e];grind
 have hb:=PR.bound Qx hM H.w (λ q hq=>(R.L.b q hq).1) hP;refine⟨H.l,hP.len.2,H.w,λ p hp=>⟨(hb p hp).1,?_⟩,R.U.1,b_ (d9 R.U.2 Vb) (by decide)⟩;exact b_ (bY.mp (hb p hp).2) (by decide)
theorem tB(H:fE m rows)(R:Rel rows m k t s ld):(cW rows x).isEmpty=false↔0<fK (dX rows) x:=by
 refine cg (R.L.pos H.vs x) λ z z h3 h4=>?_;rw[zX];constructor
 ·rintro⟨r,hr,hx⟩
  refine dr λ h=>h4 (by lia) (r.2,r.1) ?_ hx;exact aL.mpr ⟨r,hr,rfl⟩
 ·intro h;refine dr λ hn=>?_;have:fK (dX rows) x=0:=by
   unfold fK;rw[j8.mpr λ v hv=>?_];rfl;refine jw hv λ r hr=>?_;simp only[decide_eq_true_eq];exact λ hx=>hn ⟨r,hr,hx⟩
  lia
noncomputable def HV(rows:List Row)(m:Nat)(s:LS)(x:Nat):List Int×Int:=
 if fM rows m s.1 s.2.1 s.2.2=[]then s.2 else(kQ rows s.2.1 (fY rows s.2.1 s.2.2 x) (eY rows x) x,s.2.2*eY rows x)
theorem Fw(R:Rel rows m k t s ld){T:Rat}(hP:PR (s.2.2:Rat) T rows ld s.2.1)(x:Nat):((fY rows s.2.1 s.2.2 x:Int):Rat)=(s.2.2:Rat)*((lU (dX rows) ld x).sum+1-T*((fK (dX rows) x:Int):Rat)):=by
 rw[H6 hP.len.2.symm,Rat.intCast_sub,hP.sum x];grind
theorem lG(H:fE m rows)(R:Rel rows m k t s ld)(ht:t<k):jJ rows m s.1 s.2.1 s.2.2=(eU (dX rows) m k s.1 ld).map (λ x=>(x,HV rows m s x))∧∀x∈eU (dX rows) m k s.1 ld,Rel rows m k (t+1) (s.1++[x],HV rows m s x) (upd (dX rows) k s.1 ld x):=by
 refine eE R.T λ T hP SR Lj Ee=>?_;have V:=H.vs;have hU:(0:Rat)<(s.2.2:Rat):=pk.mpr R.U.1;have Jt:fM rows m s.1 s.2.1 s.2.2=[]↔∀y,y<m→y∉s.1→¬0<fK (dX rows) y:=by
  unfold fM fI;rw[qY,j8];refine forall_congr' λ y=>?_;rw[aN,aM];have:=tB (x:=y) H R;constructor
  ·intro h h1 h2 h3;rw[← this]at h3;exact h ⟨h1,by simpa using h2⟩ (by rw[h3];rfl)
  ·rintro h ⟨h1,h2⟩ h3
   refine h h1 (by simpa using h2) (this.mp ?_);simpa using h3
 by_cases hw:fM rows m s.1 s.2.1 s.2.2=[]
 ·have RS:=Jt.mp hw;have ht:eU (dX rows) m k s.1 ld=fI m s.1:=by
   rw[← l7];refine m9 λ y hy=>?_;have hy:=aM.mp hy
   by_cases uy:y∈s.1
   ·rw[decide_eq_false (λ h=>ic V R.L R.C ht h uy),decide_eq_true uy];rfl
   ·rw[decide_eq_false uy];refine decide_eq_true (lC.mpr ⟨hy,λ z hz=>?_⟩);rw[qz V R.L uy (RS y hy uy)]
    by_cases RI:z∈s.1
    ·rw[xu RI];exact bY.mpr (by lia)
    ·rw[qz V R.L RI (RS z hz RI)];exact ek
  have hg:∀x,HV rows m s x=s.2:= λ x=>by unfold HV;rw[if_pos hw]
  refine⟨?_,λ x hx=>?_⟩
  ·unfold jJ;rw[if_pos hw,ht];exact ck λ x j=>by rw[hg]
  ·have ho:=ic V R.L R.C (by lia) hx;have hm:=k9 hx;have FO:=RS x hm ho;have hu:upd (dX rows) k s.1 ld x=ld:=by
    refine cg (R.L.pos V x) λ j j h3 h4=>?_;have:=h4 (by lia);unfold upd;rw[ck (g:=Prod.snd) λ p hp=>if_neg (this _ (tc hp).1),List.map_snd_zip (by rw[R.L.l];exact az _)]
   rw[hg];have L':=tP (k:=k) V R.L ho;rw[hu]at L'⊢;refine⟨R.C.next (by lia) ho hm,L',⟨R.U.1,d9 R.U.2 (by rw[u5];have:(0:Int)<36^t:=wZ (by decide);lia)⟩,T,hP,SR,dK Lj (bY.mpr (by lia)),λ y hy hp=>Ee y (λ h=>hy (aF _ h)) hp⟩
 ·have Cn:∀y,0<fK (dX rows) y→(0:Rat)<((fK (dX rows) y:Int):Rat):= λ y h=>pk.mpr h;have Eb:∀y,y∉s.1→0<fK (dX rows) y→((fY rows s.2.1 s.2.2 y:Int):Rat)=(s.2.2:Rat)*((fK (dX rows) y:Int):Rat)*(jb (dX rows) k s.1 ld y-T):= λ y hy hp=>by
   have:=(oF (k:=k) V R.L hy hp).2.2;rw[Fw R hP];grind
  have OB:∀y z,y∉s.1→0<fK (dX rows) y→z∉s.1→0<fK (dX rows) z→(fY rows s.2.1 s.2.2 y*eY rows z<fY rows s.2.1 s.2.2 z*eY rows y↔jb (dX rows) k s.1 ld y<jb (dX rows) k s.1 ld z):= λ y z hy hyp hz Ul=>by
   rw[← Rat.intCast_lt_intCast,bH,bH,Eb y hy hyp,Eb z hz Ul,qx,qx];have hc:(0:Rat)<(s.2.2:Rat)*(((fK (dX rows) y:Int):Rat)*((fK (dX rows) z:Int):Rat)):=Rat.mul_pos hU (Rat.mul_pos (Cn y hyp) (Cn z Ul));have e1:(s.2.2:Rat)*((fK (dX rows) y:Int):Rat)*(jb (dX rows) k s.1 ld y-T)*((fK (dX rows) z:Int):Rat)=(s.2.2:Rat)*(((fK (dX rows) y:Int):Rat)*((fK (dX rows) z:Int):Rat))*(jb (dX rows) k s.1 ld y-T):=by grind
   have e2:(s.2.2:Rat)*((fK (dX rows) z:Int):Rat)*(jb (dX rows) k s.1 ld z-T)*((fK (dX rows) y:Int):Rat)=(s.2.2:Rat)*(((fK (dX rows) y:Int):Rat)*((fK (dX rows) z:Int):Rat))*(jb (dX rows) k s.1 ld z-T):=by grind
   rw[e1,e2,Rat.mul_lt_mul_left hc];constructor<;>intro h<;>grind
  obtain⟨y0,Wl,RM,RN⟩:∃y,y<m∧y∉s.1∧0<fK (dX rows) y:=dr λ hn=>hw (Jt.mpr λ y h1 h2 h3=>hn ⟨y,h1,h2,h3⟩);have NY:∀x∈eU (dX rows) m k s.1 ld,0<fK (dX rows) x:= λ x hx=>dr λ hn=>by
   have h1:=(lC.mp hx).2 y0 Wl;have h2:=(oF (k:=k) V R.L RM RN).2.1;rw[qz V R.L (ic V R.L R.C ht hx) hn]at h1;have:=bY.mp (dK h1 h2);lia
  have hg:∀x,HV rows m s x=(kQ rows s.2.1 (fY rows s.2.1 s.2.2 x) (eY rows x) x,s.2.2*eY rows x):= λ x=>by unfold HV;rw[if_neg hw]
  refine⟨?_,λ x hx=>?_⟩
  ·unfold jJ;rw[if_neg hw];unfold Gk;have e:fM rows m s.1 s.2.1 s.2.2=((fI m s.1).filter λ x=> !(cW rows x).isEmpty).map λ x=>(fY rows s.2.1 s.2.2 x,eY rows x,x):=rfl;have pF:∀y,y∈(fI m s.1).filter (λ x=> !(cW rows x).isEmpty)↔y<m∧y∉s.1∧0<fK (dX rows) y:= λ y=>by
    unfold fI;rw[aN,aN,aM,← tB (x:=y) H R];simp[and_assoc]
   have e2:eU (dX rows) m k s.1 ld=((fI m s.1).filter λ x=> !(cW rows x).isEmpty).filter λ x=>((fM rows m s.1 s.2.1 s.2.2).filter λ o=>decide (o.1*eY rows x<fY rows s.2.1 s.2.2 x*o.2.1)).isEmpty:=by
    rw[← l7];unfold fI;rw[List.filter_filter,List.filter_filter];refine m9 λ x hx=>?_;have hx:=aM.mp hx;rw[o6];simp only[decide_eq_true_eq,bg,j6,List.isEmpty_iff,j8,decide_eq_false_iff_not];rw[tB (x:=x) H R];constructor
    ·intro L8;have Js:=ic V R.L R.C ht L8;have FN:=NY x L8;refine⟨⟨λ o ho gE=>?_,FN⟩,Js⟩;rw[e]at ho;refine c0 (aL.mp ho) λ y hy z1=>?_;subst z1;refine jH ((pF y).mp hy) λ KV NP Wj=>?_;have:=(OB y x NP Wj Js FN).mp gE;exact Rat.not_lt.mpr ((lC.mp L8).2 y KV) this
    ·rintro⟨⟨pG,FN⟩,Js⟩
     refine lC.mpr ⟨hx,λ y hy=>?_⟩
     by_cases uy:y∈s.1
     ·rw[xu uy];exact dK (A9 V R.L ht Js) (bY.mpr (by lia))
     ·by_cases hyp:0<fK (dX rows) y
      ·refine Rat.not_lt.mp λ gE=>pG (fY rows s.2.1 s.2.2 y,eY rows y,y) ?_ ((OB y x uy hyp Js FN).mpr gE);rw[e];exact aL.mpr ⟨y,(pF y).mpr ⟨hy,uy,hyp⟩,rfl⟩
      ·rw[qz V R.L uy hyp];exact A9 V R.L ht Js
   rw[e2]
   conv=>lhs;rw[e,o5,bK]
   rw[← e];refine ck λ x j=>?_;rw[hg];rfl
  ·have ho:=ic V R.L R.C ht hx;have hm:=k9 hx;have FN:=NY x hx;have hn:=oF (k:=k) V R.L ho FN;have Xt:=Cn x FN;have U4:T≤jb (dX rows) k s.1 ld x:=mK (c:=((fK (dX rows) x:Int):Rat)) (by rw[hn.2.2];exact Ee x ho FN) Xt;have NT:upd (dX rows) k s.1 ld x=yo (dX rows) ld x (jb (dX rows) k s.1 ld x):=rfl;rw[hg];refine⟨R.C.next ht ho hm,tP V R.L ho,⟨?_,?_⟩,jb (dX rows) k s.1 ld x,?_,hn.1,by exact_mod_cast hn.2.1,λ y hy hyp=>?_⟩
   ·show 0<s.2.2*eY rows x;rw[qx];exact qR R.U.1 FN
   ·show s.2.2*eY rows x≤36^ (t+1);rw[qx,u5];exact Aa R.U.2 (oJ V x).2 (bL FN) (bL (wZ (by decide)))
   ·show PR ((s.2.2*eY rows x:Int):Rat) _ rows _ (kQ rows s.2.1 (fY rows s.2.1 s.2.2 x) (eY rows x) x);rw[GQ hP.len.2.symm,NT,bH];have hp:((eY rows x:Int):Rat)=((fK (dX rows) x:Int):Rat):=by rw[qx]
    rw[hp];exact PR.after hp (Eb x ho FN) U4 hP
   ·have uy:y∉s.1:= λ h=>hy (aF _ h);have WJ:=oF (k:=k) V R.L uy hyp;have hle:(jb (dX rows) k s.1 ld x)*((fK (dX rows) y:Int):Rat)≤(jb (dX rows) k s.1 ld y)*((fK (dX rows) y:Int):Rat):=by
     by_cases Um:y<m
     ·exact eC ((lC.mp hx).2 y Um) (Rat.le_of_lt (Cn y hyp))
     ·exfalso;refine c0 (zX.mp ((tB (x:=y) H R).mpr hyp)) λ r hr We=>?_;exact Um ((H.r r hr).2.1 y We)
    have UC:=PR.more (x:=x) y U4 (λ r hr=>(H.w r hr).1) hP;rw[NT];rw[WJ.2.2]at hle
    grind
end
section
variable {rows:List Row}{m k t x:Nat}{ld:List Rat}{s:LS}
theorem List.oj{α β:Type}{f g:α→List β}{l:List α}(h:∀a∈l,f a=g a):l.flatMap f=l.flatMap g:=by
 induction l with
 |nil=>rfl
 |cons a l ih=>rw[j0,j0,h a (.head _),ih λ b hb=>h b (.tail _ hb)]
noncomputable def lE(b:Bool)(rows:List Row)(m:Nat)(s:LS):List LS:=(if b then(jJ rows m s.1 s.2.1 s.2.2).take 1 else jJ rows m s.1 s.2.1 s.2.2).map λ x=>(s.1++[x.1],x.2.1,x.2.2)
noncomputable def lD(b:Bool)(rows:List Row)(m:Nat):Nat→Nat→List LS→Nat×List LS
 |0,c7,ss=>(c7,ss)
 |r+1,c7,ss=>if b=false∧4<ss.length then(c7,ss)else lD b rows m r (c7+1) (ss.flatMap (lE b rows m))
theorem rm(b:Bool)(rows:List Row)(m r c7:Nat)(ss:List LS):lD b rows m (r+1) c7 ss=if b=false∧4<ss.length then(c7,ss)else lD b rows m r (c7+1) (ss.flatMap (lE b rows m)):=rfl
theorem Q6(b:Bool)(rows:List Row)(m c7:Nat)(ss:List LS):lD b rows m 0 c7 ss=(c7,ss):=rfl
noncomputable def iG(rows:List Row):LS:=([],rows.map (λ z=>0),1)
theorem xp{b:Bool}(r c7:Nat)(ss:List LS):c7≤(lD b rows m r c7 ss).1∧(lD b rows m r c7 ss).1≤c7+r:=by
 induction r generalizing c7 ss with
 |zero=>exact⟨az _,az _⟩
 |succ r ih=>
  rw[rm]
  split
  ·exact⟨az _,cE _ _⟩
  ·have h:=ih (c7+1) (ss.flatMap (lE b rows m));exact⟨iE h.1,af h.2 (dg (dq c7 1 r))⟩
theorem Rel.start(H:fE m rows)(hk:k≤m):Rel rows m k 0 (iG rows) ((dX rows).map λ z=>0):=by
 refine⟨oK.nil hk,oV.start _,⟨by show(0:Int)<1;decide,by show(1:Int)≤36^0;decide⟩,0,?_,ek,ek,λ y z z=>?_⟩
 ·show PR ((1:Int):Rat) 0 rows _ (rows.map λ z=>0);clear H
  induction rows with
  |nil=>trivial
  |cons r rows ih=>exact⟨by grind,ek,ih⟩
 ·rw[Rat.zero_mul];have:=(oV.start (dX rows)).pos H.vs y;have h1:=this.1
  grind
noncomputable def HU(rows:List Row)(m k:Nat)(P:List (LS×List Rat)):List (LS×List Rat):=P.flatMap λ p=>(eU (dX rows) m k p.1.1 p.2).map λ x=>((p.1.1++[x],HV rows m p.1 x),upd (dX rows) k p.1.1 p.2 x)
theorem HT(H:fE m rows){c7:Nat}(h:c7<k){P:List (LS×List Rat)}(hR:∀p∈P,Rel rows m k c7 p.1 p.2):(P.map (·.1)).flatMap (lE false rows m)=(HU rows m k P).map (·.1)∧∀p∈HU rows m k P,Rel rows m k (c7+1) p.1 p.2:=by
 refine⟨?_,λ p' Aq=>?_⟩
 ·unfold HU;rw[vA,List.map_flatMap];exact List.oj λ p hp=>by
   show fO _ (jJ rows m p.1.1 p.1.2.1 p.1.2.2)=_;rw[(lG H (hR p hp) h).1,bK,bK];rfl
 ·refine c0 (kZ.mp Aq) λ p hp Aq=>?_;exact jw Aq λ x hx=>(lG H (hR p hp) h).2 x hx
theorem B5(rows:List Row)(m k:Nat)(P:List (LS×List Rat)):(P.map (·.1)).map (·.1)=P.flatMap λ p=>lv (dX rows) m k (k-k) p.1.1 p.2:=by
 simp only[DW,KH];rw[bK,← List.map_eq_flatMap];rfl
theorem HF(H:fE m rows)(hk:k≤m)(r c7:Nat)(P:List (LS×List Rat))(e:(lD false rows m r c7 (P.map (·.1))).1=k)(hR:∀p∈P,Rel rows m k c7 p.1 p.2):(lD false rows m r c7 (P.map (·.1))).2.map (·.1)=P.flatMap λ p=>lv (dX rows) m k (k-c7) p.1.1 p.2:=by
 induction r generalizing c7 P with
 |zero=>obtain rfl:c7=k:=e;exact B5 rows m c7 P
 |succ r ih=>
  rw[rm]at e⊢
  split at e
  ·obtain rfl:c7=k:=e;rw[if_pos ‹_›];exact B5 rows m c7 P
  ·rename_i hb;rw[if_neg hb];have gE:c7<k:=fx (xp (b:=false) (rows:=rows) (m:=m) r (c7+1) _).1 e;refine xa (HT H gE hR) λ e1 h2=>?_;rw[e1]at e⊢;rw[ih (c7+1) _ e h2];unfold HU;rw[List.flatMap_assoc];exact List.oj λ p hp=>by rw[Ka gE,HZ,vA]
theorem yx{a b:List Nat}(h:a.Perm b):cK a=cK b:=by
 unfold cK;rw[pw ((mU _).trans (h.map _)) (mT _)]
theorem Dd{vs:List Vo}{a b:List Nat}(h:∀y,y∈a↔y∈b)(x:Nat):jb vs k a ld x=jb vs k b ld x:=by
 unfold jb
 by_cases hx:x∈a
 ·rw[if_pos hx,if_pos ((h x).mp hx)]
 ·rw[if_neg hx,if_neg λ hb=>hx ((h x).mpr hb)]
theorem AK{vs:List Vo}{a b:List Nat}(h:∀y,y∈a↔y∈b):eU vs m k a ld=eU vs m k b ld∧∀x,upd vs k a ld x=upd vs k b ld x:=by
 have e:jb vs k a ld=jb vs k b ld:=funext (Dd h);unfold eU nC upd;rw[e];exact⟨rfl,λ x=>rfl⟩
theorem take_one{α β:Type}(d:α){f:α→β}:∀{l:List α},l≠[]→(l.map f).take 1=[f (l.headD d)]
 |[],h=>absurd rfl h
 |a::l,_=>rfl
theorem ub(H:fE m rows)(R:Rel rows m k t s ld)(ht:t<k):∃x,x∈eU (dX rows) m k s.1 ld∧(eU (dX rows) m k s.1 ld).headD 0=x∧lE true rows m s=[(s.1++[x],HV rows m s x)]:=by
 have ku:eU (dX rows) m k s.1 ld≠[]:=th (by have:=R.C.k;lia);refine⟨_,head_mem (d:=0) ku,rfl,?_⟩;unfold lE;rw[if_pos rfl,(lG H R ht).1,take_one 0 ku];rfl
theorem xo(r t:Nat){s s1:LS}(h:lE true rows m s=[s1]):lD true rows m (r+1) t [s]=lD true rows m r (t+1) [s1]:=by
 rw[rm,if_neg (λ h=>bE h.1),List.flatMap_singleton,h]
theorem yG(H:fE m rows)(r t:Nat)(s:LS)(ld:List Rat)(R:Rel rows m k t s ld)(e:t+r=k):∃s' P_,lD true rows m r t [s]=(t+r,[s'])∧Rel rows m k k s' P_∧(r≠0→(rn (dX rows) m k r (cK s.1,ld)).1=cK s'.1):=by
 induction r generalizing t s ld with
 |zero=>exact⟨s,ld,rfl,(show t=k from e)▸R,λ h=>absurd rfl h⟩
 |succ r ih=>
  refine cI (ub H R (JP e)) λ x hx hh ho=>?_;refine dj (ih (t+1) _ _ ((lG H R (JP e)).2 x hx) (By e)) λ s' P_ h1 h2 h3=>?_;refine⟨s',P_,(xo r t ho).trans (h1.trans (congrArg (·,[s']) (dq t 1 r))),h2,λ z=>?_⟩;refine xa (AK (vs:=dX rows) (m:=m) (k:=k) (ld:=ld) (a:=cK s.1) (b:=s.1) λ y=>(eJ s.1).mem_iff) λ e1 e2=>?_;have es:qp (dX rows) m k (cK s.1,ld)=(cK (s.1++[x]),upd (dX rows) k s.1 ld x):=by
   unfold qp;simp only[e1,e2,hh];rw[yx ((eJ s.1).append_right [x])]
  rw[EZ,es];cases r with
  |zero=>injection h1 with _ h1;injection h1 with h1;rw[← h1];rfl
  |succ r=>exact h3 (Nat.succ_ne_zero r)
theorem C1(H:fE m rows)(r t:Nat)(s:LS)(ld:List Rat)(R:Rel rows m k t s ld)(e:t+(r+1)≤k):∃s1 s2:LS,lD true rows m r t [s]=(t+r,[s1])∧lD true rows m (r+1) t [s]=(t+(r+1),[s2])∧∀y∈s1.1,y∈s2.1:=by
 induction r generalizing t s ld with
 |zero=>
  refine cI (ub H R e) λ x hx hh ho=>?_;exact⟨s,(s.1++[x],HV rows m s x),rfl,xo 0 t ho,λ y hy=>aF [x] hy⟩
 |succ r ih=>
  refine cI (ub H R (IV e)) λ x hx hh ho=>?_;refine dj (ih (t+1) _ _ ((lG H R (IV e)).2 x hx) (GU e)) λ s1 s2 h1 h2 h3=>?_;exact⟨s1,s2,(xo r t ho).trans (h1.trans (congrArg (·,[s1]) (dq t 1 r))),(xo (r+1) t ho).trans (h2.trans (congrArg (·,[s2]) (dq t 1 (r+1)))),h3⟩
noncomputable def pL:List (List Nat)→List (List Nat)→List (List Nat)
 |[],acc=>acc
 |d::ds,acc=>pL ds (if cK d∈acc then acc else acc++[cK d])
theorem Gs(d:List Nat)(ds acc:List (List Nat)):pL (d::ds) acc=pL ds (if cK d∈acc then acc else acc++[cK d]):=rfl
theorem Tz(acc:List (List Nat)):pL [] acc=acc:=rfl
theorem IG(ds acc:List (List Nat))(h:acc.Nodup):(pL ds acc).Nodup∧∀c,c∈pL ds acc↔c∈acc∨∃d∈ds,c=cK d:=by
 induction ds generalizing acc with
 |nil=>exact⟨h,λ c=>⟨.inl,λ h=>h.elim id λ ⟨_,h,_⟩=>nn h⟩⟩
 |cons d ds ih=>
  have key:∀uX:List (List Nat),uX.Nodup→(∀c,c∈uX↔c∈acc∨c=cK d)→(pL ds uX).Nodup∧∀c,c∈pL ds uX↔c∈acc∨∃e∈d::ds,c=cK e:= λ uX hn hc=>
   ⟨(ih uX hn).1,λ c=>((ih uX hn).2 c).trans ⟨λ h=>h.elim (λ h=>((hc c).mp h).imp id λ e=>⟨d,.head _,e⟩) λ ⟨e,he,q⟩=>.inr ⟨e,.tail _ he,q⟩,λ h=>h.elim (λ h=>.inl ((hc c).mpr (.inl h))) λ ⟨e,he,q⟩=>(mc he).elim (λ z=>.inl ((hc c).mpr (.inr (z▸q)))) λ he=>.inr ⟨e,he,q⟩⟩⟩
  rw[Gs]
  split
  ·exact key acc h λ c=>⟨.inl,λ h=>h.elim id λ e=>e▸‹cK d∈acc›⟩
  ·exact key _ (jZ.mpr ⟨h,jG _ _,λ a ha b hb e=> ‹cK d∉acc› (m1 hb▸e▸ha)⟩) λ c=>aC.trans (or_congr_right aj)
noncomputable def IF(k:Nat)(tv:List (List Nat)):List (List Nat):=(j9 k).filter λ c=>decide (c∈tv)
theorem DE{tv:List (List Nat)}(h1:1≤k)(h3:k≤3)(hn:tv.Nodup)(hd:∀c∈tv,c∈j9 k):(IF k tv).Perm tv:=by
 refine(yk ((qm k h1 h3).2.2.2.1.filter _) hn).mpr λ c=>?_;rw[aN,decide_eq_true_eq];exact⟨λ h=>h.2,λ h=>⟨hd c h,h⟩⟩
theorem HN{st:TS}{c:List Nat}(h1:1≤k)(h3:k≤3)(h4:m≤4)(h:st∈l4 k)(C:oK m k k c):(∀x,x∈(put k st c).ids↔x∈st.ids∨x=uw k c)∧st.ids.length≤(put k st c).ids.length∧(put k st c).ids.length≤st.ids.length+1:=by
 refine jH (TS.xt h (oH (t:=0) h1 h3 h4 C).2.1) λ z q1 q2=>?_
 by_cases hx:uw k c∈st.ids
 ·unfold put;rw[q1 hx];exact⟨λ x=>⟨.inl,λ h=>h.elim id λ e=>e▸hx⟩,az _,bq _⟩
 ·have hp:=q2 hx;unfold put;refine⟨λ x=>by rw[hp.mem_iff,aD];exact Or.comm,?_,?_⟩<;>rw[hp.length_eq]<;>simp
theorem yE{o:Option Nat}(h1:1≤k)(h3:k≤3)(h4:m≤4)(cs:List (List Nat))(st:TS)(hc:∀c∈cs,oK m k k c)(kt:st∈l4 k)(ho:∀j,o=some j→st.ids.length<j):
  (∀x∈(iv k o st cs).1.ids,x∈st.ids∨∃c∈cs,x=uw k c)∧((iv k o st cs).2=true→o=some (iv k o st cs).1.ids.length)∧((iv k o st cs).2=false→(∀c∈cs,uw k c∈(iv k o st cs).1.ids)∧(∀x∈st.ids,x∈(iv k o st cs).1.ids)∧∀j,o=some j→(iv k o st cs).1.ids.length<j):=by
 induction cs generalizing st with
 |nil=>exact⟨λ x h=>.inl h,λ h=>bE h,λ z=>⟨λ z=>nn,λ x h=>h,ho⟩⟩
 |cons c cs ih=>
  have C:=hc c (.head _);refine jH (HN h1 h3 h4 kt C) λ i1 i2 i3=>?_;rw[t5]
  by_cases hs:o=some (put k st c).ids.length
  ·rw[if_pos hs];exact⟨λ x hx=>((i1 x).mp hx).imp id λ e=>⟨c,.head _,e⟩,λ z=>hs,λ h=>bE h⟩
  ·rw[if_neg hs];refine jH (ih (put k st c) (λ d hd=>hc d (.tail _ hd)) (xq h1 h3 h4 kt C) λ j hj=>
    mJ (af i3 (ho j hj)) λ e=>hs (hj.trans (congrArg some e.symm))) λ r1 r2 r3=>?_
   refine⟨λ x hx=>(r1 x hx).elim (λ h=>((i1 x).mp h).imp id λ e=>⟨c,.head _,e⟩) λ w=>c0 w λ d hd e=>.inr ⟨d,.tail _ hd,e⟩,r2,λ hf=>jH (r3 hf) λ a b d=>?_⟩;exact⟨λ e he=>(mc he).elim (λ z=>b _ ((i1 _).mpr (.inr (z▸rfl)))) (a e),λ x hx=>b x ((i1 x).mpr (.inl hx)),d⟩
theorem Cc{tv cs:List (List Nat)}(h1:1≤k)(h3:k≤3)(h4:m≤4)(hc:∀c∈cs,oK m k k c)(hd:∀c,c∈tv↔∃d∈cs,c=cK d){c:List Nat}(hu:c∈j9 k):(∃d∈cs,(j9 k).idxOf c=uw k d)↔c∈tv:=by
 rw[hd];constructor
 ·rintro⟨d,Mh,e⟩
  refine⟨d,Mh,?_⟩;have gE:=dU hu;refine jH (oH h1 h3 h4 (hc d Mh) (t:=0)) λ j1 j2 j3=>?_;rw[← j3,← e];unfold fS;rw[ai,aq gE];exact(gK gE).symm
 ·rintro⟨d,Mh,rfl⟩
  exact⟨d,Mh,rfl⟩
theorem EB{tv cs:List (List Nat)}(h1:1≤k)(h3:k≤3)(h4:m≤4)(hc:∀c∈cs,oK m k k c)(hd:∀c,c∈tv↔∃d∈cs,c=cK d):fD k (iv k none iC cs).1=IF k tv:=by
 refine jH (yE (o:=none) h1 h3 h4 cs iC hc (mu h1 h3) λ j h=>nomatch h) λ r1 r2 r3=>?_;have hf:(iv k none iC cs).2=false:=by
  cases h:(iv k none iC cs).2 with
  |false=>rfl
  |true=>exact nomatch r2 h
 refine jH (r3 hf) λ a z z=>?_;refine m9 λ c hu=>decide_eq_decide.mpr ?_;rw[← Cc h1 h3 h4 hc hd hu];constructor
 ·intro h
  rcases r1 _ h with h|h
  ·exact nn h
  ·exact h
 ·rintro⟨d,Mh,e⟩
  rw[e];exact a d Mh
theorem CQ{tv cs:List (List Nat)}{j:Nat}(hj:0<j)(h1:1≤k)(h3:k≤3)(h4:m≤4)(hc:∀c∈cs,oK m k k c)(hd:∀c,c∈tv↔∃d∈cs,c=cK d)(hn:tv.Nodup):
  (fD k (iv k (some j) iC cs).1).Nodup∧(∀c∈fD k (iv k (some j) iC cs).1,c∈tv)∧(fD k (iv k (some j) iC cs).1).length=min j tv.length:=by
 have tp:=tj (o:=some j) h1 h3 h4 cs iC hc (mu h1 h3);refine jH (yE (o:=some j) h1 h3 h4 cs iC hc (mu h1 h3) λ i h=>by cases h;exact hj) λ r1 r2 r3=>?_;generalize iv k (some j) iC cs=r at tp r1 r2 r3⊢;have xI:(fD k r.1).Nodup:=(qm k h1 h3).2.2.2.1.filter _;have gz:∀c∈fD k r.1,c∈tv:= λ c Qv=>by
  unfold fD at Qv;rw[aN,decide_eq_true_eq]at Qv;rw[← Cc h1 h3 h4 hc hd Qv.1]
  rcases r1 _ Qv.2 with h|h
  ·exact nn h
  ·exact h
 have hlen:(fD k r.1).length=r.1.ids.length:=by rw[(sA h1 h3 tp).length_eq,aE]
 have hle:=xI.length_le_of_subset (l₂:=tv) gz;refine⟨xI,gz,?_⟩;cases hb:r.2 with
 |true=>
  have e:=cG (r2 hb);rw[hlen,← e]at hle⊢;exact(Nat.min_eq_left hle).symm
 |false=>
  refine jH (r3 hb) λ a z d=>?_;have gE:=d j rfl;have RY:∀c∈tv,c∈fD k r.1:= λ c Dw=>by
   refine c0 ((hd c).mp Dw) λ e he z1=>?_;subst z1;unfold fD;rw[aN,decide_eq_true_eq];exact⟨(oH h1 h3 h4 (hc e he) (t:=0)).1,a e he⟩
  have e:=Nat.le_antisymm (hn.length_le_of_subset (l₂:=fD k r.1) RY) hle;rw[e];exact(Nat.min_eq_right (bX (b9 (dg hlen) gE))).symm
end
noncomputable def GX(c:Cx)(n:Nat)(ds lK:List D):Prop:=
 ∀(A:aK) (O:List Addr) (s:ae) (a:Addr) (vs:List ag),Rm A n→Ok c O s→c.B≤a→eB s.heap a vs.toArray→a0 c.w (a::O) s.heap vs ds→
  wpAny (model c.prog c.w) A (call (.builtin "list.sort") [.ref a] []) (λ v s'=>v=.none∧aB c [a] [] s s'∧bF c s'∧∃i7,eB s'.heap a i7.toArray∧a0 c.w (a::O) s'.heap i7 lK) aZ s
section
variable {c:Cx}{n:Nat}{E:VE}{ρ ρ':List Sl}{O:List Addr}{s:ae}
theorem rj{a:Addr}{vs:List ag}{out:Array ag}(hl:eB s.heap a vs.toArray)(S:bF c s)(hB:c.B≤a):
  aB c [a] [] s {s with heap:=sortedHeap s.heap a vs out}∧bF c {s with heap:=sortedHeap s.heap a vs out}∧eB (sortedHeap s.heap a vs out) a out:=by
 refine bO (id hl) λ o m ho hc xK hd=>?_;refine bO (mS (λ z=>(#[]:Array ag)) hl) λ o1 m1 zp Xi Sx Sy=>?_;have g1:aB c [a] [] s {s with heap:=s.heap.update a (aO λ z=> #[])}:=dR (tk:=s.toks) ho (c8 hd);have S1:bF c {s with heap:=s.heap.update a (aO λ z=> #[])}:=e_ (tk:=s.toks) S hB;have g2:=g1.comp (aB.push (c:=c) (G:=[]) (o:=seqObj "tuple" vs.toArray 0) (tk:=s.toks)) (λ z=>nn) λ z=>nn;have S2:=S1.push (o:=seqObj "tuple" vs.toArray 0) (tk:=s.toks);have h2:=aA (seqObj "tuple" vs.toArray 0) zp;have g3:=g2.comp (aB.push (c:=c) (G:=[]) (o:=seqObj "list" #[] 0) (tk:=s.toks)) (λ z=>nn) λ z=>nn;have S3:=S2.push (o:=seqObj "list" #[] 0) (tk:=s.toks);have h3:=aA (seqObj "list" #[] 0) h2;exact⟨g3.comp (dR (tk:=s.toks) h3 (c8 Sy)) (λ b hb=>.inl hb) (λ z=>nn),e_ (tk:=s.toks) S3 hB,mS (λ z=>out) ⟨o1,m1,h3,Xi,Sx,Sy⟩⟩
theorem GX.lists{xss ys:List (List Int)}(hp:ys.Perm xss)(hs:ys.Pairwise λ x y=>Ba x y=true)(h6:xss.length≤6):GX c (n+1) (D.jl xss) (D.jl ys):= λ A O s a vs R K hB FZ r=>by
 refine bO (id FZ) λ mW Fd ho oh K_ ik=>?_;have hz:vs.length=xss.length:=by rw[r.length];exact aE _
 refine bQ s9 ⟨_,ho,oh⟩ qX ?_ (DU _);refine cI (Dj hp hs h6) λ p hk N_ R7=>?_;have fin:∀out:Array ag,out.toList=(p.toList.map λ i=>vs.getD i .none)→∃v,PySem.Fin.done (.ret .none)=.done (.ret v)∧v=.none∧aB c [a] [] s {s with heap:=sortedHeap s.heap a vs out}∧bF c {s with heap:=sortedHeap s.heap a vs out}∧
   ∃i7,eB (sortedHeap s.heap a vs out) a i7.toArray∧a0 c.w (a::O) (sortedHeap s.heap a vs out) i7 (D.jl ys):= λ out nj=>by
  refine jH (rj (out:=out) FZ K.br hB) λ g S h'=>?_;refine⟨_,rfl,rfl,g,S,out.toList,by simpa using h',?_⟩;rw[nj,← N_];exact g.fk (O:=a::O) (λ b hb=>.inl (by obtain rfl:=m1 hb;exact .head _)) (nM.refl _ _) (wj r p.toList R7)
 rw[list_sort_plain];have zz:a<s.heap.objs.size:=aI ho;refine bO (mS (λ z=>(#[]:Array ag)) FZ) λ M0 e1 zp UY Sw su=>?_;refine aa (fw ho ik ?_);refine aa (jU ho ik ?_ (by rw[ba,cH];exact vi hz h6 rfl) (bV _));refine aa (sZ zp su ?_);refine aa (DR ?_ (by show vs.length≤_;rw[cH];exact vi hz h6 rfl));refine aa (vo ?_ (bV _));refine aV ?_;have Mb:(((s.heap.update a (aO λ z=> #[])).push (seqObj "tuple" vs.toArray 0)).push (seqObj "list" #[] 0)).get? a=some M0:=aA _ (aA _ zp);show wpAny _ A.in1 _ _ _ {s with heap:=((s.heap.update a (aO λ z=> #[])).push (seqObj "tuple" vs.toArray 0)).push (seqObj "list" #[] 0)};dsimp only
 by_cases h2:vs.length<2
 ·have xJ:vs.toArray.size<2:=by rw[ba];exact h2
  rw[if_pos xJ,if_pos xJ];refine v5 ?_;rw[StateT.run_pure];refine v5 ?_;dsimp only;refine aa (sZ Mb su ?_);refine aa (jU Mb su ?_ (bV _) (by rw[Array.size_map];show(pairsOf vs).size≤_;rw[pairsOf_size,cH];exact vi hz h6 rfl));simp only[bne_self_eq_false,aR,if_false];refine ah ?_;refine fin _ ?_;have FW:p.toList=ay xss.length:=by
   have h1:xss.length<2:=by exact hz▸h2
   have:pU xss.length=.ret (gJ (ay xss.length)):=by
    rcases oY xss.length 1 with h|h
    ·rw[show xss.length=0 by omega];rfl
    ·rw[show xss.length=1 by omega];rfl
   rw[this]at hk;cases hk;simp
  rw[FW];show(((arrOf (wY general' (vs.toArray.zip vs.toArray) #[] 7 none)).map (·.2)).toList)=_;show(((vs.toArray.zip vs.toArray).map (·.2)).toList)=_;apply vB
  ·simp[hz]
  ·intro i h1 h2;simp at h1 h2;simp[h1]
 ·have xJ:¬vs.toArray.size<2:=by rw[ba];exact h2
  rw[if_neg xJ,if_neg xJ];have wJ:2≤vs.length:=by exact cw h2
  have g6:aB c [a] [] s {s with heap:=((s.heap.update a (aO λ z=> #[])).push (seqObj "tuple" vs.toArray 0)).push (seqObj "list" #[] 0)}:=
   (dR (tk:=s.toks) ho (c8 ik)).trans ((aB.push (c:=c) (G:=[]) (tk:=s.toks)).mono (λ z=>nn) (λ z=>nn)|>.trans ((aB.push (c:=c) (G:=[]) (tk:=s.toks)).mono (λ z=>nn) (λ z=>nn)))
  have r6:=g6.fk (O:=a::O) (λ b hb=>.inl (by obtain rfl:=m1 hb;exact .head _)) (nM.refl _ _) r;have cls:∀v∈vs,As (model c.prog c.w) (((s.heap.update a (aO λ z=> #[])).push (seqObj "tuple" vs.toArray 0)).push (seqObj "list" #[] 0)) (typeOf v) (.type "list"):= λ v hv=>by
   obtain⟨i,hi,rfl⟩:=eV hv;refine dj (qF r6 i (by exact fx hi hz)) λ b us e y1 q=>?_;refine dj y1 ?_;clear y1;intro o n hl hc z;rw[show vs[i]=.ref b by rw[← e];simp[hi]];exact kitAt_ty _ _ ⟨o,hl,hc⟩
  refine aa (kas_kind wJ cls rfl rfl ?_);have ask:(pU vs.length).kasWp (kas_ask c.prog c.w A.in1 oneType' vs) (λ p' s'=>p'=p∧s'={s with heap:=((s.heap.update a (aO λ z=> #[])).push (seqObj "tuple" vs.toArray 0)).push (seqObj "list" #[] 0)}) {s with heap:=((s.heap.update a (aO λ z=> #[])).push (seqObj "tuple" vs.toArray 0)).push (seqObj "list" #[] 0)}:=by
   rw[hz];refine rG (λ i j C hi hj hC=>?_) _ p hk ⟨rfl,rfl⟩;refine dj (qF r6 i hi) λ b us e y1 q=>?_;refine bO y1 ?_;clear y1;intro o n hl hc z hd;refine dj (qF r6 j hj) λ b' My e' y1 q'=>?_;refine bO y1 ?_;clear y1;intro o' n' nE G9 z iQ;unfold kas_ask;rw[e,e'];exact Fp (Rm.in1 R).u0 hl hc hd nE G9 iQ q q' hC
  rw[kas_ask_eq]at ask;have X0:wY oneType' (vs.toArray.zip vs.toArray) #[] 7 none=kas_st oneType' (pairsOf vs) (gJ (ay vs.length)):=by
   have e:=kas_range (pairsOf vs);rw[pairsOf_size]at e;show wY oneType' (pairsOf vs) #[] 7 none=wY oneType' ((gJ (ay vs.length)).map (kas_item (pairsOf vs))) #[] 7 none;rw[e]
  have run:=kas_runs (E:=aZ) (Q:= λ z nd s'=>arrOf nd=p.map (kas_item (pairsOf vs))∧failedOf nd=none∧s'={s with heap:=((s.heap.update a (aO λ z=> #[])).push (seqObj "tuple" vs.toArray 0)).push (seqObj "list" #[] 0)})
   (G:= λ p' s'=>p'=p∧s'={s with heap:=((s.heap.update a (aO λ z=> #[])).push (seqObj "tuple" vs.toArray 0)).push (seqObj "list" #[] 0)}) wJ (by exact P9 hz h6 rfl) (λ p' nd s' a1 a2 a3 a4=>⟨a4.1▸a2,a3,a4.2⟩) ask
  rw[← X0]at run;refine wb run ?_
  rintro⟨⟨⟩,nd⟩ s' ⟨Mi,hf,rfl⟩
  dsimp only;refine aa (sZ Mb su ?_);refine aa (jU Mb su ?_ (bV _) ?_)
  ·rw[hf];simp only[bne_self_eq_false,aR,if_false];refine ah (fin _ ?_);rw[Mi,Array.map_map,vf];exact ck λ i z=>by show(kas_item (pairsOf vs) i).2=_;rw[kas_item_eq]
  ·have:p.size=(p.toList.map λ i=>xss.getD i []).length:=by simp
   rw[Mi,Array.map_map,Array.size_map,this,N_,hp.length_eq,cH];exact rF h6 rfl
theorem bc.sort(i:Nat){x:Str}{p apos pos pos':Pos}{ds lK:List D}(h:GX c n ds lK)(hx:E.vn[i]? =some x)(dP:ρ[i]? =some (.own true (.lst ds)))(i_:autoParam (attributeBase (.Name x p) "sort" E.env (eval (.Name x p) E.env)=eval (.Name x p) E.env) rf)(rK:autoParam (((backTo pos (starEach [] E.env)).all (λ x=> !x.1)&&(backToKw pos (keywordEach [] E.env)).all (λ x=>x.1.isSome)
   &&decide (([]:List Expr).length+([]:List dT).length+(if([]:List dT).isEmpty then 0 else 1)<30))=true) rf)(iP:autoParam ((apos.endLine==pos.line)=true) rf)(hi:autoParam (interactive E.env=false) rf)(hs:autoParam (swapsWith (.Call (.Attribute (.Name x p) "sort" apos) [] [] pos) none pos'.line E.env=pure false) rf):
  bc c n E ρ (.Expr (.Call (.Attribute (.Name x p) "sort" apos) [] [] pos) pos') (.next (ρ.set i (.own true (.lst lK)))):= λ A β s R w0=>by
 refine iB w0 ?_;clear w0;intro O ad I;refine gZ (kG i_ rK iP ?_) hi hs;refine cI (I.slot hx dP) λ v b r kk=>?_;refine I.read hx b ?_;refine bO r ?_;clear r;intro a vs z1 jx hl hr;subst z1;refine bO (id hl) λ o m ho hc xK hd=>?_;refine qg R I m_ PySem.F.slot_list_sort PySem.F.type_list_sort ⟨_,ho,hc⟩ (λ b hb=>by injection hb with hb;subst hb;exact⟨_,ho,xK⟩) .nil rfl λ us aH iR cu bx=>?_;have RW:us=[]:=by
  have:=bx.length;simpa using this
 subst RW;have kz:a∈ad i:=by rw[jx];exact .head _
 have zr:=iR.jh (nn) hl;have mF:=iR.j_ hr;have hB:=cu.low _ (kk _ kz).1;have XB:∀b∈a::O,b∈O:= λ b hb=>(aD.mp hb).elim (λ e=>e▸ (kk _ kz).1) id;refine wm (h A O aH a vs R cu.o hB zr (a0.kept (.refl O _) (λ b hb=>.inl (XB b hb)) mF)) λ v cq q=>?_;refine rg q ?_;clear q;intro z1 Dz m7 i7 FY N8;subst z1;refine cI (cu.slot hx dP) λ v' b' r' k'=>?_;refine dj r' ?_;clear r';intro a' VC z1 i4 z;subst z1;have:a'=a:=by rw[jx]at i4;simpa using i4.symm
 subst this;exact⟨rfl,[]++O,_,cu.jj (N:=[]) (fp:=ad i) hx dP Dz m7 (λ b hb=>by obtain rfl:=m1 hb;exact kz) b' ⟨a',i7,rfl,i4,FY,a0.kept (.refl (a'::O) _) (λ b hb=>.inl (.tail _ hb)) N8⟩ (λ z h=>nn h) λ b hb=>.inl hb⟩
end
noncomputable def sU:FD:=defAt 35
noncomputable def OA(ns:List Int):Int:=ns.getD 0 0
noncomputable def J9(ns:List Int):Int:=ns.getD 1 0
noncomputable def qA(sz:Int):Nat:=[4,3,4,2].getD ((sz.fdiv 4).fmod 4).toNat 0
noncomputable def KQ(dd sz:Int)(m:Nat):Nat:=if dd≠0∧m=4 then(1+sz.fmod 3).toNat else(1+(sz.fmod 4).fmod m).toNat
noncomputable def rowOf(m:Nat)(a:Int):Row:=((ay m).filter λ c=>vY (a.fdiv (2^c)) 1 !=0,1+((a.natAbs:Int).fdiv 16).fmod 12)
noncomputable def srcOf(ns:List Int):List Int:=if(ns.drop 2).isEmpty then [1]else ns.drop 2
theorem HX(sz:Int):(qA sz=2∨qA sz=3∨qA sz=4)∧[4,3,4,2][((sz.fdiv 4).fmod 4).toNat]? =some (qA sz):=by
 have h1:=dC (sz.fdiv 4) (show(0:Int)<4 by decide);have h2:=jF (sz.fdiv 4) (show(0:Int)<4 by decide);unfold qA;generalize (sz.fdiv 4).fmod 4=i at*;obtain⟨k,rfl⟩:=dh h1;exact(by decide:∀k<4,([4,3,4,2].getD ((k:Nat):Int).toNat 0=2∨[4,3,4,2].getD ((k:Nat):Int).toNat 0=3∨[4,3,4,2].getD ((k:Nat):Int).toNat 0=4)∧[4,3,4,2][((k:Nat):Int).toNat]? =some ([4,3,4,2].getD ((k:Nat):Int).toNat 0)) k (cA.mp h2)
theorem tN{x:Int}{m:Nat}(h0:0≤x)(hb:x<m):1≤(1+x).toNat∧(1+x).toNat≤m∧(((1+x).toNat:Nat):Int)=1+x:=by
 obtain⟨k,rfl⟩:=dh h0;have e:(1+(k:Int)).toNat=k+1:=by rw[oZ];rfl
 rw[e];exact⟨aG 1 k,cA.mp hb,(x_ k 1).trans (oZ _ _)⟩
theorem KP{dd sz:Int}{m:Nat}(hm:m=2∨m=3∨m=4):1≤KQ dd sz m∧KQ dd sz m≤m∧(dd≠0→KQ dd sz m≤3)∧((KQ dd sz m:Nat):Int)=if dd≠0∧m=4 then 1+sz.fmod 3 else 1+(sz.fmod 4).fmod m:=by
 have m0:0<m:=by rcases hm with rfl|rfl|rfl<;>decide
 have m3:m≠4→m≤3:=by rcases hm with rfl|rfl|rfl<;>decide
 unfold KQ
 by_cases h:dd≠0∧m=4
 ·rw[if_pos h,if_pos h];have q:=tN (m:=3) (dC sz (by decide)) (jF sz (by decide));exact⟨q.1,af q.2.1 (h.2▸ (by decide:3≤4)),λ z=>q.2.1,q.2.2⟩
 ·rw[if_neg h,if_neg h];have q:=tN (m:=m) (dC (sz.fmod 4) (cA.mpr m0)) (jF (sz.fmod 4) (cA.mpr m0));exact⟨q.1,q.2.1,λ hd=>af q.2.1 (m3 λ e=>h ⟨hd,e⟩),q.2.2⟩
theorem EP{m:Nat}(h4:m≤4)(a:Int):CA m (rowOf m a):=by
 have a1:=dC ((a.natAbs:Int).fdiv 16) (show(0:Int)<12 by decide);have a2:=jF ((a.natAbs:Int).fdiv 16) (show(0:Int)<12 by decide);refine⟨q_.trans ?_,λ x hx=>aM.mp (aN.mp hx).1,by show 0<1+_;omega,by show 1+_≤12;omega⟩;exact(List.range_sublist.mpr h4:(ay m).Sublist (ay 4))
theorem C3{m:Nat}(h4:m≤4){ns:List Int}(hl:ns.length≤5):fE m ((srcOf ns).map (rowOf m)):=by
 have h1:(srcOf ns).length≤3∧0<(srcOf ns).length:=by
  unfold srcOf
  split
  ·exact⟨by decide,by decide⟩
  ·rename_i h;refine⟨by rw[vz];omega,?_⟩;cases e:ns.drop 2 with
   |nil=>rw[e]at h;exact absurd rfl h
   |cons a l=>simp
 exact⟨λ r hr=>by refine jw hr λ a z=>?_;exact EP h4 a,by rw[aE];exact h1.1,by rw[aE];exact h1.2⟩
noncomputable def oG(cs:List (List Nat)):List D:=cs.map λ c=>.lst (D.nats c)
noncomputable def jK(cs:List (List Nat)):List (List Int):=cs.map λ c=>c.map λ (x:Nat)=>(x:Int)
theorem lA(cs:List (List Nat)):oG cs=D.jl (jK cs):=by
 unfold oG jK D.jl;rw[bK];exact ck λ c z=>by rw[dW];rfl
theorem cast_inj{a b:List Nat}(h:(a.map λ (x:Nat)=>(x:Int))=b.map λ (x:Nat)=>(x:Int)):a=b:=List.map_inj_right (λ x y e=>by exact vX e)|>.mp h
theorem wx{c:List Nat}{cs:List (List Nat)}:(c.map λ (x:Nat)=>(x:Int))∈jK cs↔c∈cs:=by
 unfold jK;rw[aL];exact⟨λ w0=>c0 w0 λ d hd e=>cast_inj e▸hd,λ h=>⟨c,h,rfl⟩⟩
theorem Df{a b:List (List Nat)}:jK a=jK b↔a=b:=List.map_inj_right λ x y e=>cast_inj e
theorem si{c:List Nat}:∀{cs:List (List Nat)},cs.Nodup→c∈cs→(jK cs).countP (λ y=>decide (y=c.map λ (x:Nat)=>(x:Int)))=1
 |[],_,h=>nn h
 |d::cs,hn,hc=>by
  rw[ej]at hn;have hz:∀{cs:List (List Nat)},c∉cs→(jK cs).countP (λ y=>decide (y=c.map λ (x:Nat)=>(x:Int)))=0:= λ {cs} h=>by
   rw[List.countP_eq_zero];intro y hy e;obtain rfl:=of_decide_eq_true e;exact h (wx.mp hy)
  have e:jK (d::cs)=(d.map λ (x:Nat)=>(x:Int))::jK cs:=rfl;rw[e]
  by_cases h:d=c
  ·subst h;rw[List.countP_cons_of_pos (by simp),hz hn.1]
  ·rw[List.countP_cons_of_neg (by simp only[decide_eq_true_eq];exact λ e=>h (cast_inj e))];exact si hn.2 ((aD.mp hc).resolve_left λ e=>h e.symm)
section
variable {c:Cx}{n:Nat}{E:VE}{ρ ρ₁ ρ₂:List Sl}
theorem cC.Fb{x:List Nat}{xs:List (List Nat)}(hn:1≤n):cC c n .NotIn (.lst (D.nats x)) (.lst (oG xs)) (!decide (x∈xs)):=by
 rw[lA,dW,show decide (x∈xs)=decide ((x.map λ (x:Nat)=>(x:Int))∈jK xs)from decide_eq_decide.mpr wx.symm];exact cC.Kx hn
theorem cC.Ji{xs ys:List (List Nat)}(hn:1≤n):cC c n .NotEq (.lst (oG xs)) (.lst (oG ys)) (!decide (xs=ys)):=by
 rw[lA,lA,show decide (xs=ys)=decide (jK xs=jK ys)from decide_eq_decide.mpr Df.symm];exact cC.Nb hn
theorem Ex.Mu{ss:List Stmt}(h:Ex c n E ρ ss (.brk ρ₁))(hw:cy ρ₂ ρ₁):Ex c n E ρ ss (.brk ρ₂):= λ A β s R I=>wm (h A β s R I) λ f s' q=>by
 refine En q ?_;clear q;intro z1 O ad I;subst z1;refine c0 (I.weaken hw) λ ad' I' z=>?_;exact⟨rfl,O,ad',I'⟩
end
section
variable {c:Cx}{n:Nat}
noncomputable abbrev Ng:List Str:=["script","numbers","head","size","deed","n","k","rows","number","states","seat","following","done","purse","unit","found","cand","after","parts","due","made","way","told","less","most"]
noncomputable abbrev Fi(u:rU)(L:Addr):VE:=mO (sU.fd .none u) L 621 Ng
structure DK where
 xs:List Int
 ns:List Int
 hd:Int
 sz:Int
 dd:Int
 m:Nat
 rows:List Row
noncomputable abbrev vh(i:DK)(k:Nat)(l:List Sl):List Sl:=
 [.val (.lst (D.ints i.xs)),.val (.lst (D.ints i.ns)),.val (.int i.hd),.val (.int i.sz),.val (.int i.dd),.val (.int (i.m:Int)),.val (.int (k:Int)),.val (.lst (i.rows.map iH))]++l
noncomputable abbrev sP(s:LS):D:=.tup [.tup (D.nats s.1),.lst (D.ints s.2.1),.int s.2.2]
noncomputable def EL:List Stmt:=nF sU.body 10
noncomputable def MN:Expr:=pJ sU.body 10
noncomputable def QX:List Stmt:=nF EL 2
noncomputable def VI:Expr:=pJ EL 2
noncomputable def XY:List Stmt:=nF QX 1
noncomputable def XX:Expr:=pJ QX 1
theorem Tg{u:rU}{L:Addr}{i:DK}{k:Nat}{jg c7:D}{s:LS}(hs:s.1.length≤100){fo:D}:∀(ts:List St) (acc:List LS),acc.length+ts.length≤900→
  Lp c (n+17) (Fi u L) (vh i k ([.no,.val jg,.val c7,.own true (.lst (acc.map sP)),.val (.tup (D.nats s.1)),.val (.lst (D.ints s.2.1)),.val (.int s.2.2),.val fo]++al 9 .no)) XX XY (ts.map CV)
   (.next (vh i k ([.no,.val jg,.val c7,.own true (.lst ((acc++ts.map λ x=>(s.1++[x.1],x.2.1,x.2.2)).map sP)),.val (.tup (D.nats s.1)),.val (.lst (D.ints s.2.1)),.val (.int s.2.2),.val fo]++al 9 .no))):=by
 intro w
 induction w with
 |nil=>
  intro acc z;rw[jY,jY,bM];exact Lp.nil
 |cons t ts ih=>
  intro acc hz;simp only[aJ]at hz;rw[show acc++(t::ts).map (λ x=>((s.1++[x.1],x.2.1,x.2.2):LS))=(acc++[(s.1++[t.1],t.2.1,t.2.2)])++ts.map λ x=>(s.1++[x.1],x.2.1,x.2.2) by simp];refine Lp.step (ρ'':=vh i k ([.no,.val jg,.val c7,.own true (.lst ((acc++[(s.1++[t.1],t.2.1,t.2.2)]).map sP)),.val (.tup (D.nats s.1)),.val (.lst (D.ints s.2.1)),.val (.int s.2.2),.val fo]++al 9 .no)) (ju.tup (kU.cons (ju.name 16 rfl (od rfl) (od rfl)) (kU.cons (ju.name 17 rfl (od rfl) (od rfl)) (kU.cons (ju.name 18 rfl (od rfl) (od rfl)) .nil)))) ?_ (ih _ (by simp;exact JQ hz rfl));refine Ex.weak (ρ₁:=vh i k ([.no,.val jg,.val c7,.own true (.lst ((acc++[(s.1++[t.1],t.2.1,t.2.2)]).map sP)),.val (.tup (D.nats s.1)),.val (.lst (D.ints s.2.1)),.val (.int s.2.2),.val fo,.val (.int (t.1:Int)),.val (.lst (D.ints t.2.1)),.val (.int t.2.2)]++al 6 .no)) ?_ (by repeat (first|exact cy.nil|refine cy.cons (.inr rfl) ?_|refine cy.cons (.inl rfl) ?_));rw[ia];exact Ex.one (bc.append 11 (d:=sP (s.1++[t.1],t.2.1,t.2.2)) (Ev.tup (cn.cons (Ev.cast (uf s.1 t.1▸rfl) (Ev.bin (Ev.nm 12 rfl rfl) (Ev.tup (cn.cons (Ev.nm 16 rfl rfl) .nil)) (gH.IU (by rw[dk];simp;exact af hs (aG _ _))))) (cn.cons (Ev.nm 17 rfl rfl) (cn.cons (Ev.nm 18 rfl rfl) .nil)))) rfl rfl (by rw[aE];exact GV hz rfl))
theorem yT{b:Bool}{rows:List Row}{m k t:Nat}{s:LS}{ld:List Rat}(H:fE m rows)(R:Rel rows m k t s ld)(ht:t<k)(h4:m≤4):(lE b rows m s).length≤(if b=true then 1 else 4)∧(jJ rows m s.1 s.2.1 s.2.2).length≤4:=by
 have h:(jJ rows m s.1 s.2.1 s.2.2).length≤4:=by rw[(lG H R ht).1,aE];exact af tT h4
 refine⟨?_,h⟩;unfold lE;rw[aE];cases b with
 |true=>rw[if_pos rfl,if_pos rfl,List.length_take];lia
 |false=>rw[if_neg (by decide),if_neg (by decide)];exact h
theorem yI{b:Bool}{rows:List Row}{m k t:Nat}{ss:List LS}(H:fE m rows)(hs:∀s∈ss,∃ld,Rel rows m k t s ld)(ht:t<k):∀s∈ss.flatMap (lE b rows m),∃ld,Rel rows m k (t+1) s ld:= λ s eN=>by
 obtain⟨s0,h0,h1⟩:=kZ.mp eN;obtain⟨ld,R⟩:=hs s0 h0;obtain⟨e,hn⟩:=lG H R ht;refine jw h1 λ y hy=>?_;have Ii:y∈jJ rows m s0.1 s0.2.1 s0.2.2:=by
  cases b with
  |true=>rw[if_pos rfl]at hy;exact qb hy
  |false=>rw[if_neg (by decide)]at hy;exact hy
 rw[e]at Ii;refine jw Ii λ x hx=>?_;exact⟨_,hn x hx⟩
theorem zJ{b:Bool}{rows:List Row}{m k t:Nat}{ss:List LS}(H:fE m rows)(h4:m≤4)(ht:t<k)(hs:∀s∈ss,∃ld,Rel rows m k t s ld)(hb:¬(b=false∧4<ss.length))(hz:ss.length≤16):(ss.flatMap (lE b rows m)).length≤16:=by
 have hlen:∀(q:Nat) (l:List LS),(∀s∈l,(lE b rows m s).length≤q)→(l.flatMap (lE b rows m)).length≤q*l.length:=by
  intro q l
  induction l with
  |nil=>intro z;exact az _
  |cons a l ih=>
   intro h;rw[j0,aY,aJ,Nat.mul_succ];have:=ih λ s hs=>h s (.tail _ hs);have:=h a (.head _);lia
 have hq:=hlen (if b=true then 1 else 4) ss λ s h=>by
  refine xe (hs s h) λ ld R=>?_;exact(yT H R ht h4).1
 cases b with
 |true=>rw[if_pos rfl]at hq;lia
 |false=>
  rw[if_neg (by decide)]at hq;have:¬4<ss.length:= λ h=>hb ⟨rfl,h⟩;lia
theorem EN{b:Bool}{rows:List Row}{m k:Nat}(H:fE m rows)(h4:m≤4)(hk:k≤4):∀(r c7:Nat) (ss:List LS),c7+r=k→(∀s∈ss,∃ld,Rel rows m k c7 s ld)→ss.length≤16→(lD b rows m r c7 ss).2.length≤16∧∀s∈(lD b rows m r c7 ss).2,s.1.length≤4:=by
 intro w
 induction w with
 |zero=>
  intro c7 ss e hs hz;exact⟨hz,λ s h=>by refine xe (hs s h) λ ld R=>?_;have:=R.C.l;exact Rl this e hk rfl⟩
 |succ r ih=>
  intro c7 ss e hs hz;rw[rm]
  by_cases hb:b=false∧4<ss.length
  ·rw[if_pos hb];exact⟨hz,λ s h=>by refine xe (hs s h) λ ld R=>?_;have:=R.C.l;lia⟩
  ·rw[if_neg hb];exact ih (c7+1) _ (by exact By e) (yI H hs (by exact JP e)) (zJ H h4 (by lia) hs hb hz)
theorem Hy(G:PG c)(N:FnAt c 616 nr .none)(gN:cX c "_law_next" (.ref 616))(kN:jz c (.ref 616)){u:rU}{L:Addr}{i:DK}{k t:Nat}{jg c7:D}(H:fE i.m i.rows)(h4:i.m≤4)(ht:t<k)(hk:k≤4):∀(ss acc:List LS),(∀s∈ss,∃ld,Rel i.rows i.m k t s ld)→acc.length+4*ss.length≤900→
  Lp c (n+17) (Fi u L) (vh i k ([.no,.val jg,.val c7,.own true (.lst (acc.map sP))]++al 13 .no)) VI QX (ss.map sP)
   (.next (vh i k ([.no,.val jg,.val c7,.own true (.lst ((acc++ss.flatMap (lE (i.dd==0) i.rows i.m)).map sP))]++al 13 .no))):=by
 intro w
 induction w with
 |nil=>
  intro acc z z;rw[List.flatMap_nil,bM];exact Lp.nil
 |cons s ss ih=>
  intro acc hs hz;simp only[aJ]at hz;obtain⟨ld,R⟩:=hs s (.head _);obtain⟨Ql,WT⟩:=yT (b:=i.dd==0) H R ht h4;have Ql:(lE (i.dd==0) i.rows i.m s).length≤4:=af Ql (by split<;>decide);have ni:s.1.length≤100:=by have:=R.C.l;lia
  rw[j0,← j5];refine Lp.step (ρ'':=vh i k ([.no,.val jg,.val c7,.own true (.lst ((acc++lE (i.dd==0) i.rows i.m s).map sP))]++al 13 .no)) (ju.tup (kU.cons (ju.name 12 rfl (od rfl) (od rfl)) (kU.cons (ju.name 13 rfl (od rfl) (od rfl)) (kU.cons (ju.name 14 rfl (od rfl) (od rfl)) .nil)))) ?_ (ih _ (λ s h=>hs s (.tail _ h)) (by rw[aY];lia));refine Ex.weak (ρ₁:=vh i k ([.no,.val jg,.val c7,.own true (.lst ((acc++lE (i.dd==0) i.rows i.m s).map sP)),.val (.tup (D.nats s.1)),.val (.lst (D.ints s.2.1)),.val (.int s.2.2),.val (.lst ((jJ i.rows i.m s.1 s.2.1 s.2.2).map CV))]++al 9 .no)) ?_ (by repeat (first|exact cy.nil|refine cy.cons (.inr rfl) ?_|refine cy.cons (.inl rfl) ?_));refine Ex.seq (bc.asg 15 (Ev.call (by kernel_rfl) gN kN (cn.cons (Ev.nm 7 rfl rfl) (cn.cons (Ev.nm 5 rfl rfl) (cn.cons (Ev.nm 12 rfl rfl) (cn.cons (Ev.nm 13 rfl rfl) (cn.cons (Ev.nm 14 rfl rfl) .nil))))) .nil (De (n:=n+7) G N h4 (R.nx H (by exact bX (ab ht hk))))) rfl (od rfl) (od rfl)) ?_;have e:lE (i.dd==0) i.rows i.m s=(if(i.dd==0)=true then(jJ i.rows i.m s.1 s.2.1 s.2.2).take 1 else jJ i.rows i.m s.1 s.2.1 s.2.2).map λ x=>(s.1++[x.1],x.2.1,x.2.2):=rfl;rw[e];generalize NW:(if(i.dd==0)=true then(jJ i.rows i.m s.1 s.2.1 s.2.2).take 1 else jJ i.rows i.m s.1 s.2.1 s.2.2)=ts;have Uq:ts.length≤4:=by rw[e,aE,NW]at Ql;exact Ql
  refine Ex.one (bc.for (kd.of (d:=.lst (ts.map CV)) (Ev.cast ?_ (Ev.ite (p:=i.dd==0) (d₁:=.lst (((jJ i.rows i.m s.1 s.2.1 s.2.2).map CV).take 1)) (d₂:=.lst ((jJ i.rows i.m s.1 s.2.1 s.2.2).map CV)) (Tr.cmp (Ev.nm 4 rfl rfl) Ev.int cC.Eg) (λ z=>Ev.Mz (k:=1) (Ev.nm 15 rfl rfl) (by decide) (by rw[aE];exact rF WT rfl)) λ z=>Ev.nm 15 rfl rfl)) Ib.list) λ ds hd=>(by subst hd;exact Tg ni ts acc (by lia)));rw[← NW];split<;>simp[Az]
theorem Kf(G:PG c)(N:FnAt c 616 nr .none)(gN:cX c "_law_next" (.ref 616))(kN:jz c (.ref 616)){u:rU}{L:Addr}{i:DK}{k:Nat}(H:fE i.m i.rows)(h4:i.m≤4)(hk:k≤4):∀(r c7:Nat) (ss:List LS),c7+r=k→(∀s∈ss,∃ld,Rel i.rows i.m k c7 s ld)→ss.length≤16→
  Lp c (n+17) (Fi u L) (vh i k ([.no,.val (.lst (ss.map sP))]++al 15 .no)) MN EL (D.nats (vT c7 r))
   (.next (vh i (lD (i.dd==0) i.rows i.m r c7 ss).1 ([.no,.val (.lst ((lD (i.dd==0) i.rows i.m r c7 ss).2.map sP))]++al 15 .no))):=by
 intro w
 induction w with
 |zero=>
  intro c7 ss e z z;have e:c7=k:=e;subst e;exact Lp.nil
 |succ r ih=>
  intro c7 ss e hs hz;have Md:Fn c (n+17) (.builtin "len") [.lst (ss.map sP)] [] (.int (ss.length:Int)):=by
   have:=Fn.la (c:=c) (n:=n+17) (ds:=ss.map sP) (by rw[aE];lia);rwa[aE]at this
  have tr:∀{p1 p2 p3 p4 p5 p6 p7 q1 q2:Pos} {k1 k2:Nat},Tr c (n+17) (Fi u L) (vh i k ([.no,.val (.lst (ss.map sP)),.val (.int (c7:Int))]++al 14 .no)) (.BoolOp .And [.Compare (.Name "deed" p1) [.NotEq] [.Constant (.int 0) k1 p2] p3,.Compare (.Call (.Name "len" p4) [.Name "states" p5] [] p6) [.Gt] [.Constant (.int 4) k2 p7] q1] q2) ((i.dd !=0)&&decide ((4:Int)<(ss.length:Int))):= λ {p1 p2 p3 p4 p5 p6 p7 q1 q2 k1 k2}=>
   Tr.qN (Tr.cmp (Ev.nm 4 rfl rfl) Ev.int cC.KC) λ z=>Tr.cmp (Ev.call (by kernel_rfl) G.len trivial (cn.cons (Ev.nm 9 rfl rfl) .nil) .nil Md) Ev.int cC.Mn
  have eb:((i.dd !=0)&&decide ((4:Int)<(ss.length:Int)))=decide ((i.dd==0)=false∧4<ss.length):=by
   rw[o6];simp;lia
  rw[eb]at tr;rw[rm];show Lp c (n+17) _ _ _ _ (.int (c7:Int)::D.nats (vT (c7+1) r)) _
  by_cases hb:(i.dd==0)=false∧4<ss.length
  ·rw[if_pos hb];rw[decide_eq_true hb]at tr;refine Lp.stop (ju.name 10 rfl (od rfl) (od rfl)) (Ex.Mu (ρ₁:=vh i c7 ([.no,.val (.lst (ss.map sP)),.val (.int (c7:Int))]++al 14 .no)) (Ex.stop (bc.ite (p:=true) tr (λ z=>Ex.seq (bc.asg 6 (Ev.nm 10 rfl rfl) rfl (od rfl) (od rfl)) (Ex.stop bc.brk rfl)) (λ h=>by cases h)) rfl) (by repeat (first|exact cy.nil|refine cy.cons (.inr rfl) ?_|refine cy.cons (.inl rfl) ?_)))
  ·rw[if_neg hb];rw[decide_eq_false hb]at tr;have kt:c7<k:=by lia
   have Ox:(ss.flatMap (lE (i.dd==0) i.rows i.m)).length≤16:=by
    exact zJ H h4 kt hs hb hz
   refine Lp.step (ρ'':=vh i k ([.no,.val (.lst ((ss.flatMap (lE (i.dd==0) i.rows i.m)).map sP))]++al 15 .no)) (ju.name 10 rfl (od rfl) (od rfl)) ?_ (ih (c7+1) _ (by lia) (yI H hs kt) Ox);refine Ex.weak (ρ₁:=vh i k ([.no,.val (.lst ((ss.flatMap (lE (i.dd==0) i.rows i.m)).map sP)),.val (.int (c7:Int)),.val (.lst ((ss.flatMap (lE (i.dd==0) i.rows i.m)).map sP))]++al 13 .no)) ?_ (by repeat (first|exact cy.nil|refine cy.cons (.inr rfl) ?_|refine cy.cons (.inl rfl) ?_));refine Ex.seq (bc.ite (p:=false) tr (λ h=>by cases h) λ z=>Ex.nil) ?_;refine Ex.seq (bc.lh 11 (gF.lst .nil) rfl (od rfl) (od rfl)) ?_;refine Ex.seq (ρ':=vh i k ([.no,.val (.lst (ss.map sP)),.val (.int (c7:Int)),.own true (.lst ((ss.flatMap (lE (i.dd==0) i.rows i.m)).map sP))]++al 13 .no)) (bc.for (kd.of (Ev.nm 9 rfl rfl) Ib.list) λ ds hd=>(by subst hd;exact Hy G N gN kN H h4 kt hk ss [] hs (by simp;lia))) ?_;refine Ex.freeze 11 rfl rfl rfl ?_;exact Ex.one (bc.asg 9 (Ev.nm 11 rfl rfl) rfl (od rfl) (od rfl))
end
section
set_option backward.match.sparseCases false
noncomputable def px:D→Option D
 |.dm xs=>some (.lst (D.nats xs))
 |_=>none
theorem nY:∀css:List (List Nat),(css.map D.dm).filterMap px=oG css
 |[]=>rfl
 |x::xs=>by rw[a_,bz (f:=px) (b:=.lst (D.nats x)) rfl,nY xs];rfl
theorem uc{α:Type}:∀l:List α,l.filterMap (λ z=>(none:Option D))=[]
 |[]=>rfl
 |a::l=>by rw[eI rfl,uc l]
structure End(i:DK)(k:Nat)(mZ:List (List Nat)):Prop where
 V:lj i.m (dX i.rows)
 h4:i.m≤4
 k1:0<k
 km:k≤i.m
 k3:i.dd≠0→k≤3
 d:i.dd=0∨i.dd=1∨i.dd=2
 l:mZ.length≤6
 l6:∀b o,(md (dX i.rows) i.m k b o).length≤6
 a:i.dd=0→md (dX i.rows) i.m k true none=mZ∧∃d,mZ=[d]∧d.length≤4∧(1<k→∃com,md (dX i.rows) i.m (k-1) true none=[com]∧com.length=k-1∧∀y∈com,y∈d)
 b:i.dd≠0→md (dX i.rows) i.m k false none=mZ
 c:i.dd≠0→∀j,0<j→(md (dX i.rows) i.m k false (some j)).Nodup∧(∀c∈md (dX i.rows) i.m k false (some j),c∈mZ)∧(md (dX i.rows) i.m k false (some j)).length=min j mZ.length
section
variable {c:Cx}{n:Nat}
noncomputable def TA:List Stmt:=nF sU.body 12
noncomputable def Tx:Expr:=pJ sU.body 12
theorem Ph(G:PG c){u:rU}{L:Addr}{i:DK}{k:Nat}{jg:D}:∀(ss:List LS) (acc:List (List Nat)),(∀s∈ss,s.1.length≤60)→acc.length+ss.length≤900→
  Lp c (n+17) (Fi u L) (vh i k ([.no,.val jg]++al 9 .no++[.own true (.lst (oG acc))]++al 5 .no)) Tx TA (ss.map sP)
   (.next (vh i k ([.no,.val jg]++al 9 .no++[.own true (.lst (oG (pL (ss.map (·.1)) acc)))]++al 5 .no))):=by
 intro w
 induction w with
 |nil=>
  intro acc z z;exact Lp.nil
 |cons s ss ih=>
  intro acc hs hz;simp only[aJ]at hz;have ni:=hs s (.head _);rw[a_,a_,Gs];refine Lp.step (ρ'':=vh i k ([.no,.val jg]++al 9 .no++[.own true (.lst (oG (if cK s.1∈acc then acc else acc++[cK s.1])))]++al 5 .no)) (ju.tup (kU.cons (ju.name 12 rfl (od rfl) (od rfl)) (kU.cons (ju.name 13 rfl (od rfl) (od rfl)) (kU.cons (ju.name 14 rfl (od rfl) (od rfl)) .nil)))) ?_ (ih _ (λ s h=>hs s (.tail _ h)) (by split<;>(try simp)<;>lia));refine Ex.weak (ρ₁:=vh i k ([.no,.val jg,.no,.no,.val (.tup (D.nats s.1)),.val (.lst (D.ints s.2.1)),.val (.int s.2.2)]++al 4 .no++[.own true (.lst (oG (if cK s.1∈acc then acc else acc++[cK s.1])))]++al 5 .no)) ?_ (by repeat (first|exact cy.nil|refine cy.cons (.inr rfl) ?_|refine cy.cons (.inl rfl) ?_));have Us:Fn c (n+17) (.builtin "sorted") [.tup (D.nats s.1)] [] (.lst (D.nats (cK s.1))):=Fn.sorted (n:=n+15) (JX.tup (by rw[dk];exact af ni (aG _ _))) (by rw[dk];lia) (vR.nats (by exact LZ ni rfl));refine Ex.one (bc.ite (p:= !decide (cK s.1∈acc)) (Tr.tU 19 rfl rfl rfl (Tr.cmp (Ev.call (by kernel_rfl) G.sorted trivial (cn.cons (Ev.nm 12 rfl rfl) .nil) .nil Us) (Ev.nm 19 rfl rfl) (cC.Fb (by exact bB _)))) (λ h=>?_) λ h=>?_)
  ·have h:cK s.1∉acc:=by simpa using h
   rw[if_neg h,show oG (acc++[cK s.1])=oG acc++[.lst (D.nats (cK s.1))] by simp[oG]];exact Ex.one (bc.append 19 (Ev.call (by kernel_rfl) G.sorted trivial (cn.cons (Ev.nm 12 rfl rfl) .nil) .nil Us) rfl rfl (by simp[oG];exact GV hz rfl))
  ·have h:cK s.1∈acc:=by simpa using h
   rw[if_pos h];exact Ex.nil
noncomputable abbrev D7(i:DK)(k:Nat)(mZ:List (List Nat))(l:List Sl):List Sl:=vh i k (al 11 .no++[.val (.lst (oG mZ)),.val (pb i.m (dX i.rows)),.val (.str "standard-fractions")]++l)
theorem xC(n:Nat){cs:List (List Nat)}(h:cs.length≤900):Fn c n (.builtin "len") [.lst (oG cs)] [] (.int (cs.length:Int)):=by
 have:=Fn.la (c:=c) (n:=n) (ds:=oG cs) (by simp[oG];exact af h (aG _ _));rwa[show(oG cs).length=cs.length by exact aE _]at this
theorem KN(n:Nat){x:List Nat}(h:x.length≤900):Fn c n (.builtin "len") [.lst (D.nats x)] [] (.int (x.length:Int)):=by
 have:=Fn.la (c:=c) (n:=n) (ds:=D.nats x) (by rw[dk];exact af h (aG _ _));rwa[dk]at this
theorem Ts(A:All c){u:rU}{L:Addr}{i:DK}{k:Nat}{mZ:List (List Nat)}(X:End i k mZ)(h0:i.dd=0):Ex c (n+17) (Fi u L) (D7 i k mZ (al 3 .no)) (vw (oR sU.body 16)).o (.next (D7 i k mZ (al 3 .no))):=by
 refine xa (X.a h0) λ ha zh=>cI zh λ d z1 Yq hn=>?_;subst z1;have Oh:=X.l6 true none;have hc:=wU (n:=n) A X.V X.h4 X.k1 X.km;rw[ha]at hc;have km:=X.km;have h4:=X.h4;have k1:=X.k1;have I9:∀(css:List (List Nat)) (hz:css.length≤6) (C:Addr) (e:VE) (ρ:List Sl) (d:D),e.vn[0]? =some ("members":Str)→0<e.k→ρ[0]? =some .no→e.env.kindOf "sorted"=some .globalImplicit→d∈css.map D.dm→∀{q p1 p2 p3:Pos},El c (n+17) e ρ (.Name "members" q) [] d (px d).isSome λ ρ'=>∀y,px d=some y→Ev c (n+17) e ρ' (.Call (.Name "sorted" p1) [.Name "members" p2] [] p3) y:= λ css hz C e ρ d q1 q2 q3 q4 hd=>by
  refine jw hd λ xs j=>?_;exact El.nm 0 q1 q2 q3 λ z hz=>by
   cases hz;exact Ev.call q4 A.G.sorted trivial (cn.cons (Ev.nm 0 q1 (by rw[bp ((aw.mp q3).1)])) .nil) .nil (Fn.se (n:=n+13))
 refine Ex.seq (bc.lh 22 (gF.comp (tn:=["members"]) (ix:=[]) (by kernel_rfl) px (kd.of (Ev.call (by kernel_rfl) A.Q.gC A.Q.kC (cn.cons (Ev.nm 20 rfl rfl) (cn.cons (Ev.nm 6 rfl rfl) .nil)) (ov.cons (Ev.nm 21 rfl rfl) .nil) hc) Ib.list) (by exact bB _) λ C x hx=>I9 [d] (by trivial) C _ _ _ rfl (od rfl) rfl (by kernel_rfl) hx) rfl (od rfl) (od rfl)) ?_;rw[nY];refine Ex.freeze 22 rfl rfl rfl ?_;refine Ex.seq (bc.ite (p:= !decide ([d]=[d])) (Tr.cmp (Ev.nm 22 rfl rfl) (Ev.nm 19 rfl rfl) (cC.Ji (by exact bB _))) (λ h=>by simp at h) λ j=>Ex.nil) ?_;refine Ex.weak (ρ₁:=D7 i k [d] [.val (.lst (oG [d])),.no,.no]) ?_ (by repeat (first|exact cy.nil|refine cy.cons (.inr rfl) ?_|refine cy.cons (.inl rfl) ?_))
 by_cases hk:1<k
 ·refine cI (hn hk) λ com e1 e2 e3=>?_;have Dx:=wU (n:=n) A (k:=k-1) X.V h4 (Nat.sub_pos_of_lt hk) (af (Nat.sub_le k 1) km);rw[e1]at Dx;refine Ex.one (bc.ite (p:=decide ((1:Int)<(k:Int))) (Tr.cmp (Ev.nm 6 rfl rfl) Ev.int cC.Mn) (λ j=>?_) λ h=>absurd h (by simp;exact cA.mpr hk));refine Ex.weak (ρ₁:=D7 i k [d] [.val (.lst (oG [d])),.val (.lst (oG [com])),.no]) ?_ (by repeat (first|exact cy.nil|refine cy.cons (.inr rfl) ?_|refine cy.cons (.inl rfl) ?_));refine Ex.seq (bc.oI 23 (tn:=["members"]) (ix:=[]) (by kernel_rfl) (ds:=[com].map D.dm) px (kd.of (Ev.call (by kernel_rfl) A.Q.gC A.Q.kC (cn.cons (Ev.nm 20 rfl rfl) (cn.cons (Ev.cast (by rw[TC X.k1]) (Ev.bin (Ev.nm 6 rfl rfl) Ev.int gH.J_)) .nil)) (ov.cons (Ev.nm 21 rfl rfl) .nil) Dx) Ib.list) (by simp) (λ C x hx=>I9 [com] (by simp) C _ _ _ rfl (od rfl) rfl (by kernel_rfl) hx) rfl (od rfl) (od rfl) (by kernel_rfl)) ?_;rw[nY];refine Ex.freeze 23 rfl rfl rfl ?_;have G7:(oG [com])[(0:Int).toNat]? =some (.lst (D.nats com)):=rfl;have Xf:(oG [d])[(0:Int).toNat]? =some (.lst (D.nats d)):=rfl;refine Ex.one (bc.ite (p:=false||false||false) (Tr.or3 (Tr.cast (b':=((([com]:List (List Nat)).length:Int)!=1)) rfl (Tr.cmp (Ev.call (by kernel_rfl) A.G.len trivial (cn.cons (Ev.nm 23 rfl rfl) .nil) .nil (xC _ (by simp))) Ev.int cC.KC)) (λ j=>Tr.cast (b':=((com.length:Int)!=(k:Int) -1)) (by rw[e2];simp;omega) (Tr.cmp (Ev.call (by kernel_rfl) A.G.len trivial (cn.cons (Ev.sub (Ev.nm 23 rfl rfl) Ev.int (Sub.list (by decide) G7 (by simp[oG]))) .nil) .nil (KN _ (by omega))) (Ev.bin (Ev.nm 6 rfl rfl) Ev.int gH.J_) cC.KC))
   λ j j=>Tr.cast (b':= !decide (([]:List Int)=[])) rfl (Tr.cmp (gF.ev (q:=.lst (D.ints [])) ?_ rfl) (Ev.lst .nil) (cC.KB (ys:=[]) (by exact bB _)))) (λ h=>nomatch h) λ j=>Ex.nil)
  rw[show D.ints []=(D.nats com).filterMap λ j=>(none:Option D)from (uc _).symm];refine gF.comp (tn:=["cand"]) (ix:=[22]) (by kernel_rfl) (λ j=>none) (kd.of (Ev.sub (Ev.nm 23 rfl rfl) Ev.int (Sub.list (by decide) G7 (by simp[oG]))) Ib.list) (by rw[dk,e2];exact rF (af (Nat.sub_le k 1) (af km h4)) rfl) λ C x hx=>?_;refine c0 (gj hx) λ y hy z1=>?_;subst z1;refine El.Fa 0 rfl (od rfl) rfl (Tr.cast (b':= !decide (y∈d)) (by simp[e3 y hy]) (Tr.cmp (Ev.nm 0 rfl rfl) (Ev.sub (Ev.nm 1 rfl rfl) Ev.int (Sub.list (by decide) Xf (by simp[oG]))) (by
   have:=cC.M_ (c:=c) (n:=n+17) (x:=(y:Int)) (xs:=d.map λ (x:Nat)=>(x:Int)) (by exact bB _);rw[← dW]at this;rwa[mem_cast]at this))) λ h=>nomatch h
 ·exact Ex.one (bc.ite (p:=decide ((1:Int)<(k:Int))) (Tr.cmp (Ev.nm 6 rfl rfl) Ev.int cC.Mn) (λ h=>absurd h (by simp;omega)) λ j=>Ex.nil)
end
end
section
set_option backward.match.sparseCases false
section
variable {c:Cx}{n:Nat}
theorem Gr(G:PG c){css:List (List Nat)}{e:VE}{ρ:List Sl}{d:D}{q p1 p2 p3:Pos}(q1:e.vn[0]? =some ("members":Str))(q2:0<e.k)(q3:ρ[0]? =some .no)(q4:e.env.kindOf "sorted"=some .globalImplicit)(hd:d∈css.map D.dm):El c (n+17) e ρ (.Name "members" q) [] d (px d).isSome λ ρ'=>∀y,px d=some y→Ev c (n+17) e ρ' (.Call (.Name "sorted" p1) [.Name "members" p2] [] p3) y:=by
 refine jw hd λ xs j=>?_;exact El.nm 0 q1 q2 q3 λ z hz=>by
  cases hz;exact Ev.call q4 G.sorted trivial (cn.cons (Ev.nm 0 q1 (by rw[bp ((aw.mp q3).1)])) .nil) .nil (Fn.se (n:=n+13))
noncomputable def Vl:List Stmt:=nF sU.body 16
theorem Tq(A:All c){u:rU}{L:Addr}{i:DK}{k:Nat}{mZ:List (List Nat)}(X:End i k mZ)(h0:i.dd≠0):Ex c (n+17) (Fi u L) (D7 i k mZ (al 3 .no)) (match Vl with|.If _ b _ _::_=>b|_=>[]) (.next (D7 i k mZ (al 3 .no))):=by
 have Oh:=X.l6 false none;have hc:=Br (n:=n) A X.V X.h4 X.k1 X.km (X.k3 h0);rw[X.b h0]at hc Oh;refine Ex.weak (ρ₁:=D7 i k mZ [.val (.lst (oG mZ)),.no,.no]) ?_ (by repeat (first|exact cy.nil|refine cy.cons (.inr rfl) ?_|refine cy.cons (.inl rfl) ?_));refine Ex.seq (bc.lh 22 (gF.comp (tn:=["members"]) (ix:=[]) (by kernel_rfl) px (kd.of (Ev.call (by kernel_rfl) A.Q.gC A.Q.kC (cn.cons (Ev.nm 20 rfl rfl) (cn.cons (Ev.nm 6 rfl rfl) .nil)) (ov.cons (Ev.nm 21 rfl rfl) (ov.cons Ev.GC .nil)) hc) Ib.list) (by simp;exact af Oh (aG _ _)) λ C x hx=>Gr A.G rfl (od rfl) rfl (by kernel_rfl) hx) rfl (od rfl) (od rfl)) ?_;rw[nY];refine Ex.freeze 22 rfl rfl rfl ?_;exact Ex.one (bc.ite (p:= !decide (mZ=mZ)) (Tr.cmp (Ev.nm 22 rfl rfl) (Ev.nm 19 rfl rfl) (cC.Ji (by exact bB _))) (λ h=>by simp at h) λ z=>Ex.nil)
theorem Tp(A:All c){u:rU}{L:Addr}{i:DK}{k:Nat}{mZ:List (List Nat)}(X:End i k mZ)(h0:i.dd≠0):Ex c (n+17) (Fi u L) (D7 i k mZ (al 3 .no)) (match Vl with|.If _ _ o _::_=>o|_=>[]) (.next (D7 i k mZ (al 3 .no))):=by
 have a1:=dC (i.hd.fdiv 3) (show(0:Int)<3 by decide);obtain⟨j,hj⟩:∃j:Nat,(j:Int)=1+(i.hd.fdiv 3).fmod 3:=⟨(1+(i.hd.fdiv 3).fmod 3).toNat,r7 (Int.add_nonneg (by decide) (dC _ (by decide)))⟩;have UN:0<j:=cA.mp (hj▸jE (by decide) (Int.add_le_add_left a1 1));have Oh:=X.l6 false (some j);obtain⟨c1,c2,c3⟩:=X.c h0 j UN;have Yp:=X.l;have hc:=Bq (n:=n) A (j:=j) X.V X.h4 X.k1 X.km (X.k3 h0) UN;generalize md (dX i.rows) i.m k false (some j)=told at Oh c1 c2 c3 hc;refine Ex.weak (ρ₁:=D7 i k mZ [.val (.lst (oG told)),.no,.val (.int (j:Int))]) ?_ (by repeat (first|exact cy.nil|refine cy.cons (.inr rfl) ?_|refine cy.cons (.inl rfl) ?_));refine Ex.seq (bc.asg 24 (d:=.int (j:Int)) (Ev.cast (by rw[hj]) (Ev.bin Ev.int (Ev.bin (Ev.bin (Ev.nm 2 rfl rfl) Ev.int (gH.Ly (by decide) (by decide))) Ev.int (gH.xx (by decide))) gH.rT)) rfl (od rfl) (od rfl)) ?_;refine Ex.seq (bc.lh 22 (gF.comp (tn:=["members"]) (ix:=[]) (by kernel_rfl) px (kd.of (Ev.call (by kernel_rfl) A.Q.gC A.Q.kC (cn.cons (Ev.nm 20 rfl rfl) (cn.cons (Ev.nm 6 rfl rfl) .nil)) (ov.cons (Ev.nm 21 rfl rfl) (ov.cons Ev.GC (ov.cons (Ev.nm 24 rfl rfl) .nil))) hc) Ib.list) (by simp;lia) λ C x hx=>Gr A.G rfl (od rfl) rfl (by kernel_rfl) hx) rfl (od rfl) (od rfl)) ?_;rw[nY];refine Ex.freeze 22 rfl rfl rfl ?_;refine Ex.one (bc.ite (p:=false||false) (Tr.LY (Tr.cast (b':=((told.length:Int)!=(if(mZ.length:Int)<(j:Int)then(mZ.length:Int)else(j:Int)))) (by rw[c3,Rk];simp) (Tr.cmp (Ev.call (by kernel_rfl) A.G.len trivial (cn.cons (Ev.nm 22 rfl rfl) .nil) .nil (xC _ (by lia))) (Ev.call (by kernel_rfl) A.G.min trivial (cn.cons (Ev.nm 24 rfl rfl) (cn.cons (Ev.call (by kernel_rfl) A.G.len trivial (cn.cons (Ev.nm 19 rfl rfl) .nil) .nil (xC _ (by lia))) .nil)) .nil (Fn.min_two (n:=n+16))) cC.KC))
  λ z=>Tr.cast (b':= !decide (([]:List Int)=[])) rfl (Tr.cmp (gF.ev (q:=.lst (D.ints [])) ?_ rfl) (Ev.lst .nil) (cC.KB (ys:=[]) (by lia)))) (λ h=>nomatch h) λ z=>Ex.nil)
 rw[show D.ints []=(oG told).filterMap λ z=>(none:Option D)from (uc _).symm];refine gF.comp (tn:=["members"]) (ix:=[19,22]) (by kernel_rfl) (λ z=>none) (kd.of (Ev.nm 22 rfl rfl) Ib.list) (by simp[oG];lia) λ C x hx=>?_;refine jw hx λ y hy=>?_;have xM:=si c1 hy;refine El.Fa 0 rfl (od rfl) rfl (Tr.cast (b':=(!decide (y∈mZ))||(((1:Nat):Int)!=1)) (by simp[c2 y hy]) (Tr.LY (Tr.cmp (Ev.nm 0 rfl rfl) (Ev.nm 1 rfl rfl) (cC.Fb (by lia))) λ z=>Tr.cmp (Ev.cast (by rw[xM]) (Ev.count (n:=n+16) (xss:=jK told) (xs:=y.map λ (x:Nat)=>(x:Int)) (Ev.cast (by rw[lA]) (Ev.nm 2 rfl rfl)) (Ev.cast (by rw[dW]) (Ev.nm 0 rfl rfl)))) Ev.int cC.KC)) λ h=>nomatch h
theorem To(A:All c){u:rU}{L:Addr}{i:DK}{k:Nat}{mZ:List (List Nat)}(X:End i k mZ):Ex c (n+17) (Fi u L) (D7 i k mZ (al 3 .no)) (sU.body.drop 16) (.ret (.bool true)):=by
 refine Ex.seq (ρ':=D7 i k mZ (al 3 .no)) (bc.ite (p:=i.dd==0) (Tr.cmp (Ev.nm 4 rfl rfl) Ev.int cC.Eg) (λ h=>Ts A X (by simpa using h)) λ h=>?_) (Ex.one (bc.ret Ev.GC));have h0:i.dd≠0:=by simpa using h
 exact Ex.one (bc.ite (p:=i.dd==1) (Tr.cmp (Ev.nm 4 rfl rfl) Ev.int cC.Eg) (λ z=>Tq A X h0) λ z=>Tp A X h0)
end
end
theorem BS(k:Nat):(j9 k).length≤6:=L5 (M:= λ k=>(j9 k).length≤6) k (by decide) (by decide) (by decide) (by decide) λ k=>bV _
theorem J4:∀k,1≤k→k≤3→(jK (j9 k)).Pairwise λ x y=>Ba x y=true:= λ k h1 h3=>Rv (M:= λ k=>(jK (j9 k)).Pairwise λ x y=>Ba x y=true) h1 h3 (by decide +kernel) (by decide +kernel) (by decide +kernel)
theorem yS(vs:List Vo)(m k:Nat)(b:Bool)(o:Option Nat):(md vs m k b o).length≤6:=by
 unfold md
 split
 ·exact(by decide:1≤6)
 ·exact af (bG _ _) (BS k)
theorem Di(i:DK){k:Nat}(H:fE i.m i.rows)(h4:i.m≤4)(hd:i.dd=0∨i.dd=1∨i.dd=2)(k1:1≤k)(km:k≤i.m)(k3:i.dd≠0→k≤3):
  ∃mZ,End i (lD (i.dd==0) i.rows i.m k 0 [iG i.rows]).1 mZ∧mZ.Perm (pL ((lD (i.dd==0) i.rows i.m k 0 [iG i.rows]).2.map (·.1)) [])∧(jK mZ).Pairwise (λ x y=>Ba x y=true)∧mZ.length≤6:=by
 have V:=H.vs
 by_cases h0:i.dd=0
 ·rw[show(i.dd==0)=true by simpa using h0];refine dj (yG H k 0 _ _ (Rel.start H km) (by exact gW _)) λ s' P_ e1 R' e2=>?_;rw[e1,gW];have e2:=e2 (by exact dA k1);have Jx:cK (iG i.rows).1=[]:=by simp[iG,cK,qq]
  rw[Jx]at e2;have ho:md (dX i.rows) i.m k true none=[cK s'.1]:=by unfold md;rw[if_pos rfl,e2]
  refine⟨[cK s'.1],⟨V,h4,by trivial,km,k3,hd,by exact bB _,yS _ _ _,λ z=>⟨ho,_,rfl,?_,λ hk=>?_⟩,λ h=>absurd h0 h,λ h=>absurd h0 h⟩,?_,jG _ _,by exact bB _⟩
  ·rw[(eJ _).length_eq,R'.C.l];exact af km h4
  ·refine dj (C1 H (k-1) 0 _ _ (Rel.start (k:=k) H km) (by rw[gW,jC k1];exact az _)) λ s1 s2 n1 n2 n3=>?_;rw[jC k1,e1]at n2;have Cf:s2=s':=by simp only[x7,nw,and_true]at n2;exact n2.2.symm
   refine dj (yG H (k-1) 0 _ _ (Rel.start (k:=k-1) H (af (Nat.sub_le k 1) km)) (by exact gW _)) λ s3 Yh m1 m2 m3=>?_;rw[n1]at m1;have Jw:s3=s1:=by simp only[x7,nw,and_true]at m1;exact m1.2.symm
   have m3:=m3 (by lia);rw[Jx,Jw]at m3;rw[Jw]at m2;refine⟨cK s1.1,by unfold md;rw[if_pos rfl,m3],by rw[(eJ _).length_eq,m2.C.l],λ y hy=>?_⟩;exact(eJ _).mem_iff.mpr (Cf▸n3 y ((eJ _).mem_iff.mp hy))
  ·show List.Perm [cK s'.1] (pL [s'.1] []);rfl
 ·rw[show(i.dd==0)=false by simpa using h0];have Qr:=(xp (b:=false) (rows:=i.rows) (m:=i.m) k 0 [iG i.rows]);have h1:1≤(lD false i.rows i.m k 0 [iG i.rows]).1:=by
   obtain⟨r,rfl⟩:∃r,k=r+1:=⟨k-1,by exact(jC k1).symm⟩;rw[rm,if_neg (by simp)];exact(xp (b:=false) r 1 _).1
  have h3:=k3 h0;have Il:=HF H (k:=(lD false i.rows i.m k 0 [iG i.rows]).1) (by lia) k 0 [(iG i.rows,(dX i.rows).map λ z=>0)] rfl (λ p hp=>by rw[aj]at hp;subst hp;exact Rel.start H (by lia));simp only[a_,jY,j0,List.flatMap_nil,bM,DV]at Il;generalize vL:(lD false i.rows i.m k 0 [iG i.rows]).1=k' at*;rw[Il];have hz:∀c∈lv (dX i.rows) i.m k' k' (iG i.rows).1 ((dX i.rows).map λ z=>0),oK i.m k' k' c:=B6 V k' 0 _ _ (by lia) (oK.nil (by lia)) (oV.start _);have kt:(iG i.rows).1=[]:=rfl;rw[kt]at hz⊢;refine xa (IG (lv (dX i.rows) i.m k' k' [] ((dX i.rows).map λ z=>0)) [] mm) λ d1 d2=>?_;have d2:∀c,c∈pL (lv (dX i.rows) i.m k' k' [] ((dX i.rows).map λ z=>0)) []↔∃d∈lv (dX i.rows) i.m k' k' [] ((dX i.rows).map λ z=>0),c=cK d:= λ c=>by rw[d2];simp
  generalize W_:pL (lv (dX i.rows) i.m k' k' [] ((dX i.rows).map λ z=>0)) []=tv at d1 d2⊢;have tp:∀c∈tv,c∈j9 k':= λ c hc=>by
   refine c0 ((d2 c).mp hc) λ d hd z1=>?_;subst z1;exact(oH h1 (by lia) h4 (hz d hd) (t:=0)).1
  have hp:=DE h1 (by lia) d1 tp;have hl:(IF k' tv).length≤6:=af (bG _ _) (BS k');refine⟨IF k' tv,⟨V,h4,h1,by lia,λ z=>by lia,hd,hl,yS _ _ _,λ h=>absurd h h0,λ z=>?_,λ z j hj=>?_⟩,hp,?_,hl⟩
  ·unfold md;rw[if_neg (by decide)];exact EB h1 (by lia) h4 hz d2
  ·unfold md;rw[if_neg (by decide)];refine jH (CQ hj h1 (by lia) h4 hz d2 d1) λ t1 t2 t3=>?_;exact⟨t1,λ c hc=>hp.mem_iff.mpr (t2 c hc),by rw[t3,hp.length_eq]⟩
  ·exact(J4 k' h1 (by lia)).sublist (q_.map _)
structure PV(c:Cx):Prop where
 OY:FnAt c 621 sU .none
 OZ:FnAt c 616 nr .none
 gN:cX c "_law_next" (.ref 616)
 kN:jz c (.ref 616)
 O0:FnAt c 611 uO .none
 gM:cX c "_law_made" (.ref 611)
 kM:jz c (.ref 611)
section
variable {c:Cx}{n:Nat}
theorem B_{ns:List Int}{j:Nat}(h:j<ns.length):(D.ints ns)[((j:Nat):Int).toNat]? =some (.int (ns.getD j 0)):=intAt h
theorem vZ:∀rows:List Row,D.ints (rows.map λ z=>0)=(rows.map iH).filterMap λ z=>some (D.int 0)
 |[]=>rfl
 |r::rows=>by show D.int 0::D.ints (rows.map λ z=>0)=D.int 0::(rows.map iH).filterMap (λ z=>some (D.int 0));rw[vZ rows]
noncomputable def Q9:List Stmt:=nF sU.body 8
noncomputable def Q8:Expr:=pJ sU.body 8
noncomputable abbrev Jl(xs ns:List Int)(hd sz dd:Int)(m k:Nat)(l:List Sl):List Sl:=[.val (.lst (D.ints xs)),.val (.lst (D.ints ns)),.val (.int hd),.val (.int sz),.val (.int dd),.val (.int (m:Int)),.val (.int (k:Int))]++l
theorem Ki(G:PG c){u:rU}{L:Addr}{xs ns:List Int}{hd sz dd:Int}{m k:Nat}(h4:m≤4):∀(as:List Int) (acc:List Row),acc.length+as.length≤900→
  Lp c (n+17) (Fi u L) (Jl xs ns hd sz dd m k ([.own true (.lst (acc.map iH))]++al 17 .no)) Q8 Q9 (D.ints as) (.next (Jl xs ns hd sz dd m k ([.own true (.lst ((acc++as.map (rowOf m)).map iH))]++al 17 .no))):=by
 intro w
 induction w with
 |nil=>
  intro acc z;rw[jY,bM];exact Lp.nil
 |cons a as ih=>
  intro acc hz;simp only[aJ]at hz;rw[show acc++(a::as).map (rowOf m)=(acc++[rowOf m a])++as.map (rowOf m) by simp];refine Lp.step (ρ'':=Jl xs ns hd sz dd m k ([.own true (.lst ((acc++[rowOf m a]).map iH))]++al 17 .no)) (ju.name 8 rfl (od rfl) (od rfl)) ?_ (ih _ (by simp;exact JQ hz rfl));refine Ex.weak (ρ₁:=Jl xs ns hd sz dd m k ([.own true (.lst ((acc++[rowOf m a]).map iH)),.val (.int a)]++al 16 .no)) ?_ (by repeat (first|exact cy.nil|refine cy.cons (.inr rfl) ?_|refine cy.cons (.inl rfl) ?_));rw[ia];refine Ex.one (bc.append 7 (d:=iH (rowOf m a)) (Ev.tup (cn.cons (gF.ev (q:=.lst (D.nats (rowOf m a).1)) ?_ rfl) (cn.cons (Ev.bin Ev.int (Ev.bin (Ev.bin (Ev.call (by kernel_rfl) G.abs trivial (cn.cons (Ev.nm 8 rfl rfl) .nil) .nil Fn.abs) Ev.int (gH.Ly (by decide) (by decide))) Ev.int (gH.xx (by decide))) gH.rT) .nil))) rfl rfl (by rw[aE];exact GV hz rfl));unfold rowOf;rw[← lz];refine gF.comp (tn:=["cand"]) (ix:=[8]) (by kernel_rfl) (ds:=D.nats (ay m)) (qr λ c=>vY (a.fdiv (2^c)) 1 !=0) (rq G (by exact af h4 (aG _ _)) (by kernel_rfl) (Ev.nm 5 rfl rfl)) (by simp[D.nats];exact af h4 (aG _ _)) λ C d hd=>?_;obtain⟨x,hx,rfl⟩:=gj hd;exact Cr rfl (od rfl) rfl (Tr.val (Ev.bin (Ev.bin (Ev.nm 1 rfl rfl) (Ev.nm 0 rfl rfl) (gH.QZ (by exact cz _))) Ev.int gH.TJ) kA.int) (Ev.nm 0 rfl rfl)
set_option maxHeartbeats 1000000 in
theorem Fu(A:All c)(W:PV c){xs:List Int}(hx:xs.length≤63):Fn c (n+18) (.ref 621) [.lst (D.ints xs)] [] (.bool true):=by
 refine eX W.OY λ u F p hp hc=>?_;have G:=A.G;refine Fn.of (vn:=Ng) (np:=1) [.pos 0] F (by kernel_rfl) (by kernel_rfl) rfl rfl ?_ λ L=>?_
 ·intro s vs ks y hv hk;refine xe (rE hv) λ a z1=>?_;subst z1;cases Bc hk;exact .of_eq (by kernel_rfl)
 ·show Ex c (n+17) (Fi u L) (.val (.lst (D.ints xs))::al 24 .no) _ _;have e5:(D.ints xs).take 5=D.ints (xs.take 5):=by simp[D.ints,Az]
  refine Ex.seq (bc.asg 1 (d:=.lst (D.ints (xs.take 5))) (Ev.cast (by rw[← e5];rfl) (Ev.Mz (k:=5) (Ev.nm 0 rfl rfl) (by decide) (by simp[D.ints];exact af hx (aG _ _)))) rfl (od rfl) (od rfl)) ?_;have Qh:(xs.take 5).length≤5:=by rw[List.length_take];exact x9 _ _
  generalize xs.take 5=ns at Qh⊢;have UI:(D.ints ns).length=ns.length:=by exact aE _
  refine Ex.seq (bc.asg 2 (d:=.int (OA ns)) (Ev.cast ?_ (Ev.ite (p:= !(D.ints ns).isEmpty) (d₁:=.int (ns.getD 0 0)) (d₂:=.int 0) (Tr.val (Ev.nm 1 rfl rfl) (kA.list (by exact vi UI Qh rfl))) (λ h=>Ev.sub (Ev.nm 1 rfl rfl) Ev.int (Sub.list (by decide) (B_ (j:=0) (by cases ns with|nil=>trivial|cons a l=>simp)) (by lia))) λ y=>Ev.int)) rfl (od rfl) (od rfl)) ?_
  ·cases ns with
   |nil=>rfl
   |cons a l=>rfl
  have Md:Fn c (n+17) (.builtin "len") [.lst (D.ints ns)] [] (.int (ns.length:Int)):=by
   have:=Fn.la (c:=c) (n:=n+17) (ds:=D.ints ns) (by lia);rwa[UI]at this
  refine Ex.seq (bc.asg 3 (d:=.int (J9 ns)) (Ev.cast ?_ (Ev.ite (p:=decide ((1:Int)<(ns.length:Int))) (d₁:=.int (ns.getD 1 0)) (d₂:=.int 0) (Tr.cmp (Ev.call (by kernel_rfl) G.len trivial (cn.cons (Ev.nm 1 rfl rfl) .nil) .nil Md) Ev.int cC.Mn) (λ h=>Ev.sub (Ev.nm 1 rfl rfl) Ev.int (Sub.list (by decide) (B_ (j:=1) (by simp at h;exact cA.mp h)) (by lia))) λ y=>Ev.int)) rfl (od rfl) (od rfl)) ?_
  ·unfold J9
   by_cases h:(1:Int)<(ns.length:Int)
   ·rw[decide_eq_true h,if_pos rfl]
   ·rw[decide_eq_false h,if_neg (by decide),ai,bk (by lia)];rfl
  generalize Ym:OA ns=hd;generalize lb:J9 ns=sz;refine Ex.seq (bc.asg 4 (Ev.bin (Ev.nm 2 rfl rfl) Ev.int (gH.xx (by decide))) rfl (od rfl) (od rfl)) ?_;have X7:=dC hd (show(0:Int)<3 by decide);have Lz:=jF hd (show(0:Int)<3 by decide);have zx:hd.fmod 3=0∨hd.fmod 3=1∨hd.fmod 3=2:=VY X7 Lz;generalize hd.fmod 3=dd at zx⊢;refine xa (HX sz) λ hm WO=>?_;have b1:=dC (sz.fdiv 4) (show(0:Int)<4 by decide);refine Ex.seq (bc.asg 5 (d:=.int (qA sz:Int)) (Ev.sub (d₁:=.lst (D.nats [4,3,4,2])) (Ev.lst (cn.cons Ev.int (cn.cons Ev.int (cn.cons Ev.int (cn.cons Ev.int .nil)))) (by decide)) (Ev.bin (Ev.bin (Ev.nm 3 rfl rfl) Ev.int (gH.Ly (by decide) (by decide))) Ev.int (gH.xx (by decide))) (Sub.list b1 (by show(D.nats [4,3,4,2])[((sz.fdiv 4).fmod 4).toNat]? =_;unfold D.nats;rw[bU,WO];rfl) (by simp[D.nats]))) rfl (od rfl) (od rfl)) ?_;refine cg (KP (dd:=dd) (sz:=sz) hm) λ q1 q2 q3 q4=>?_;have h4:qA sz≤4:=by lia
  have UG:(qA sz:Int)≠0:=by lia
  refine Ex.seq (bc.asg 6 (Ev.bin Ev.int (Ev.bin (Ev.bin (Ev.nm 3 rfl rfl) Ev.int (gH.xx (by decide))) (Ev.nm 5 rfl rfl) (gH.xx UG)) gH.rT) rfl (od rfl) (od rfl)) ?_;refine Ex.seq (ρ':=Jl xs ns hd sz dd (qA sz) (KQ dd sz (qA sz)) (al 18 .no)) (bc.ite (p:=(dd !=0)&&((qA sz:Int)==4)) (Tr.qN (Tr.cmp (Ev.nm 4 rfl rfl) Ev.int cC.KC) λ y=>Tr.cmp (Ev.nm 5 rfl rfl) Ev.int cC.Eg) (λ h=>?_) λ h=>?_) ?_
  ·have hh:dd≠0∧qA sz=4:=by simp at h;lia
   rw[if_pos hh]at q4;unfold Jl;rw[q4];exact Ex.one (bc.asg 6 (Ev.bin Ev.int (Ev.bin (Ev.nm 3 rfl rfl) Ev.int (gH.xx (by decide))) gH.rT) rfl (od rfl) (od rfl))
  ·have hh:¬(dd≠0∧qA sz=4):=by simp at h;lia
   rw[if_neg hh]at q4;unfold Jl;rw[q4];exact Ex.nil
  generalize qA sz=m at hm h4 UG q1 q2 q3 q4⊢;generalize KQ dd sz m=k at q1 q2 q3 q4⊢;clear q4;refine Ex.seq (bc.lh 7 (gF.lst .nil) rfl (od rfl) (od rfl)) ?_;have hR:=C3 h4 Qh;have ni:(srcOf ns).length≤3:=by have:=hR.l;rwa[aE]at this
  have e2:(D.ints ns).drop 2=D.ints (ns.drop 2):=by simp[D.ints,List.map_drop]
  refine Ex.seq (ρ':=Jl xs ns hd sz dd m k ([.own true (.lst (((srcOf ns).map (rowOf m)).map iH))]++al 17 .no)) (bc.for (kd.of (d:=.lst (D.ints (srcOf ns))) (Ev.cast ?_ (Ev.LY (p:= !(D.ints (ns.drop 2)).isEmpty) (d₁:=.lst (D.ints (ns.drop 2))) (d₂:=.lst (D.ints [1])) (Ev.cast (by rw[← e2];rfl) (Ev.from (k:=2) (Ev.nm 1 rfl rfl) (by decide) (by lia))) (kA.list (by simp[D.ints];exact af Qh (aG _ _))) λ y=>Ev.lst (cn.cons Ev.int .nil) (by decide))) Ib.list) λ ds iQ=>(by subst iQ;exact Ki G h4 (srcOf ns) [] (by simp;exact af ni (aG _ _)))) ?_
  ·unfold srcOf;cases ns.drop 2 with
   |nil=>rfl
   |cons a l=>rfl
  refine Ex.freeze 7 rfl rfl rfl ?_;generalize Uv:(srcOf ns).map (rowOf m)=rows at hR⊢
  let i:DK:=⟨xs,ns,hd,sz,dd,m,rows⟩
  refine Ex.seq (bc.asg 9 (d:=.lst ([iG rows].map sP)) (Ev.lst (cn.cons (Ev.tup (cn.cons (Ev.tup .nil) (cn.cons (gF.ev (q:=.lst (D.ints (rows.map λ y=>0))) ?_ rfl) (cn.cons Ev.int .nil))) (by simp)) .nil) (by simp)) rfl (od rfl) (od rfl)) ?_
  ·rw[show D.ints (rows.map λ y=>0)=(rows.map iH).filterMap λ y=>some (D.int 0)from vZ rows];refine gF.comp (tn:=["row"]) (ix:=[]) (by kernel_rfl) (λ y=>some (D.int 0)) (kd.of (Ev.nm 7 rfl rfl) Ib.list) (by rw[aE];have:=hR.l;exact af this (aG _ _)) λ C d hd=>?_;exact El.nm 0 rfl (od rfl) rfl λ z hz=>by cases hz;exact Ev.int
  have ni:=Kf (n:=n) (u:=u) (L:=L) (i:=i) G W.OZ W.gN W.kN hR h4 (k:=k) (by exact af q2 h4) k 0 [iG rows] (by lia) (λ s hs=>by rw[aj]at hs;subst hs;exact⟨_,Rel.start hR q2⟩) (by simp);refine xa (EN (b:=dd==0) hR h4 (k:=k) (by lia) k 0 [iG rows] (by lia) (λ s hs=>by rw[aj]at hs;subst hs;exact⟨_,Rel.start hR q2⟩) (by simp)) λ v1 v2=>?_;refine eE (Di i hR h4 zx q1 q2 q3) λ mZ X f1 f2 f3=>?_;have ei:(i.dd==0)=(dd==0):=rfl;rw[ei,show i.rows=rows from rfl,show i.m=m from rfl]at ni X f1;generalize lD (dd==0) rows m k 0 [iG rows]=r at ni v1 v2 X f1;obtain⟨k',ss⟩:=r;simp only at ni v1 v2 X f1;refine Ex.seq (ρ':=vh i k' ([.no,.val (.lst (ss.map sP))]++al 15 .no)) (bc.for (rq G (m:=k) (by exact G3 q2 h4 rfl) (by kernel_rfl) (Ev.nm 6 rfl rfl)) λ ds hd=>(by subst hd;rw[Ek];exact ni)) ?_;refine Ex.seq (bc.lh 19 (gF.lst .nil) rfl (od rfl) (od rfl)) ?_;refine Ex.seq (ρ':=vh i k' ([.no,.val (.lst (ss.map sP))]++al 9 .no++[.own true (.lst (oG (pL (ss.map (·.1)) [])))]++al 5 .no)) (bc.for (kd.of (Ev.nm 9 rfl rfl) Ib.list) λ ds hd=>(by subst hd;exact Ph (n:=n) G ss [] (λ s h=>by have:=v2 s h;exact rF this rfl) (by simp;exact rF v1 rfl))) ?_;have RZ:GX c (n+17) (oG (pL (ss.map (·.1)) [])) (oG mZ):=by
   rw[lA,lA];exact GX.lists (n:=n+16) (f1.map _) f2 (by rw[jK,aE,← f1.length_eq];exact f3)
  refine Ex.seq (bc.sort 19 RZ rfl rfl) ?_;refine Ex.freeze 19 rfl rfl rfl ?_;refine Ex.seq (bc.asg 20 (Ev.call (by kernel_rfl) W.gM W.kM (cn.cons (Ev.nm 5 rfl rfl) (cn.cons (Ev.nm 7 rfl rfl) .nil)) .nil (Dg (n:=n+5) A.P A.PC G W.O0 (m:=m) (rows:=rows) (by exact ab q1 q2) h4 hR.r (by have:=hR.l;exact rF this rfl))) rfl (od rfl) (od rfl)) ?_;refine Ex.seq (bc.asg 21 Ev.nA rfl (od rfl) (od rfl)) ?_;exact Ex.JG (To (n:=n) (u:=u) (L:=L) A X) (by repeat (first|exact cy.nil|refine cy.cons (.inr rfl) ?_|refine cy.cons (.inl rfl) ?_))
end
section
set_option backward.match.sparseCases false
noncomputable def jI(K:Frag):Frag:=K.filter λ p=> !qE p.2
noncomputable def Dn:Nat→Frag→Bool
 |_,[]=>true
 |n,p::K=>jv n p.1&&Dn (p.1+1) K
theorem FI{n:Nat}{K:Frag}(h:Dn n K=true):∀p∈K,n≤p.1:=by
 induction K generalizing n with
 |nil=>exact λ _=>nn
 |cons q K ih=>
  intro p hp;have h:=aP.mp h;have h1:=et h.1;exact(mc hp).elim (λ e=>e▸h1) λ hp=>af h1 (iE (ih h.2 p hp))
theorem ue{n:Nat}{K:Frag}{a:Addr}{o:Obj}(hi:Dn n K=true)(h:(jI K).lookup a=some o):K.lookup a=some o∧qE o=false∧(a,o)∈K:=by
 induction K generalizing n with
 |nil=>cases h
 |cons q K ih=>
  have hi:=(aP.mp hi).2;cases hq:qE q.2 with
  |true=>
   refine jH (ih hi ((congrArg (pZ a) (b0 (p:= λ p:Addr×Obj=> !qE p.2) (by rw[hq];exact bE))).symm.trans h)) λ h1 h2 h3=>?_;have ku:(a==q.1)=false:=beq_eq_false_iff_ne.mpr λ e=>ak _ (e▸FI hi _ h3);exact⟨by rw[aX,ku];exact h1,h2,.tail _ h3⟩
  |false=>
   have h:=(congrArg (pZ a) (bZ (p:= λ p:Addr×Obj=> !qE p.2) (by rw[hq];rfl))).symm.trans h;rw[aX]at h⊢;cases he:a==q.1 with
   |true=>
    rw[he]at h;cases h;exact⟨rfl,hq,eq_of_beq he▸ .head _⟩
   |false=>
    rw[he]at h;exact jH (ih hi h) λ h1 h2 h3=>⟨h1,h2,.tail _ h3⟩
noncomputable def yC:Data→Option (Array ag×Nat)
 |.seq vs n=>some (vs,n)
 |_=>none
noncomputable def wL:Data→Option (Array ag)
 |.fields vs=>some vs
 |_=>none
noncomputable def fnOf:Data→Option FuncData
 |.func f=>some f
 |_=>none
theorem t4{d:Data}{p:Array ag×Nat}(h:yC d=some p):d=.seq p.1 p.2:=Jh (g:= λ p=>Data.seq p.1 p.2) (o:=yC d) (by cases d<;>first|exact trivial|rfl) h
theorem uI{d:Data}{p:Array ag}(h:wL d=some p):d=.fields p:=Jh (g:=Data.fields) (o:=wL d) (by cases d<;>first|exact trivial|rfl) h
theorem IB{d:Data}{p:FuncData}(h:fnOf d=some p):d=.func p:=Jh (g:=Data.func) (o:=fnOf d) (by cases d<;>first|exact trivial|rfl) h
noncomputable def HK:ag→Option Addr
 |.ref a=>some a
 |_=>none
theorem HJ{v:ag}{a:Addr}(h:HK v=some a):v=.ref a:=Jh (g:=dQ) (o:=HK v) (by cases v<;>first|exact trivial|rfl) h
noncomputable def AN:ag→Option (Str×Tok)
 |.str x t=>some (x,t)
 |_=>none
theorem xg{v:ag}{p:Str×Tok}(h:AN v=some p):v=.str p.1 p.2:=Jh (g:= λ p=>Value.str p.1 p.2) (o:=AN v) (by cases v<;>first|exact trivial|rfl) h
noncomputable def FA:ag→Option (Int×Tok)
 |.int x t=>some (x,t)
 |_=>none
theorem Ca{v:ag}{p:Int×Tok}(h:FA v=some p):v=.int p.1 p.2:=Jh (g:= λ p=>nH p.1 p.2) (o:=FA v) (by cases v<;>first|exact trivial|rfl) h
noncomputable def GG:ag→Option Bool
 |.bool x=>some x
 |_=>none
theorem GD{v:ag}{p:Bool}(h:GG v=some p):v=.bool p:=Jh (g:=Value.bool) (o:=GG v) (by cases v<;>first|exact trivial|rfl) h
theorem ti{α:Type}{o:Option α}(h:o.isSome=true):∃a,o=some a:=dF.mp h
noncomputable def MG(K:Frag):List (Addr×Addr):=K.filterMap λ p=>(wL p.2.data).bind λ vs=>(vs[11]?).bind λ v=>(HK v).bind λ P=>if p.2.cls=.type "code" then some (p.1,P)else none
noncomputable def zb(o:Option Obj):Bool:=(o.bind λ o=>wL o.data).any (λ vs=>decide (vs.toList=[]))&&decide (o.map (λ o=>(o.cls,o.dict,o.slots.toList))=some (.none,none,[]))
noncomputable def GB(vs:Array ag)(P:Addr):Bool:=decide (vs.getD 11 .none=.ref P)&&decide (vs[11]? =some (.ref P))&&(AN (vs.getD 18 .none)).isSome&&(FA (vs.getD 7 .none)).isSome&&(GG (vs.getD 9 .none)).isSome&&(FA (vs.getD 10 .none)).isSome
noncomputable def ED(K:Frag)(p:Addr×Addr):Bool:=zb (K.lookup p.2)&& !Nat.beq p.1 p.2&&(((K.lookup p.1).map (·.cls))==some (.type "code"))&&((K.lookup p.1).bind λ o=>wL o.data).any λ vs=>GB vs p.2
noncomputable def tV(K:Frag):List (Addr×Addr):=(MG K).filter (ED K)
theorem za{o:Option Obj}(h:zb o=true):o=some {cls:=.none,data:=.fields #[]}:=by
 refine xa (aP.mp h) λ h1 h2=>c0 (vQ h1) λ vs h1 h3=>c0 (cL.mp h1) λ o e q=>?_;subst e;have e1:=congrArg (λ p:ag×Option Addr×List _=>({cls:=p.1,dict:=p.2.1,data:=o.data,slots:=⟨p.2.2⟩}:Obj)) (cG (of_decide_eq_true h2));exact(congrArg some e1).trans (congrArg (λ d=>some ({cls:=.none,data:=d}:Obj)) ((uI q).trans (congrArg (λ l=>Data.fields ⟨l⟩) (of_decide_eq_true h3))))
theorem v9{K:Frag}{p:Addr×Addr}{h:Heap}(X:K.In h)(c:ED K p=true):(∃ps,h.IsCode p.1 p.2 ps∧h.TableAt p.1 p.2 ps)∧p.1<h.objs.size∧p.2<h.objs.size:=by
 obtain⟨c,c5⟩:=aP.mp c;obtain⟨c,c4⟩:=aP.mp c;obtain⟨c1,c2⟩:=aP.mp c;have hT:=X _ _ (za c1);obtain⟨vs,c5,c6⟩:=vQ c5;obtain⟨o,e,c5⟩:=cL.mp c5;rw[e]at c4;have c4:=cG (eq_of_beq c4);have ho:=X _ _ e;obtain⟨c6,d6⟩:=aP.mp c6;obtain⟨c6,d5⟩:=aP.mp c6;obtain⟨c6,d4⟩:=aP.mp c6;obtain⟨c6,d3⟩:=aP.mp c6;obtain⟨d1,d2⟩:=aP.mp c6;obtain⟨x,e3⟩:=ti d3;obtain⟨f,e4⟩:=ti d4;obtain⟨b,e5⟩:=ti d5;obtain⟨g,e6⟩:=ti d6;have hd:=uI c5;refine⟨⟨#[],?_⟩,aI ho,aI hT⟩;exact⟨⟨_,vs,x.1,x.2,f.1,f.2,b,g.1,g.2,_,ho,hd,of_decide_eq_true d1,xg e3,Ca e4,GD e5,Ca e6,hT,rfl,trivial,λ hn=>by rw[hn]at c2;simp at c2⟩,⟨⟨_,vs,ho,c4,hd,of_decide_eq_true d2⟩,hT⟩⟩
noncomputable abbrev GA(pr:Program)(w:a9)(K:Frag)(mg mb:Str→Option ag)(ob:Obj)(B:Nat):Cx:=⟨pr,w,jI K,mg,mb,4,ob,tV K,B⟩
theorem Kb{pr:Program}{w:a9}{K:Frag}{q:Program}{loose:List Str}{vI:ExcName→Option ag}{mg mb:Str→Option ag}{s:ae}(T:Top q loose vI mg mb s.heap)(X:K.In s.heap)(hg:s.gens= #[])(h1:Dn 0 K=true)(h4:nsIn K mainGlobals "__builtins__"=some (some (.ref 4))):∃ob,bF (GA pr w K mg mb ob s.heap.objs.size) s:=by
 obtain⟨bm,ob,b1,b2,b3,b4,b5,b6⟩:=T.bmain;have hb:=mg_of X T.g h4;rw[b1]at hb;cases hb;have X':(jI K).In s.heap:= λ a o e=>X a o (ue h1 e).1;refine⟨ob,⟨?_,X',T.nolimit,T.g,T.b,b3,λ p hp=>(v9 X (aN.mp hp).2).1,AllBare.of_eq hg,az _⟩⟩;refine⟨λ x v e=>?_,T.builtins,b1,b2,b4,b5,b6,λ a o e=>aI (X' _ _ e),λ a o e=>(ue h1 e).2.1,⟨?_,?_,?_,aI b3⟩,λ p hp=>(v9 X (aN.mp hp).2).2⟩
 ·cases v with
  |none=>exact mg_none_of X' T.g e
  |some v=>exact mg_of X' T.g e
 all_goals have:=aI b3;show _<s.heap.objs.size
 all_goals exact b9 (by decide) this
noncomputable def I2(fd:FuncData):rU:=⟨fd.name,fd.qualname,fd.doc,fd.pyModule,fd.annotations,fd.code,fd.closureTuple,fd.kwdefaults⟩
noncomputable def OX(K:Frag)(a:Addr):Option FuncData:=(K.lookup a).bind λ o=>fnOf o.data
noncomputable def pv(K:Frag)(a:Addr):rU:=match OX K a with
 |some fd=>I2 fd
 |none=>⟨"","",.none,.none,none,.none,.none,.none⟩
noncomputable def codeAt(K:Frag)(T:List (Addr×Addr))(u:rU):Bool:=(HK u.code).any λ q=>(((K.lookup q).bind λ o=>wL o.data).any λ vs=>((vs[1]?).bind AN).any λ p=>p.1==u.qualname)&&T.any λ p=>Nat.beq p.1 q
noncomputable abbrev FV:=Arguments×FuncBody×iU×Addr×List (Str×Addr)×ag×Addr
noncomputable def fv(K:Frag)(a:Addr):Option FV:=(OX K a).map λ fd=>(fd.params,fd.body,fd.scope,fd.globals,fd.closure,fd.defaults,fd.builtins)
noncomputable def FD.fa(d:FD)(v:ag):Option FV:=some (d.params,.stmts d.body,d.scope,mainGlobals,[],v,builtinsNs)
theorem OV{K:Frag}{a:Addr}{d:FD}{v:ag}(h:fv K a=d.fa v):(K.lookup a).map (·.data)=some (.func (d.fd v (pv K a))):=by
 refine c0 (eW.mp h) λ fd h1 h2=>?_;have e:pv K a=I2 fd:=by unfold pv;rw[h1]
 refine c0 (cL.mp h1) λ o e2 h3=>?_;rw[e,e2,jf,IB h3];exact congrArg (λ p:FV=>some (Data.func {name:=fd.name,qualname:=fd.qualname,params:=p.1,body:=p.2.1,scope:=p.2.2.1,globals:=p.2.2.2.1,closure:=p.2.2.2.2.1,defaults:=p.2.2.2.2.2.1,kwdefaults:=fd.kwdefaults,doc:=fd.doc,pyModule:=fd.pyModule,annotations:=fd.annotations,code:=fd.code,closureTuple:=fd.closureTuple,builtins:=p.2.2.2.2.2.2})) h2
theorem dz{c:Cx}{a:Addr}{d:FD}{v:ag}(h0:fv c.K a=d.fa v)(h2:codeAt c.K c.tabs (pv c.K a)=true)(h3:d.scope.kind=.function)(h4:d.scope.isCoroutine=false):FnAt c a d v:=by
 obtain⟨o,ho,hd⟩:=eW.mp (OV h0);refine⟨pv c.K a,?_,?_⟩
 all_goals
  obtain⟨q,hq,h2⟩:=vQ h2;obtain⟨h2,hp⟩:=aP.mp h2;have hq:=HJ hq
 ·obtain⟨vs,e,h2⟩:=vQ h2;obtain⟨p,e2,h2⟩:=vQ h2;obtain⟨o',e,e3⟩:=cL.mp e;obtain⟨x,e2,e4⟩:=cL.mp e2;exact⟨⟨o,ho,hd⟩,⟨q,o',vs,p.2,hq,e,uI e3,e2.trans (congrArg some ((xg e4).trans (congrArg (Value.str · p.2) (eq_of_beq h2))))⟩,rfl,rfl,rfl,rfl,h3,h4⟩
 ·obtain⟨p,hp,e⟩:=iW.mp hp;exact⟨p,hp,by rw[hq,Nat.eq_of_beq_eq_true e]⟩
theorem gU{pr:Program}{w:a9}{K:Frag}{q:Program}{loose:List Str}{vI:ExcName→Option ag}{mg mb:Str→Option ag}{ob:Obj}{B:Nat}{h:Heap}(T:Top q loose vI mg mb h)(X:(jI K).In h){x:Str}{v:ag}(e:nsIn (jI K) mainGlobals x=some (some v)):cX (GA pr w K mg mb ob B) x v:=.inl (mg_of X T.g e)
theorem gB{pr:Program}{w:a9}{K:Frag}{q:Program}{loose:List Str}{vI:ExcName→Option ag}{mg mb:Str→Option ag}{ob:Obj}{B:Nat}{h:Heap}(T:Top q loose vI mg mb h)(X:(jI K).In h){x:Str}{v:ag}(e:nsIn (jI K) mainGlobals x=some none)(hx:x≠ "__name__")(hb:bootBuiltins x=some v):cX (GA pr w K mg mb ob B) x v:=.inr ⟨mg_none_of X T.g e,(T.builtins x hx).trans hb⟩
noncomputable def Jc(K:Frag)(a:Addr):Option (Array ag×Nat):=(K.lookup a).bind λ o=>yC o.data
noncomputable def JJ(K:Frag)(a:Addr):Array ag×Nat:=(Jc K a).getD (#[],0)
noncomputable def tokOf(v:ag):Tok:=match FA v with
 |some p=>p.2
 |none=>match AN v with
  |some p=>p.2
  |none=>0
noncomputable def BV(K:Frag)(a i:Nat):Tok:=tokOf ((JJ K a).1.getD i .none)
noncomputable def dB(K:Frag)(T:Addr)(vs:List ag):Bool:=(Jc K T).any λ p=>decide (p.1.toList=vs)
theorem lg{c:Cx}{T:Addr}{vs:List ag}(h:dB c.K T vs=true):sX c T vs:=by
 obtain⟨p,e,h⟩:=vQ h;obtain⟨o,e,e2⟩:=cL.mp e;cases of_decide_eq_true h;exact⟨o,p.2,e,t4 e2⟩
noncomputable def I4(o:Option Obj):Bool:=(o.bind λ o=>yC o.data).any (λ p=>decide (p.1.toList=[.bool true,.bool false]))&&decide (o.map (·.cls)=some (.type "tuple"))
theorem Kn{c:Cx}{a:Addr}(h:I4 (c.K.lookup a)=true):∀O s,Ok c O s→bh c.w O s.heap (.ref a) (.tup [.bool true,.bool false]):= λ O s K=>by
 obtain⟨h1,h2⟩:=aP.mp h;obtain⟨⟨⟨vs⟩,n⟩,h1,h3⟩:=vQ h1;cases of_decide_eq_true h3;obtain⟨o,e,h1⟩:=cL.mp h1;have h2:=of_decide_eq_true h2;rw[e]at h2;have hl:=K.br.ok.KM _ _ e;exact⟨a,[.bool true,.bool false],rfl,λ hm=>ak _ (ab hl (K.low a hm)),⟨o,K.br.fZ _ _ e,cG h2,n,t4 h1⟩,by exact⟨cO,cO,trivial⟩⟩
noncomputable def B7(xs:List Str)(o:Option Obj):Bool:=(o.bind λ o=>yC o.data).any (λ p=>p.1.toList.map (λ v=>(AN v).map (·.1))==xs.map some)&&decide (o.map (λ o=>(o.cls,o.dict))=some (.type "list",none))
theorem EG{w:a9}{O:List Addr}{h:Heap}{vs:List ag}{xs:List Str}(e:vs.map (λ v=>(AN v).map (·.1))=xs.map some):a0 w O h vs (yw xs):=by
 induction xs generalizing vs with
 |nil=>cases vs with|nil=>trivial|cons=>cases e
 |cons y ys ih=>
  cases vs with
  |nil=>cases e
  |cons v vs=>
   refine c0 (eW.mp (vW e).1) λ p e3 e4=>⟨?_,ih (vW e).2⟩;rw[xg e3,e4];exact qw
theorem E1{c:Cx}{a:Addr}{xs:List Str}(h:B7 xs (c.K.lookup a)=true):∀O s,Ok c O s→bh c.w O s.heap (.ref a) (.lst (yw xs)):= λ O s K=>by
 obtain⟨h1,h2⟩:=aP.mp h;obtain⟨⟨⟨vs⟩,n⟩,h1,h3⟩:=vQ h1;obtain⟨o,e,h1⟩:=cL.mp h1;have h2:=of_decide_eq_true h2;rw[e]at h2;obtain⟨h4,h5⟩:=BG (cG h2);have hl:=K.br.ok.KM _ _ e;exact⟨a,vs,rfl,λ hm=>ak _ (ab hl (K.low a hm)),⟨o,n,K.br.fZ _ _ e,h4,h5,t4 h1⟩,EG (eq_of_beq h3)⟩
noncomputable def refOf:Option (Option ag)→Addr
 |some (some (.ref a))=>a
 |_=>0
theorem HS{c:Cx}{s s':ae}(S:bF c s)(g:aB c [] [] s s'):OldK s.heap s'.heap:=by
 refine⟨λ b o e=>?_,λ b o e=>?_⟩
 ·cases ht:qE o with
  |false=>exact .inl (g.keep b o (by simp) e ht)
  |true=>
   rcases g.tab b o e ht with h|⟨⟨p,hp,rfl⟩,vs,more,rfl,h⟩
   ·exact .inl h
   ·obtain⟨ps,_,h2⟩:=S.tab p hp;exact .inr (.inl ⟨h2.isCodeTable,rfl,vs,more,rfl,h⟩)
 ·cases ht:qE o with
  |false=>exact⟨o,g.keep b o (by simp) e ht⟩
  |true=>
   rcases g.tab b o e ht with h|⟨_,vs,more,rfl,h⟩
   ·exact⟨_,h⟩
   ·exact⟨_,h⟩
noncomputable def bl(K N:Frag)(T:List (Addr×Addr)):List Bool:=[makesIn N 189,decide (findIn N (.ref 189) "__init__"=some (some (.ref 60))),decide (typeIn N (.ref 60)=some (.type "function")),codeAt N T (pv N 60),dB N 53 [.int 0 (BV N 53 0),.int 1 (BV N 53 1)],decide (nsIn N mainGlobals "Fraction"=some (some (.ref 189))),decide (nsIn N mainGlobals "isinstance"=some none),decide (nsIn N mainGlobals "int"=some none),keepIn N (.ref 189),sh N 189,decide (kitAny N (.type "int") [.type "int",.ref 189]=some true),decide (kitAny N (.ref 189) [.type "int",.ref 189]=some true),decide (kitOne N (.type "int") (.ref 189)=some false),decide (kitOne N (.ref 189) (.ref 189)=some true),decide (kitOne N (.ref 189) (.type "int")=some false),decide (kitOne N (.type "int") (.type "int")=some true),fh N 189 "numerator",fh N 189 "denominator",attrOk N 189 "numerator",attrOk N 189 "denominator",decide (nsIn N mainGlobals "NotImplemented"=some none),wt N 189 "int" "add" 102,qy N 189 (dY "add") 102,wt N 189 "int" "mul" 130,qy N 189 (cmpInfo .Eq).2.1 158,qy N 189 (cmpInfo .Lt).2.1 165,qy N 189 (cmpInfo .LtE).2.1 172,codeAt N T (pv N 102),codeAt N T (pv N 130),codeAt N T (pv N 158),codeAt N T (pv N 165),codeAt N T (pv N 172),decide (nsIn N mainGlobals "set"=some none),decide (nsIn N mainGlobals "len"=some none),decide (nsIn N mainGlobals "all"=some none),decide (nsIn N mainGlobals "any"=some none),decide (nsIn N mainGlobals "sorted"=some none),decide (nsIn N mainGlobals "str"=some none),decide (nsIn N mainGlobals "range"=some none),decide (nsIn N mainGlobals "list"=some none),decide (nsIn N mainGlobals "sum"=some none),decide (nsIn N mainGlobals "min"=some none),decide (nsIn N mainGlobals "enumerate"=some none),decide (nsIn N mainGlobals "tuple"=some none),decide (nsIn N mainGlobals "abs"=some none),decide (nsIn N mainGlobals "reversed"=some none),codeAt N T (pv N 30),dB N 23 [((JJ N 23).1.getD 0 .none),.none],decide (nsIn N mainGlobals "CandidateSet"=some (some (.ref 30))),keepIn N (.ref 30),codeAt N T (pv N 37),decide (nsIn N mainGlobals "sorted_committees"=some (some (.ref 37))),keepIn N (.ref 37),codeAt N T (pv N 45),dB N 38 [.none],decide (nsIn N mainGlobals "str_set_of_candidates"=some (some (.ref 45))),keepIn N (.ref 45),makesIn N 600,decide (findIn N (.ref 600) "__init__"=some (some (.ref 582))),decide (typeIn N (.ref 582)=some (.type "function")),codeAt N T (pv N 582),dB N 575 [.int 1 (BV N 575 0),.none],decide (nsIn N mainGlobals "Voter"=some (some (.ref 600))),keepIn N (.ref 600),fh N 600 "approved",fh N 600 "weight",attrOk N 600 "approved",attrOk N 600 "weight",sh N 600,decide (kitOne N (.ref 600) (.ref 600)=some true),makesIn N 563,decide (findIn N (.ref 563) "__init__"=some (some (.ref 454))),decide (typeIn N (.ref 454)=some (.type "function")),codeAt N T (pv N 454),dB N 449 [.none],decide (nsIn N mainGlobals "Profile"=some (some (.ref 563))),keepIn N (.ref 563),fh N 563 "candidates",fh N 563 "cand_names",fh N 563 "_voters",attrOk N 563 "candidates",attrOk N 563 "_voters",xr N 563 "num_cand" (refOf (findIn N (.ref 563) "num_cand")) 461,codeAt N T (pv N 461),decide (findIn N (.ref 563) "__len__"=some (some (.ref 476))),isFn N (.ref 476),codeAt N T (pv N 476),jS N 563 "_unique_voter" 483,codeAt N T (pv N 483),jS N 563 "add_voter" 490,codeAt N T (pv N 490),decide (findIn N (.ref 563) "__iter__"=some (some (.ref 532))),isFn N (.ref 532),codeAt N T (pv N 532),makesIn N 343,decide (findIn N (.ref 343) "__init__"=some (some (.ref 325))),decide (typeIn N (.ref 325)=some (.type "function")),codeAt N T (pv N 325),decide (nsIn N mainGlobals "Rule"=some (some (.ref 343))),keepIn N (.ref 343),fh N 343 "rule_id",fh N 343 "shortname",fh N 343 "longname",fh N 343 "algorithms",fh N 343 "resolute_values",fh N 343 "available_algorithms",attrOk N 343 "algorithms",attrOk N 343 "resolute_values",attrOk N 343 "available_algorithms",zR N 343 "_RESOLUTE_VALUES_FOR_SEQUENTIAL_RULES" (.ref (refOf (findIn N (.ref 343) "_RESOLUTE_VALUES_FOR_SEQUENTIAL_RULES"))),I4 (N.lookup (refOf (findIn N (.ref 343) "_RESOLUTE_VALUES_FOR_SEQUENTIAL_RULES"))),decide (nsIn N mainGlobals "available_algorithms"=some (some (.ref (refOf (nsIn N mainGlobals "available_algorithms"))))),B7 ["branch-and-bound","brute-force","standard","standard-fractions"] (N.lookup (refOf (nsIn N mainGlobals "available_algorithms"))),jS N 343 "verify_compute_parameters" 340,codeAt N T (pv N 340),dB N 333 [.none],codeAt N T (pv N 200),decide (nsIn N mainGlobals "total"=some (some (.ref 200))),keepIn N (.ref 200),codeAt N T (pv N 441),decide (nsIn N mainGlobals "division"=some (some (.ref 441))),keepIn N (.ref 441),codeAt N T (pv N 428),dB N 423 [.none,.none],decide (nsIn N mainGlobals "_seqphragmen_resolute"=some (some (.ref 428))),keepIn N (.ref 428),codeAt N T (pv N 434),dB N 429 [.none,.none],decide (nsIn N mainGlobals "_seqphragmen_irresolute"=some (some (.ref 434))),keepIn N (.ref 434),codeAt N T (pv N 422),dB N 415 [.str "fastest" (BV N 415 0),.bool true,.none],decide (nsIn N mainGlobals "compute_seqphragmen"=some (some (.ref 422))),keepIn N (.ref 422),codeAt N T (pv N 621),codeAt N T (pv N 616),decide (nsIn N mainGlobals "_law_next"=some (some (.ref 616))),keepIn N (.ref 616),codeAt N T (pv N 611),decide (nsIn N mainGlobals "_law_made"=some (some (.ref 611))),keepIn N (.ref 611),Dn 0 K,decide (nsIn K mainGlobals "__builtins__"=some (some (.ref 4))),decide (nsIn K mainGlobals "law"=some (some (.ref 621)))]
noncomputable def fl(N:Frag):List (Option FV):=[fv N 60,fv N 102,fv N 130,fv N 158,fv N 165,fv N 172,fv N 30,fv N 37,fv N 45,fv N 582,fv N 454,fv N 461,fv N 476,fv N 483,fv N 490,fv N 532,fv N 325,fv N 340,fv N 200,fv N 441,fv N 428,fv N 434,fv N 422,fv N 621,fv N 616,fv N 611]
noncomputable def fa:List (Option FV):=[m5.fa (.ref 53),Gz.fa .none,Gy.fa .none,JN.fa .none,JL.fa .none,JM.fa .none,Cu.fa (.ref 23),uN.fa .none,Gw.fa (.ref 38),m4.fa (.ref 575),rQ.fa (.ref 449),zP.fa .none,zO.fa .none,Gv.fa .none,Po.fa .none,JK.fa .none,wQ.fa .none,xR.fa (.ref 333),pM.fa .none,rR.fa .none,DF.fa (.ref 423),IH.fa (.ref 429),Ct.fa (.ref 415),sU.fa .none,nr.fa .none,uO.fa .none]
theorem gd{l:List Bool}(h:l.all id=true){p:Prop}[Decidable p](i:Nat)(e:l[i]? =some (decide p)):p:=of_decide_eq_true (ga h i e)
theorem gf{α:Type}{l l':List α}(h:l=l'){a b:α}(i:Nat)(e:l[i]? =some a)(e':l'[i]? =some b):a=b:=by
 subst h;rw[e]at e';exact cG e'
structure JT(K:Frag):Prop where
 b:(bl K (jI K) (tV K)).all id=true
 f:fl (jI K)=fa
section
variable {pr:Program}{w:a9}{K:Frag}{q:Program}{loose:List Str}{vI:ExcName→Option ag}{mg mb:Str→Option ag}{ob:Obj}{B:Nat}{h:Heap}
theorem LM(T:Top q loose vI mg mb h)(X:(jI K).In h)(H:(bl K (jI K) (tV K)).all id=true)(F:fl (jI K)=fa):All (GA pr w K mg mb ob B):=⟨{Ub:=(ga H 94 rfl),Ui:=(gd H 95 rfl),ty:=(gd H 96 rfl),O_:=dz (gf F 16 rfl rfl) (ga H 97 rfl) rfl rfl,gR:=gU T X (gd H 98 rfl),kR:=(ga H 99 rfl),p1:=(ga H 100 rfl),p2:=(ga H 101 rfl),p3:=(ga H 102 rfl),p4:=(ga H 103 rfl),p5:=(ga H 104 rfl),p6:=(ga H 105 rfl),a1:=(ga H 106 rfl),a2:=(ga H 107 rfl),a3:=(ga H 108 rfl),cl:=⟨_,(ga H 109 rfl),Kn (ga H 110 rfl)⟩,ga:=⟨_,gU T X (gd H 111 rfl),E1 (ga H 112 rfl)⟩,mv:=(ga H 113 rfl),O9:=dz (gf F 17 rfl rfl) (ga H 114 rfl) rfl rfl,Ps:=lg (ga H 115 rfl)},{Pa:=dz (gf F 18 rfl rfl) (ga H 116 rfl) rfl rfl,gT:=gU T X (gd H 117 rfl),kT:=(ga H 118 rfl),O6:=dz (gf F 19 rfl rfl) (ga H 119 rfl) rfl rfl,gD:=gU T X (gd H 120 rfl),kD:=(ga H 121 rfl),O8:=dz (gf F 20 rfl rfl) (ga H 122 rfl) rfl rfl,Pr:=lg (ga H 123 rfl),gR:=gU T X (gd H 124 rfl),kR:=(ga H 125 rfl),O7:=dz (gf F 21 rfl rfl) (ga H 126 rfl) rfl rfl,Pq:=lg (ga H 127 rfl),gI:=gU T X (gd H 128 rfl),kI:=(ga H 129 rfl),IC:=dz (gf F 22 rfl rfl) (ga H 130 rfl) rfl rfl,II:=⟨_,lg (ga H 131 rfl)⟩,gC:=gU T X (gd H 132 rfl),kC:=(ga H 133 rfl)},{Fh:=(ga H 57 rfl),FG:=(gd H 58 rfl),Eu:=(gd H 59 rfl),Ls:=dz (gf F 9 rfl rfl) (ga H 60 rfl) rfl rfl,LA:=⟨_,lg (ga H 61 rfl)⟩,gV:=gU T X (gd H 62 rfl),kV:=(ga H 63 rfl),MV:=(ga H 64 rfl),MT:=(ga H 65 rfl),LJ:=(ga H 66 rfl),PB:=(ga H 67 rfl),M1:=(ga H 68 rfl),Ug:=(gd H 69 rfl),Jj:=(ga H 70 rfl),Jr:=(gd H 71 rfl),I3:=(gd H 72 rfl),O5:=dz (gf F 10 rfl rfl) (ga H 73 rfl) rfl rfl,Pp:=lg (ga H 74 rfl),gP:=gU T X (gd H 75 rfl),kP:=(ga H 76 rfl),MU:=(ga H 77 rfl),putN:=(ga H 78 rfl),Jf:=(ga H 79 rfl),Cw:=(ga H 80 rfl),GJ:=(ga H 81 rfl),E3:=⟨_,(ga H 82 rfl)⟩,O4:=dz (gf F 11 rfl rfl) (ga H 83 rfl) rfl rfl,Ni:=(gd H 84 rfl),Nj:=(ga H 85 rfl),O3:=dz (gf F 12 rfl rfl) (ga H 86 rfl) rfl rfl,Jk:=(ga H 87 rfl),O2:=dz (gf F 13 rfl rfl) (ga H 88 rfl) rfl rfl,Nf:=(ga H 89 rfl),O1:=dz (gf F 14 rfl rfl) (ga H 90 rfl) rfl rfl,Ry:=(gd H 91 rfl),RA:=(ga H 92 rfl),Lu:=dz (gf F 15 rfl rfl) (ga H 93 rfl) rfl rfl},{make:=(ga H 0 rfl),xG:=(gd H 1 rfl),Hp:=(gd H 2 rfl),QF:=dz (gf F 0 rfl rfl) (ga H 3 rfl) rfl rfl,QG:=⟨_,_,lg (ga H 4 rfl)⟩,sS:=gU T X (gd H 5 rfl),lJ:=gB T X (gd H 6 rfl) (by decide) (by kernel_rfl),xN:=gB T X (gd H 7 rfl) (by decide) (by kernel_rfl),keep:=(ga H 8 rfl),own:=(ga H 9 rfl),L4:=(gd H 10 rfl),Uh:=(gd H 11 rfl),Jo:=(gd H 12 rfl),Jp:=(gd H 13 rfl),Nu:=(gd H 14 rfl),KR:=(gd H 15 rfl),putN:=(ga H 16 rfl),putD:=(ga H 17 rfl),Eh:=(ga H 18 rfl),Bw:=(ga H 19 rfl),XV:=gB T X (gd H 20 rfl) (by decide) (by kernel_rfl),rT:=(ga H 21 rfl),PS:=(ga H 22 rfl),nD:=(ga H 23 rfl),Vi:=(ga H 24 rfl),Uc:=(ga H 25 rfl),Ud:=(ga H 26 rfl),Lv:=dz (gf F 1 rfl rfl) (ga H 27 rfl) rfl rfl,Pe:=dz (gf F 2 rfl rfl) (ga H 28 rfl) rfl rfl,Pd:=dz (gf F 3 rfl rfl) (ga H 29 rfl) rfl rfl,Pc:=dz (gf F 4 rfl rfl) (ga H 30 rfl) rfl rfl,Pb:=dz (gf F 5 rfl rfl) (ga H 31 rfl) rfl rfl},{Th:=dz (gf F 6 rfl rfl) (ga H 46 rfl) rfl rfl,TB:=⟨_,lg (ga H 47 rfl)⟩,gC:=gU T X (gd H 48 rfl),kC:=(ga H 49 rfl),Vg:=dz (gf F 7 rfl rfl) (ga H 50 rfl) rfl rfl,gS:=gU T X (gd H 51 rfl),kS:=(ga H 52 rfl),Vf:=dz (gf F 8 rfl rfl) (ga H 53 rfl) rfl rfl,Vp:=lg (ga H 54 rfl),OU:=gU T X (gd H 55 rfl),Ru:=(ga H 56 rfl)},{set:=gB T X (gd H 32 rfl) (by decide) (by kernel_rfl),len:=gB T X (gd H 33 rfl) (by decide) (by kernel_rfl),RB:=gB T X (gd H 6 rfl) (by decide) (by kernel_rfl),int:=gB T X (gd H 7 rfl) (by decide) (by kernel_rfl),all:=gB T X (gd H 34 rfl) (by decide) (by kernel_rfl),any:=gB T X (gd H 35 rfl) (by decide) (by kernel_rfl),sorted:=gB T X (gd H 36 rfl) (by decide) (by kernel_rfl),str:=gB T X (gd H 37 rfl) (by decide) (by kernel_rfl),range:=gB T X (gd H 38 rfl) (by decide) (by kernel_rfl),list:=gB T X (gd H 39 rfl) (by decide) (by kernel_rfl),sum:=gB T X (gd H 40 rfl) (by decide) (by kernel_rfl),min:=gB T X (gd H 41 rfl) (by decide) (by kernel_rfl),enum:=gB T X (gd H 42 rfl) (by decide) (by kernel_rfl),tuple:=gB T X (gd H 43 rfl) (by decide) (by kernel_rfl),abs:=gB T X (gd H 44 rfl) (by decide) (by kernel_rfl),rev:=gB T X (gd H 45 rfl) (by decide) (by kernel_rfl),KR:=(gd H 15 rfl)}⟩
theorem KO(T:Top q loose vI mg mb h)(X:(jI K).In h)(H:(bl K (jI K) (tV K)).all id=true)(F:fl (jI K)=fa):PV (GA pr w K mg mb ob B):={OY:=dz (gf F 23 rfl rfl) (ga H 134 rfl) rfl rfl,OZ:=dz (gf F 24 rfl rfl) (ga H 135 rfl) rfl rfl,gN:=gU T X (gd H 136 rfl),kN:=(ga H 137 rfl),O0:=dz (gf F 25 rfl rfl) (ga H 138 rfl) rfl rfl,gM:=gU T X (gd H 139 rfl),kM:=(ga H 140 rfl)}
end
theorem close{pr:Program}{w:a9}{K:Frag}{q:Program}{loose:List Str}{vI:ExcName→Option ag}{mg mb:Str→Option ag}{s:ae}{a:Nat}{vs:List ag}{xs:List Int}(T:Top q loose vI mg mb s.heap)(X:K.In s.heap)(Z:JT K)(hg:s.gens= #[])(hL:s.heap.get? a=some {cls:=.type "list",data:=.seq vs.toArray})(hI:fb vs xs)(hx:xs.length≤63):
  mg "law"=some (.ref 621)∧wpAny (model pr w) callerA (call (.ref 621) [.ref a]) (λ v s'=>v=.bool true∧OldK s.heap s'.heap∧s'.os=s.os∧AllBare s'.gens) aZ s:=by
 obtain⟨H,F⟩:=Z;have h1:Dn 0 K=true:=ga H 141 rfl;have X':(jI K).In s.heap:= λ a o e=>X a o (ue h1 e).1;obtain⟨ob,S⟩:=Kb (pr:=pr) (w:=w) T X hg h1 (gd H 142 rfl);have hf:=Fu (n:=0) (LM (pr:=pr) (w:=w) (ob:=ob) (B:=s.heap.objs.size) T X' H F) (KO T X' H F) hx;refine⟨mg_of X T.g (gd H 143 rfl),wm (hf callerA [] s [.ref a] [] ⟨rfl,by decide,by decide⟩ ⟨S,λ z=>nn,λ z=>nn⟩ ?_ ?_) λ v s' q=>?_⟩
 ·refine⟨?_,trivial⟩;exact⟨a,vs,rfl,by simp,⟨_,0,hL,rfl,rfl,rfl⟩,uW hI⟩
 ·trivial
 ·obtain⟨g,S',r⟩:=q;exact⟨r,HS S g,g.os,S'.bare⟩
noncomputable def fragOf:List Obj→Nat→Frag
 |[],_=>[]
 |o::l,i=>(alive o).elim (fragOf l (i+1)) λ o=>(i,o)::fragOf l (i+1)
theorem DA{l:List Obj}{i a:Nat}{o:Obj}(h:(fragOf l i).lookup a=some o):∃k,a=i+k∧(l[k]?).bind alive=some o:=by
 induction l generalizing i with
 |nil=>cases h
 |cons p l ih=>
  have go:(fragOf l (i+1)).lookup a=some o→∃k,a=i+k∧((p::l)[k]?).bind alive=some o:= λ h=>c0 (ih h) λ k e hk=>⟨k+1,by rw[e,dq,eM],hk⟩;have h:pZ a ((alive p).elim (fragOf l (i+1)) λ o=>(i,o)::fragOf l (i+1))=some o:=h;cases e:alive p with
  |none=>rw[e]at h;exact go h
  |some p'=>
   rw[e]at h;have h:=(aX ..).symm.trans h;cases he:a==i with
   |true=>rw[he]at h;exact⟨0,eq_of_beq he,e.trans h⟩
   |false=>rw[he]at h;exact go h
theorem Iz(h:Heap):(fragOf h.objs.toList 0).In h:= λ a o e=>by
 obtain⟨k,rfl,hk⟩:=DA e;rw[gW];delta Heap.get?;rw[kH]at hk;cases hh:h.objs[k]? with
 |none=>rw[hh]at hk;cases hk
 |some o'=>
  rw[hh]at hk;obtain⟨c,d,dt,sl⟩:=o';cases dt<;>first|exact hk|exact nn hk
end
set_option tactic.hygienic true
set_option maxHeartbeats 0
def pq:Program:=PySem.Challenge.rw_jg0005_01.row.prog
def lq:List Str:=["CandidateSet","str_set_of_candidates","get_marginal_scorefct","Rule","available_algorithms","compute_seqphragmen","_seqphragmen_resolute","_seqphragmen_irresolute","Profile"]
def vq:Program:=view pq [0,3,5,6,8,9,11,12,13,14,15,16,17,19,20,21,22,23,24,28,30,31,33,34,35]
def oC(tb:String→Option Builtin)(p:Program)(w:a9)(ry:Nat)(ann:Option ag)(n:Nat):SharedT→Thread→Option SharedT:=
 Nat.rec (motive:= λ z=>SharedT→Thread→Option SharedT) (λ z z=>none) (λ z ih s t=>match through t with
  |true=>some s
  |false=>match stepOk ry ann t with
   |false=>none
   |true=>match stepT (denote tb) p w s t with
    |some (s',t')=>ih s' t'
    |none=>none) n
theorem tS{tb:String→Option Builtin}{p:Program}{w:a9}{ry:Nat}{ann:Option ag}:∀{n:Nat} {s s':SharedT} {t:Thread},oC tb p w ry ann n s t=some s'→topRun tb p w ry ann n s.abs t=some s'.abs
 |0,_,_,_,h=>nomatch h
 |n+1,s,s',t,h=>by
  change (match through t with
  |true=>some s
  |false=>match stepOk ry ann t with
   |false=>none
   |true=>match stepT (denote tb) p w s t with
    |some (s',t')=>oC tb p w ry ann n s' t'
    |none=>none)=some s' at h
  unfold topRun
  split at h
  ·rename_i e;rw[e];cases h;rfl
  ·rename_i e;rw[e]
   split at h
   ·cases h
   ·rename_i e;rw[e]
    split at h
    ·rename_i e;rw[stepT_spec e];exact tS h
    ·cases h
def treeOf:List Obj→Nat→BT→BT
 |[],_,t=>t
 |o::l,n,t=>treeOf l (n+1) (t.ins n o)
noncomputable def obs(s:ae):Bool×List (Option FV):=let K:=fragOf s.heap.objs.toList 0; ((bl K (jI K) (tV K)).all id,fl (jI K))
noncomputable def Gq(H:Heap)(s:ae):=
 match staticsOk (importedModules pq.main.body) H s.heap&&namesBound pq s.heap&&gensDone s&&laidKept H s.heap with
 |true=>some (openSeen vq lq (importedModules pq.main.body) (λ s=>xlAt vq [] s&&recOk [] s) true s)
 |false=>none
noncomputable abbrev MK(w:a9)(os:tD):SharedT:=⟨treeOf (kB w.params).objs.toList 0 .nil,11,(kB w.params).life,#[],boot_drawn,boot_toks,os⟩
noncomputable def oB(p:Program)(w:a9)(ry:Nat)(ann:Option ag)(n:Nat):SharedT→Thread→Option SharedT:=
 Nat.rec (motive:= λ z=>SharedT→Thread→Option SharedT) (λ z z=>none) (λ z ih s t=>match through t with
  |true=>some s
  |false=>match PySem.W.Fast.tw6613529449190102663 ry ann t with
   |false=>none
   |true=>match PySem.W.Fast.tw10156331382660048174 (PySem.W.Fast.tw11892475500146522536 PySem.W.Fast.tw14364793385576792824) p w s t with
    |some (s',t')=>ih s' t'
    |none=>none) n
theorem tR:oC treeTable=oB:=by
 funext p w ry ann n
 unfold oC oB;rw[PySem.W.Fast.te14364793385576792824,PySem.W.Fast.te6613529449190102663,PySem.W.Fast.te10156331382660048174,PySem.W.Fast.te11892475500146522536]
noncomputable def Lw(H:Heap)(s:ae):=
 match staticsOk (importedModules pq.main.body) H s.heap&&namesBound pq s.heap&&gensDone s&&laidKept H s.heap with
 |true=>some (PySem.W.Fast.tw4187177175401517315 vq lq (importedModules pq.main.body) (λ s=>xlAt vq [] s&&recOk [] s) true s)
 |false=>none
theorem ID:Gq=Lw:=by
 funext H s
 unfold Gq Lw;rw[PySem.W.Fast.te4187177175401517315]
noncomputable def one{α:Type}(f:Program→a9→Nat→Option ag→Nat→SharedT→Thread→Option SharedT)(e:Heap→ae→α)(w:a9)(os:tD):Option α:=
 (f pq w 11 ((kB w.params).nsMap mainGlobals "__annotations__") 8252 (MK w os) (topStub pq)).map λ t=>e (kB w.params) t.abs
theorem MQ(w:a9)(os:tD):one oB Lw w os=some (some (openGood vq lq)):=by kernel_rfl
theorem Q7(w:a9)(os:tD):one oB (λ z=>obs) w os=some (true,fa):=by kernel_rfl
theorem E8{α:Type}{e:Heap→ae→α}{w:a9}{os:tD}{v:α}(h:one oB e w os=some v){t:SharedT}(ht:oC treeTable pq w 11 ((kB w.params).nsMap mainGlobals "__annotations__") 8252 (MK w os) (topStub pq)=some t):e (kB w.params) t.abs=v:=by
 rw[← tR]at h;unfold one at h;rw[ht]at h;exact cG h
theorem E7{α:Type}{e:Heap→ae→α}{w:a9}{os:tD}{v:α}(h:one oB e w os=some v):
  ∃t,oC treeTable pq w 11 ((kB w.params).nsMap mainGlobals "__annotations__") 8252 (MK w os) (topStub pq)=some t:=by
 rw[← tR]at h;unfold one at h;obtain⟨t,ht,_⟩:=eW.mp h;exact⟨t,ht⟩
theorem HE(w:a9)(os:tD):∃t:SharedT,topRun treeTable pq w 11 ((kB w.params).nsMap mainGlobals "__annotations__") 8252 (MK w os).abs (topStub pq)=some t.abs∧Gq (kB w.params) t.abs=some (openGood vq lq)∧obs t.abs=(true,fa):=by
 obtain⟨t,ht⟩:=E7 (MQ w os);exact⟨t,tS ht,ID▸E8 (MQ w os) ht,E8 (Q7 w os) ht⟩
theorem Hz(w:a9)(os:tD):(MK w os).abs=⟨kB w.params,#[],boot_drawn,boot_toks,os⟩:=by kernel_rfl
theorem HR{tb:String→Option Builtin}{p:Program}{w:a9}{N ry:Nat}{ann:Option ag}{s₀ au:ae}(h0:fencedOpening tb p w N=some s₀)(hn:(s₀.heap.isNs mainGlobals&&s₀.gens.size==0)=true)(hs:s₀.heap.objs.size=ry)(ha:s₀.heap.nsMap mainGlobals "__annotations__"=ann)(hr:topRun tb p w ry ann N s₀ (topStub p)=some au)(hk:(staticsOk (importedModules p.main.body) s₀.heap au.heap&&namesBound p au.heap&&gensDone au&&laidKept s₀.heap au.heap)=true):openEnds tb p w N=some au:=by
 unfold openEnds;rw[h0,nv];unfold topFrom;rw[hn,hs,ha];simp only[hr,nv,hk]
theorem IL{p:Program}{w:a9}{N:Nat}{H:Heap}{d k}(e:(fencedOpening treeTable p w N).map (λ s=>(s.heap,s.gens,s.drawn,s.toks))=some (H,Array.mk [],d,k)):∃os,fencedOpening treeTable p w N=some ⟨H,#[],d,k,os⟩:=by
 obtain⟨s₀,h0,e0⟩:=eW.mp e;obtain⟨heap,gens,drawn,toks,os⟩:=s₀;simp only[x7]at e0;obtain⟨rfl,rfl,rfl,rfl⟩:=e0;exact⟨os,h0⟩
theorem IE{H:Heap}{s:ae}(e:Gq H s=some (openGood vq lq)):(staticsOk (importedModules pq.main.body) H s.heap&&namesBound pq s.heap&&gensDone s&&laidKept H s.heap)=true∧openSeen vq lq (importedModules pq.main.body) (λ s=>xlAt vq [] s&&recOk [] s) true s=openGood vq lq:=by
 unfold Gq at e
 split at e
 ·rename_i hk;exact⟨hk,cG e⟩
 ·cases e
theorem left:LeftO pq vq lq (λ s=>xlAt vq [] s&&recOk [] s) obs (λ z=>(true,fa)) 8252:= λ w=>by
 obtain⟨os,h0⟩:=IL (boot_open (p:=pq) (N:=8252) (by kernel_rfl) (by kernel_rfl) (λ s=>by kernel_rfl) w);obtain⟨t,hr,ea,eb⟩:=HE w os;rw[Hz]at hr;obtain⟨hk,es⟩:=IE ea;rw[HR h0 (by kernel_rfl) (by kernel_rfl) rfl hr hk];exact congrArg some (Prod.ext es eb)
theorem CM{P:Params}{h:Heap}{a:Addr}{xs:List WData}(W:Well P h (.ref a) (.list xs)):∃vs:List ag,h.get? a=some {cls:=.type "list",data:=.seq vs.toArray}:=by
 cases W with
 |list e _=>exact⟨_,e⟩
def YQ(_:a9)(h:Heap):Prop:=∃K:Frag,K.In h∧JT K
abbrev lw:OpenLaw:=PySem.Challenge.rw_jg0005_01
theorem VL:namesResolve lw.row.prog=true:=by kernel_rfl
theorem VK:noRoadLSs {strict:= !(importedModules lw.row.prog.main.body).all cThrough.contains,foot:=none,bare:=(["vars","dir","locals"]:List Str).filter (readsOut lw.row.prog lw.row.prog.main.body)} lw.row.prog.main.body=true:=by kernel_rfl
theorem VJ:namesMeet lw.row.prog lw.row.prog.main.body (λ z n=>attrL n)=true:=by kernel_rfl
theorem HC(l:OpenLaw)(e:lw=l):l.wellSaid=true:=by
 unfold OpenLaw.wellSaid OpenRow.wellSaid OpenRow.partSaid looksOpen
 repeat' with_reducible refine look_both ?_ ?_
 rotate_left 2
 subst e;exact VL
 rotate_left
 subst e;exact VK;subst e;exact VJ
 all_goals subst e
 all_goals kernel_rfl
theorem Q2:PySem.Challenge.rw_jg0005_01.wellSaid=true:=HC _ rfl
end Mine
set_option tactic.hygienic true
open Mine
theorem PySem.Challenge.cw_jg0005_01_holds : PySem.Challenge.rw_jg0005_01.Holds := by
 refine holds_law Q2 λ s2=>?_;refine holds_open (q:=vq) (loose:=lq) (XP:=XL vq []) (YP:=YQ) left (λ w s e=>⟨_,Iz s.heap,(Prod.mk.inj e).1,(Prod.mk.inj e).2⟩) (λ w h h' ⟨K,X,Z⟩ k=>⟨K,λ a o e=>k _ _ (X a o e),Z⟩) (λ s e=>xl_of s (Bool.and_eq_true_iff.mp e).1) XL.keeps (by rfl) (by rfl) (by rfl) (λ s e=>recFacts_of (Bool.and_eq_true_iff.mp e).2) (by rfl) s2 (by decide +kernel) ⟨rfl,rfl,rfl,rfl,rfl,by decide +kernel⟩ ⟨[.list [.int 3,.int 1]],by decide +kernel,by decide +kernel⟩ ?_;intro w s₀ au mg mb G y fa o pm cd doc dV kV ho hd Dw hD UE hg args vals as Bh Sg Wx FP Sd;obtain⟨K,X,Z⟩:=y;refine Ground.open G ?_;intro T B D TE TW
 wrow_args Bh Sg Wx FP Sd
 have hm:mg "law"=some (.ref fa):=UE;clear UE hd ho Dw hD B D TE TW G;rename_i xs _ _ _ _ _ _ _ a vs _ hl _ hw _ hI _ hx _;obtain⟨o,h1,h2,n,h3⟩:=hl;have hL:au.heap.get? a=some {cls:=.type "list",data:=.seq vs.toArray}:=by
  obtain⟨us,h4⟩:=CM hw;rw[h1]at h4;cases h4;cases h3;exact h1
 obtain⟨e,k⟩:=close (pr:=rw_jg0005_01.row.prog) (w:=w) T X Z hg hL hI (by omega);rw[hm]at e;cases e;refine wpAny_mono k (λ v s' q=>?_) λ z z f=>f.elim;obtain⟨rfl,q⟩:=q;exact⟨.inl ⟨_,.bool true,[],rfl,λ z=>rfl,(by constructor),(by first|kernel_rfl|decide|wrow_post),λ z=>⟨List.nodup_nil,λ z h=>nomatch h⟩⟩,q⟩