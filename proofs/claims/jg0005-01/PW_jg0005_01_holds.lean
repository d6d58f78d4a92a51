import PyProof.Rows.All
import Open.Line
import Open.FastRun
import Open.Boot
import Wide.Loose
import OpenK.KMake
import OpenK.KDescr
import OpenK.KMeth
import OpenK.KCls
import OpenK.KGet
import OpenK.KWalk
import KE.KSortKey
import KE.KNest
import KE.KIsAll
import KE.KSortTup
import KE.KSortAsk
import PyProof.DictCompW
import PyProof.DictDisplay
import PyProof.DictRoads
import PyProof.DictRoadsH
import PyProof.TupleKey
import Lean
import PySem.Challenge.RW_jg0005_01
open PySem PySem.Calls PySem.W PyProof.Rows
set_option Elab.async false
set_option linter.all false
set_option maxRecDepth 100000
set_option genSizeOf false
set_option genCtorIdx false
set_option genInjectivity false
set_option bootstrap.genMatcherCode false
set_option compiler.extract_closed false
set_option tactic.hygienic false
namespace Mine
open _root_.Array renaming size_push→gZ,length_toList→i5,getElem?_toList→kH,getElem?_setIfInBounds→lO,getElem?_eq_getElem→mK,toList_map→u6,getElem?_push_size→Aj,toList_filterMap→BK,getElem?_push_lt→BL,mem_toList_iff→D6
open _root_.Bool renaming and_eq_true_iff→aL,false_eq_true→aR,and_eq_true→bg,noConfusion→bz,false_ne_true→ew,not_eq_true'→j7,eq_iff_iff→o4,or_eq_true_iff→qZ,false_or→Ay
open _root_.Classical renaming byContradiction→dr,propDecidable→wX
open _root_.ForInStep renaming yield→iW
open _root_.Int renaming le_of_lt→bJ,lt_of_le_of_lt→b9,natCast_nonneg→cy,ofNat_lt→cz,eq_ofNat_of_zero_le→dh,fmod_nonneg_of_pos→dC,le_trans→ec,toNat_natCast→eU,gcd→fe,lt_of_lt_of_le→jE,fmod_lt_of_pos→jF,ofNat_le→ki,lt_trans→kj,add_comm→oX,mul_pos→qP,natAbs_of_nonneg→qR,ofNat→qT,toNat_of_nonneg→rZ,not_lt→sW,pow_succ→uX,ne_of_gt→uY,lt_or_le→uZ,pow_pos→wU,natCast_add→x6,mul_le_mul→z9,fmod_eq_emod_of_nonneg→Ah,fdiv_eq_ediv_of_nonneg→Ai,toNat→CB
open _root_.Int.ofNat renaming inj→vS
open _root_.List renaming getD_eq_getElem?_getD→ai,mem_singleton→aj,replicate→al,mem_append_right→ao,getElem?_eq_getElem→aq,range→aw,getElem?_eq_some_iff→ay,mem_append→aC,mem_cons→aD,length_map→aE,mem_append_left→aF,length_cons→aJ,mem_map→aM,mem_filter→aN,mem_range→aO,getElem?_set_ne→aQ,forall_mem_cons→aU,lookup_cons→aX,length_append→aY,map_cons→a9,size_toArray→a_,all_eq_true→bf,getElem?_eq_none→bk,getElem?_set_self→bp,mem_of_getElem?→bw,filterMap_cons_some→bA,length_filter_le→bG,map_map→bI,append_nil→bK,getElem?_map→bR,filter_cons_of_pos→bY,filter_cons_of_neg→bZ,map_congr_left→cj,length_nil→dp,pairwise_cons→dP,idxOf_lt_length_of_mem→dW,getElem?_append_right→d8,nodup_cons→el,drop_eq_getElem_cons→et,filterMap_cons_none→eJ,getElem_of_mem→eW,find?_cons_of_neg→fc,map→fN,filterMap_cons→f9,getElem_mem→f_,length_eq_zero_iff→gc,toArray→gG,getElem_idxOf→gH,find?_cons_of_pos→gJ,map_append→hJ,any_eq_true→iV,of_mem_zip→js,length_set→jt,pairwise_singleton→jG,map_nil→jZ,nodup_append→j0,flatMap_cons→j4,ext_getElem?→j5,append_assoc→j6,filter_eq_nil_iff→j9,mem_flatMap→kZ,length_zip→lR,set_set→l_,nodup_nil→ml,getElem?_append_left→mP,filter_congr→m8,any_cons→nr,drop_of_length_le→oO,forIn_cons→oY,filter_map→oZ,length_singleton→pj,lookup→pV,tail_drop→pX,mem_of_mem_take→pY,mem_iff_getElem→pZ,map_eq_nil_iff→qW,getElem?_range→qX,filter_sublist→qY,sum_cons→rW,mem_cons_self→sI,pairwise_map→tv,length_range→tw,not_mem_nil→vj,mem_reverse→vk,length_drop→vm,flatMap_map→vo,ext_getElem→vp,range'→vO,length→vP,forIn_nil→x_,filterMap→ya,perm_ext_iff_of_nodup→yh,pairwise_iff_getElem→Ag,set_comm→Aw,map_take→Ax,sublist_append_left→AD,lookup_eq_none_iff→BH,getElem?_replicate→BI,length_eq_one_iff→CC,take_append_drop→D2,set_getElem_self→D3,length_replicate→D4,getElem?_reverse→D5,range_eq_range'→Eo,drop_eq_nil_iff→Ep
open _root_.List.cons renaming injEq→nu,inj→vR
open _root_.Nat renaming lt_of_lt_of_le→ab,le_trans→af,lt_irrefl→ak,le_refl→az,le_add_left→aG,lt_succ_self→aS,le_succ→bq,succ_pos→bD,zero_le→bS,le_of_lt→bV,lt_of_le_of_lt→b8,le_of_not_lt→cu,lt_succ_of_lt→cw,le_add_right→cD,le_of_ble_eq_true→cK,succ_le_succ→cX,le_of_eq→de,add_right_comm→dq,ne_of_gt→dA,ne_of_lt→dO,add_le_add_left→ef,add_assoc→eN,le_succ_of_le→eT,lt_of_lt_of_eq→fw,zero_add→gO,le_of_succ_le→iC,ble→jv,sub_add_cancel→jC,add_sub_cancel→jD,lt_add_of_pos_right→jO,add_comm→kh,lt_succ_of_le→kq,lt_of_succ_lt→kr,lt_of_le_of_ne→mH,add_sub_cancel_left→oy,lt_or_ge→oW,mul_le_mul_left→rY,succ→uW,lt_trichotomy→u5,succ_ne_self→vQ,min_le_left→x5,blt→DQ,sub_zero→DX,sub_self→DY,lt_of_succ_lt_succ→D1,eq_of_beq_eq_true→En
open _root_.Option renaming bind_eq_some_iff→cL,isSome_iff_exists→dF,map_eq_some_iff→dY,map_some→jf,bind_some→nt
open _root_.Option.some renaming inj→cF
open _root_.Prod.mk renaming injEq→x3,inj→BF
open _root_.PyProof.Rows renaming IntsAre→fb,listItems_at→fu,Attribute_name→gX,listUpdate_at→jV,IsTup→lP,StrsAre→oI,entry_list_sort→qV,seqEpoch_at→sV,slot_list_sort→sY,tail_any→DP,args_list_sort→DW
open _root_.PyProof.Rows.F renaming entry_set_update_loop→nv
open _root_.PyProof.Rows.SortSt renaming mk'→wR
open _root_.PySem renaming wpAny_bind→aa,Shared→ae,Value→ag,wpAny_pure→ah,Around→aK,wpAny_holding→aV,World→a0,wpAny_setState_of→a8,codeAny_mono→bc,wpAny_newObj_type→bo,mem_of_lookup→bu,codeAny_builtin→bx,wpAny_call_entry→bO,wpAny_standAt→bQ,plainId_quiet→bX,wpAny_isInstance→cg,wpAny_callSpecial?_slot→cC,sizeLine_eq→cG,DictEntry→cT,wpAny_askSetting→df,wpAny_of_eq→dg,seg_bind_wrap→dD,strKind→dG,Keyword→dU,dunder→d7,PlainL→eC,wpAny_updateSeq→ff,wpAny_Call_Name_kw→fK,wpAny_typeOf→fZ,wpAny_loadName_local→f6,codeAny_call_builtin→f7,wpAny_rule→gm,wpAny_attempt→gq,NameKind→gL,wpAny_seqItems→gQ,wpAny_Expr_any→gW,Result→iu,BindsTo→iv,wpAny_setField_rec→iw,wpAny_Constant_str→iy,wpAny_specialOf→iJ,codeAny_of_tree→iK,wpAny_allTrue_Or_cons→iR,Scope→iT,wpAny_truthy_bool→iU,wpAny_mono→jc,wpAny_letGo→jd,wpAny_tryCatch→je,list_append_plainL→kn,call_function_tree→ko,wpAny_field→kE,wpAny_Call_method_lateS→kG,wpAny_setField→ll,wpAny_Assign_Subscript→lu,wpAny_call→lW,wpAny_execs_cons→lX,Operator→mf,GenState→mh,wpAny_loadName_free→mN,wpAny_loadName_cell→mO,isSubtype_stop→nH,slot_dict_getitem→nI,OsState→oJ,wpAny_storeSet_of→oL,wpAny_pyIter_slot→oM,wpAny_Call_append→oN,wpAny_handled→oU,slot_gen_next→oV,SetFound→pS,typeIs_int→qN,intKind_is→qO,Model→qS,wpAny_execs_nil→qU,sub_set_self→rX,wpAny_throw→sU,wpAny_fieldsOf→sX,wpAny_isTrue_BoolOp→u1,wpAny_newList→vh,wpAny_Name→vN,concat_meets→xW,wpAny_setEpoch_of→xX,wpAny_evalAll_nil→xY,wpAny_Return_some→xZ,plainObj_wpAny_Assign_Attribute→yb,IsEnum→zZ,wpAny_items_cons→z0,wpAny_forIn_list→z4,noFill_tuple_add→z5,entryFor_of_fast→z6,Entry→Ar,wpAny_noted→As,wpAny_mkInt→Au,wpAny_items_nil→BE,Thread→DO,call_meets→DR,wpAny_runValue→DS,wpAny_newTuple→DT,evalPairs_cons→DU,entryFor_alias→DV,wpAny_newFunctionEnv_cells→DZ,wpAny_Subscript_list_slice→D0
open _root_.PySem.Around renaming under_plain→Er
open _root_.PySem.AutoSeq1 renaming wpAny_loadPart'→iX
open _root_.PySem.Builtin renaming bitAnd→vT
open _root_.PySem.Builtin.Builtins renaming bindParams→dE
open _root_.PySem.Builtin.Frozenset renaming updateFrom→o6
open _root_.PySem.Builtin.Generator renaming genWake→p_
open _root_.PySem.Builtin.List renaming listLengthHint→gv,listSameRef→iD,listItems→ja,listExtendWith→r0
open _root_.PySem.Builtin.Range renaming rangeSize→fF,rangeFitsLong→q_,small→wY
open _root_.PySem.Builtin.SmallTypes renaming ownedTupleHandOut→mm,ownedTupleIsFree→mL,nextOf→pU
open _root_.PySem.Calls renaming call_function_entry→yi
open _root_.PySem.End renaming susp→qM
open _root_.PySem.F renaming called_set→dJ,plain_extend_loop→fx,plain_min_loop→gu,entry_extend_loop→iL,slot_set_iter→j8,args_tuple_add_2→mJ,plainAttrs_list→m9,entry_tuple_add→m_,slot_tuple_add→nJ,entry_min_loop→nK,slot_list_lt→o5,slot_enumerate_next→vt,slot_list_count→yc,plain_list_iadd→ye,entry_type_call→yf,entry_list_iadd→yg,plain_sum_loop→z_,plain_any_loop→Aa,plain_all_loop→Ab,entry_sum_loop→Ac,entry_set_init→Ad,entry_any_loop→Ae,entry_all_loop→Af,slot_list_pop→Az,slot_int_rmul→AA,plain_set_new→AB,slot_set_add→BG,plain_min→Ek,entry_min→Em
open _root_.PySem.Heap renaming get?_push_size→av,get?_push_of_some→aA,lt_size→aI,size_push→aW,get?_update_self→b0,SameBut→c7,ExtBut→pW
open _root_.PySem.Heap.DictOf renaming new→CD
open _root_.PySem.Heap.MapOf renaming typeIs→BJ
open _root_.PySem.Heap.SameBut renaming update→bC
open _root_.PySem.MeetsSeq3 renaming plain_eq_loop→wV,entry_eq_loop→wW
open _root_.PySem.NameKind renaming free→fI,cell→kl
open _root_.PySem.Obj renaming mapSeq→aP,putSet→jB,mapFields→sG,isFreed_of_seq→s5,data_mapSeq→x4,cls_mapSeq→z7
open _root_.PySem.PyData renaming strOk→jM,keyHash→jN
open _root_.PySem.Sem renaming bind_eq_wrap'→fQ,onRaise_eq_wrap→gb,wrap_wrap→il
open _root_.PySem.SetTable renaming insertAt→bt,below→b7,Probe→ip,grown→lQ,sizeAbove→lS,fill→mj,fits→pT,mk→Av
open _root_.PySem.SetTable.probe renaming go→lx
open _root_.PySem.Shared renaming TypeIs→i_
open _root_.PySem.Str renaming ofString→d_
open _root_.PySem.Value renaming none→di,ref→dR,type→gE,isStrOf→m7,int→nG,isInt→vi
open _root_.PySem.W renaming looks_findIn→jr,boot_heap→kB,CmpBack→lr,kas_sort→nF,plainGet_of→oK,Looks→Aq
open _root_.PySem.W.Looks renaming of_pure→z8
open _root_.Rat renaming intCast_mul→bH,intCast_le_intCast→bW,le_trans→dM,le_refl→eo,mul_le_mul_of_nonneg_right→eE,intCast_add→fO,intCast_nonneg→g_,mul_le_mul_of_nonneg_left→lN,le_of_mul_le_mul_right→mI,intCast_eq_zero_iff→ov,intCast_pos→ph,mul_nonneg→qQ,div_mul_cancel→sZ,divInt_eq_div→u4
open _root_.String renaming splitOnAux→sH
theorem od{p:Prop}[Decidable p](h:decide p=true):p:=of_decide_eq_true h
section
def MI(k:Lean.SyntaxNodeKind)(s:String):Lean.Syntax:=
 .node .none ``Lean.Parser.Tactic.tacticSeq #[.node .none ``Lean.Parser.Tactic.tacticSeq1Indented #[.node .none `null #[.node .none k #[.atom .none s]]]]
def rf:Lean.Syntax:=MI ``Lean.Parser.Tactic.tacticRfl "rfl"
section
variable {α:Type _}{l:List α}{M:List α→Prop}
@[elab_as_elim] theorem y6 (h:l.length=0) (k:M []):M l:=(gc.mp h).symm▸k
@[elab_as_elim] theorem yZ {n:Nat} (h:l.length=n+1) (k:∀a t,t.length=n→M (a::t)):M l:=by cases l with|nil=>cases h|cons a t=>exact k a t (Nat.succ.inj h)
@[elab_as_elim] theorem ud (h:l.length=1) (k:∀a,M [a]):M l:=yZ h λ a z h=>y6 h (k a)
@[elab_as_elim] theorem uc (h:l.length=2) (k:∀a b,M [a,b]):M l:=yZ h λ a z h=>ud h (k a)
@[elab_as_elim] theorem Js (h:l.length=3) (k:∀a b c,M [a,b,c]):M l:=yZ h λ a z h=>uc h (k a)
@[elab_as_elim] theorem Nq (h:l.length=4) (k:∀a b c d,M [a,b,c,d]):M l:=yZ h λ a z h=>Js h (k a)
@[elab_as_elim] theorem Np (h:l.length=5) (k:∀a b c d e,M [a,b,c,d,e]):M l:=yZ h λ a z h=>Nq h (k a)
end
@[elab_as_elim] theorem L8 {M:Nat→Prop} (k:Nat) (a:M 0) (b:M 1) (c:M 2) (d:M 3) (e:∀k,M (k+4)):M k:=by
 cases k with|zero=>exact a|succ k=>cases k with|zero=>exact b|succ k=>cases k with|zero=>exact c|succ k=>cases k with|zero=>exact d|succ k=>exact e k
@[elab_as_elim] theorem Rz {M:Nat→Prop} {k:Nat} (h:1≤k) (h':k≤3) (a:M 1) (b:M 2) (c:M 3):M k:=
 L8 (M:= λ k=>1≤k→k≤3→M k) k (λ h=>absurd h (by decide)) (λ z z=>a) (λ z z=>b) (λ z z=>c) (λ k z h=>absurd h (Nat.not_le_of_lt (aG 4 k))) h h'
@[elab_as_elim] theorem jw {α:Type _} {β:Type _} {f:α→β} {l:List α} {d:β} {M:β→Prop} (h:d∈l.map f) (k:∀x,x∈l→M (f x)):M d:=(aM.mp h).elim λ x h=>h.2▸k x h.1
theorem Jm{α β:Type}{a:α}{o:Option β}{g:β→α}{p:β}(k:o.elim True λ p=>a=g p)(h:o=some p):a=g p:=by subst h;exact k
theorem vL{α:Type}{o:Option α}{f:α→Bool}(h:o.any f=true):∃a,o=some a∧f a=true:=by
 cases o with
 |none=>exact bz h
 |some a=>exact⟨a,rfl,h⟩
theorem ga{l:List Bool}(h:l.all id=true){b:Bool}(i:Nat)(e:l[i]? =some b):b=true:=bf.mp h b (bw e)
theorem bN{b:Bool}(h:(!b)=true):b=false:=by cases b<;>first|rfl|exact bz h
theorem nn{α:Type _}{P:Prop}{a:α}(h:a∈([]:List α)):P:=absurd h vj
theorem mc{α:Type _}{a b:α}{l:List α}(h:a∈b::l):b=a∨a∈l:=(aD.mp h).imp (λ e=>e.symm) λ e=>e
theorem m1{α:Type _}{a b:α}(h:a∈[b]):b=a:=(aj.mp h).symm
theorem xa{A0:Prop}{A1:Prop}{G:Prop}(h:A0∧A1)(k:A0→A1→G):G:=k h.1 h.2
theorem xe{fk:Sort _}{A0:fk→Prop}{G:Prop}(h:∃x0,A0 x0)(k:∀x0,A0 x0→G):G:=h.elim k
theorem jH{A0:Prop}{A1:Prop}{A2:Prop}{G:Prop}(h:A0∧A1∧A2)(k:A0→A1→A2→G):G:=xa h.2 (k h.1)
theorem T6{fk:Sort _}{A0:Prop}{A1:fk→Prop}{G:Prop}(h:A0∧∃x0,A1 x0)(k:A0→∀x0,A1 x0→G):G:=xe h.2 (k h.1)
theorem cW{fk:Sort _}{A0:fk→Prop}{A1:fk→Prop}{G:Prop}(h:∃x0,A0 x0∧A1 x0)(k:∀x0,A0 x0→A1 x0→G):G:=h.elim λ x h=>xa h (k x)
theorem iz{fk:Sort _}{kW:Sort _}{A0:fk→kW→Prop}{G:Prop}(h:∃x0,∃x1,A0 x0 x1)(k:∀x0,∀x1,A0 x0 x1→G):G:=h.elim λ x h=>xe h (k x)
theorem b_{A0:Prop}{A1:Prop}{A2:Prop}{A3:Prop}{G:Prop}(h:A0∧A1∧A2∧A3)(k:A0→A1→A2→A3→G):G:=jH h.2 (k h.1)
theorem Hl{fk:Sort _}{A0:Prop}{A1:Prop}{A2:fk→Prop}{G:Prop}(h:A0∧A1∧∃x0,A2 x0)(k:A0→A1→∀x0,A2 x0→G):G:=T6 h.2 (k h.1)
theorem mn{fk:Sort _}{A0:Prop}{A1:fk→Prop}{A2:fk→Prop}{G:Prop}(h:A0∧∃x0,A1 x0∧A2 x0)(k:A0→∀x0,A1 x0→A2 x0→G):G:=cW h.2 (k h.1)
theorem Es{fk:Sort _}{kW:Sort _}{A0:Prop}{A1:fk→kW→Prop}{G:Prop}(h:A0∧∃x0,∃x1,A1 x0 x1)(k:A0→∀x0,∀x1,A1 x0 x1→G):G:=iz h.2 (k h.1)
theorem cH{fk:Sort _}{A0:fk→Prop}{A1:fk→Prop}{A2:fk→Prop}{G:Prop}(h:∃x0,A0 x0∧A1 x0∧A2 x0)(k:∀x0,A0 x0→A1 x0→A2 x0→G):G:=h.elim λ x h=>jH h (k x)
theorem Mt{fk:Sort _}{kW:Sort _}{A0:fk→Prop}{A1:fk→kW→Prop}{G:Prop}(h:∃x0,A0 x0∧∃x1,A1 x0 x1)(k:∀x0,A0 x0→∀x1,A1 x0 x1→G):G:=h.elim λ x h=>T6 h (k x)
theorem ez{fk:Sort _}{kW:Sort _}{A0:fk→kW→Prop}{A1:fk→kW→Prop}{G:Prop}(h:∃x0,∃x1,A0 x0 x1∧A1 x0 x1)(k:∀x0,∀x1,A0 x0 x1→A1 x0 x1→G):G:=h.elim λ x h=>cW h (k x)
theorem iq{fk:Sort _}{kW:Sort _}{CE:Sort _}{A0:fk→kW→CE→Prop}{G:Prop}(h:∃x0,∃x1,∃x2,A0 x0 x1 x2)(k:∀x0,∀x1,∀x2,A0 x0 x1 x2→G):G:=h.elim λ x h=>iz h (k x)
theorem nO{fk:Sort _}{A0:Prop}{A1:Prop}{A2:fk→Prop}{A3:fk→Prop}{G:Prop}(h:A0∧A1∧∃x0,A2 x0∧A3 x0)(k:A0→A1→∀x0,A2 x0→A3 x0→G):G:=mn h.2 (k h.1)
theorem Mv{fk:Sort _}{A0:Prop}{A1:fk→Prop}{A2:fk→Prop}{A3:fk→Prop}{G:Prop}(h:A0∧∃x0,A1 x0∧A2 x0∧A3 x0)(k:A0→∀x0,A1 x0→A2 x0→A3 x0→G):G:=cH h.2 (k h.1)
theorem Mu{fk:Sort _}{kW:Sort _}{A0:Prop}{A1:fk→kW→Prop}{A2:fk→kW→Prop}{G:Prop}(h:A0∧∃x0,∃x1,A1 x0 x1∧A2 x0 x1)(k:A0→∀x0,∀x1,A1 x0 x1→A2 x0 x1→G):G:=ez h.2 (k h.1)
theorem eG{fk:Sort _}{A0:fk→Prop}{A1:fk→Prop}{A2:fk→Prop}{A3:fk→Prop}{G:Prop}(h:∃x0,A0 x0∧A1 x0∧A2 x0∧A3 x0)(k:∀x0,A0 x0→A1 x0→A2 x0→A3 x0→G):G:=h.elim λ x h=>b_ h (k x)
theorem nN{fk:Sort _}{kW:Sort _}{A0:fk→Prop}{A1:fk→Prop}{A2:fk→kW→Prop}{G:Prop}(h:∃x0,A0 x0∧A1 x0∧∃x1,A2 x0 x1)(k:∀x0,A0 x0→A1 x0→∀x1,A2 x0 x1→G):G:=h.elim λ x h=>Hl h (k x)
theorem eX{fk:Sort _}{kW:Sort _}{A0:fk→Prop}{A1:fk→kW→Prop}{A2:fk→kW→Prop}{G:Prop}(h:∃x0,A0 x0∧∃x1,A1 x0 x1∧A2 x0 x1)(k:∀x0,A0 x0→∀x1,A1 x0 x1→A2 x0 x1→G):G:=h.elim λ x h=>mn h (k x)
theorem dj{fk:Sort _}{kW:Sort _}{A0:fk→kW→Prop}{A1:fk→kW→Prop}{A2:fk→kW→Prop}{G:Prop}(h:∃x0,∃x1,A0 x0 x1∧A1 x0 x1∧A2 x0 x1)(k:∀x0,∀x1,A0 x0 x1→A1 x0 x1→A2 x0 x1→G):G:=h.elim λ x h=>cH h (k x)
theorem lB{fk:Sort _}{kW:Sort _}{CE:Sort _}{A0:fk→kW→CE→Prop}{A1:fk→kW→CE→Prop}{G:Prop}(h:∃x0,∃x1,∃x2,A0 x0 x1 x2∧A1 x0 x1 x2)(k:∀x0,∀x1,∀x2,A0 x0 x1 x2→A1 x0 x1 x2→G):G:=h.elim λ x h=>ez h (k x)
theorem ra{fk:Sort _}{A0:Prop}{A1:Prop}{A2:Prop}{A3:fk→Prop}{A4:fk→Prop}{G:Prop}(h:A0∧A1∧A2∧∃x0,A3 x0∧A4 x0)(k:A0→A1→A2→∀x0,A3 x0→A4 x0→G):G:=nO h.2 (k h.1)
theorem tx{fk:Sort _}{A0:Prop}{A1:Prop}{A2:fk→Prop}{A3:fk→Prop}{A4:fk→Prop}{G:Prop}(h:A0∧A1∧∃x0,A2 x0∧A3 x0∧A4 x0)(k:A0→A1→∀x0,A2 x0→A3 x0→A4 x0→G):G:=Mv h.2 (k h.1)
theorem J4{fk:Sort _}{kW:Sort _}{A0:Prop}{A1:Prop}{A2:fk→kW→Prop}{A3:fk→kW→Prop}{G:Prop}(h:A0∧A1∧∃x0,∃x1,A2 x0 x1∧A3 x0 x1)(k:A0→A1→∀x0,∀x1,A2 x0 x1→A3 x0 x1→G):G:=Mu h.2 (k h.1)
theorem bL{fk:Sort _}{kW:Sort _}{A0:fk→kW→Prop}{A1:fk→kW→Prop}{A2:fk→kW→Prop}{A3:fk→kW→Prop}{G:Prop}(h:∃x0,∃x1,A0 x0 x1∧A1 x0 x1∧A2 x0 x1∧A3 x0 x1)(k:∀x0,∀x1,A0 x0 x1→A1 x0 x1→A2 x0 x1→A3 x0 x1→G):G:=h.elim λ x h=>eG h (k x)
theorem c8{fk:Sort _}{kW:Sort _}{CE:Sort _}{A0:fk→kW→CE→Prop}{A1:fk→kW→CE→Prop}{A2:fk→kW→CE→Prop}{G:Prop}(h:∃x0,∃x1,∃x2,A0 x0 x1 x2∧A1 x0 x1 x2∧A2 x0 x1 x2)(k:∀x0,∀x1,∀x2,A0 x0 x1 x2→A1 x0 x1 x2→A2 x0 x1 x2→G):G:=h.elim λ x h=>dj h (k x)
theorem k7{fk:Sort _}{kW:Sort _}{A0:Prop}{A1:Prop}{A2:Prop}{A3:fk→kW→Prop}{A4:fk→kW→Prop}{G:Prop}(h:A0∧A1∧A2∧∃x0,∃x1,A3 x0 x1∧A4 x0 x1)(k:A0→A1→A2→∀x0,∀x1,A3 x0 x1→A4 x0 x1→G):G:=J4 h.2 (k h.1)
theorem lY{fk:Sort _}{kW:Sort _}{A0:Prop}{A1:fk→kW→Prop}{A2:fk→kW→Prop}{A3:fk→kW→Prop}{A4:fk→kW→Prop}{G:Prop}(h:A0∧∃x0,∃x1,A1 x0 x1∧A2 x0 x1∧A3 x0 x1∧A4 x0 x1)(k:A0→∀x0,∀x1,A1 x0 x1→A2 x0 x1→A3 x0 x1→A4 x0 x1→G):G:=bL h.2 (k h.1)
theorem cI{fk:Sort _}{kW:Sort _}{CE:Sort _}{A0:fk→kW→CE→Prop}{A1:fk→kW→CE→Prop}{A2:fk→kW→CE→Prop}{A3:fk→kW→CE→Prop}{G:Prop}(h:∃x0,∃x1,∃x2,A0 x0 x1 x2∧A1 x0 x1 x2∧A2 x0 x1 x2∧A3 x0 x1 x2)(k:∀x0,∀x1,∀x2,A0 x0 x1 x2→A1 x0 x1 x2→A2 x0 x1 x2→A3 x0 x1 x2→G):G:=h.elim λ x h=>bL h (k x)
section
variable {M:qS}{A:aK}{s:ae}{X:ag→ae→Prop}{α β:Type}
theorem wm{t:Sem α}{P Q:α→ae→Prop}(h:wpAny M A t P (λ z z=>False) s)(k:∀v s',P v s'→Q v s'):wpAny M A t Q X s:=jc h k λ z z f=>f.elim
theorem wk{t:Sem α}{P Q:α→ae→Prop}(h:wpAny M A t P X s)(k:∀v s',P v s'→Q v s'):wpAny M A t Q X s:=jc h k λ z z f=>f
theorem wb{t:Sem α}{f:α→Sem β}{P:α→ae→Prop}{Q:β→ae→Prop}(h:wpAny M A t P (λ z z=>False) s)(k:∀v s',P v s'→wpAny M A (f v) Q X s'):wpAny M A (t>>=f) Q X s:=aa (wm h k)
theorem L0{t:Sem α}{f:α→Sem β}{P:α→ae→Prop}{Q:β→ae→Prop}(h:wpAny M A t P X s)(k:∀v s',P v s'→wpAny M A (f v) Q X s'):wpAny M A (t>>=f) Q X s:=aa (wk h k)
theorem vW{v:α}{f:α→Sem β}{Q:β→ae→Prop}(h:wpAny M A (f v) Q X s):wpAny M A (pure v>>=f) Q X s:=aa (ah h)
theorem wF{a b:Sem α}{Q:α→ae→Prop}(h:wpAny M A b Q X s):wpAny M A (if false=true then a else b) Q X s:=h
theorem wT{a b:Sem α}{Q:α→ae→Prop}(h:wpAny M A a Q X s):wpAny M A (if true=true then a else b) Q X s:=h
theorem wI{p:Prop}[Decidable p]{a b:Sem α}{Q:α→ae→Prop}(h:p→wpAny M A a Q X s)(h':¬p→wpAny M A b Q X s):wpAny M A (if p then a else b) Q X s:=by by_cases hp:p<;>first|(rw[if_pos hp];exact h hp)|(rw[if_neg hp];exact h' hp)
theorem wN{p:Prop}[Decidable p]{a b:Sem α}{Q:α→ae→Prop}(hp:¬p)(h:wpAny M A b Q X s):wpAny M A (if p then a else b) Q X s:=by rw[if_neg hp];exact h
theorem wP{p:Prop}[Decidable p]{a b:Sem α}{Q:α→ae→Prop}(hp:p)(h:wpAny M A a Q X s):wpAny M A (if p then a else b) Q X s:=by rw[if_pos hp];exact h
end
structure Vw where
 e:Expr
 b:List Stmt
 o:List Stmt
 a:Arguments
 sc:iT
set_option backward.match.sparseCases false in
noncomputable def vw:Stmt→Vw
 |.For t _ b _ _=>⟨t,b,[],⟨[],[],none,[],[],none,[]⟩,⟨.function,[],false,false,[]⟩⟩
 |.While t b _ _=>⟨t,b,[],⟨[],[],none,[],[],none,[]⟩,⟨.function,[],false,false,[]⟩⟩
 |.If t b o _=>⟨t,o,b,⟨[],[],none,[],[],none,[]⟩,⟨.function,[],false,false,[]⟩⟩
 |.FunctionDef _ a b _ _ _ sc _ _ _=>⟨.Name "x" default,b,[],a,sc⟩
 |.ClassDef _ _ _ b _ _ _ _ _ _ _=>⟨.Name "x" default,b,[],⟨[],[],none,[],[],none,[]⟩,⟨.function,[],false,false,[]⟩⟩
 |_=>⟨.Name "x" default,[],[],⟨[],[],none,[],[],none,[]⟩,⟨.function,[],false,false,[]⟩⟩
noncomputable def oP(l:List Stmt)(i:Nat):Stmt:=l.getD i (.Pass ⟨0,0,0,0⟩)
noncomputable def pH(l:List Stmt)(i:Nat):Expr:=(vw (oP l i)).e
noncomputable def nD(l:List Stmt)(i:Nat):List Stmt:=(vw (oP l i)).b
section
variable {a b c n m:Nat}
theorem rC(h:a≤n)(d:jv n m=true):a≤m:=af h (cK d)
theorem L4(h:a≤n)(d:jv (n+1) m=true):a<m:=b8 h (cK d)
theorem u_(e:a=b)(h:b≤n)(d:jv n m=true):a≤m:=rC (e▸h) d
theorem Qb(e:a=b)(h:b≤n)(d:jv (n+1) m=true):a<m:=L4 (e▸h) d
theorem Rq(e:a=b)(e':b=c)(h:c≤n)(d:jv n m=true):a≤m:=u_ (e.trans e') h d
theorem G6(h:a≤b)(h':b≤n)(d:jv n m=true):a≤m:=rC (af h h') d
theorem GY(h:a+b≤n)(d:jv n m=true):a≤m:=rC (af (cD a b) h) d
theorem JU(h:a+(b+1)≤n)(d:jv n m=true):a+1+b≤m:=rC (dq a 1 b▸h) d
theorem GX(h:a+(b+1)<n):a+1+b<n:=dq a 1 b▸h
theorem Bx(h:a+(b+1)=c):a+1+b=c:=(dq a 1 b).trans h
theorem LQ(h:c=a+(b+1)):c=a+1+b:=(Bx h.symm).symm
theorem JT(h:a+(b+1)=c):a<c:=h▸jO (bD b)
theorem GW(h:c=a+(b+1)):a<c:=JT h.symm
theorem IZ(h:a+(b+1)≤c):a<c:=ab (jO (bD b)) h
theorem TT(e:a=b)(h:b+(c+1)≤n)(d:jv n m=true):a+1≤m+1:=cX (e▸GY h d)
theorem T9(h:a≤n)(h':b≤m)(d:jv (n+m) c=true):a+b≤c:=af (Nat.add_le_add h h') (cK d)
theorem Ea(e:b=c)(h:a<c):a<b:=e▸h
theorem Ug{i a b c:Nat}(e:a=c)(e':b=c)(h:i<c):i<min a b:=by rw[e,e',Nat.min_self];exact h
theorem Ro{i a c:Nat}(e:a=c)(h:i<c):i<min a c:=Ug e rfl h
theorem KJ{i a c:Nat}(e:a=c)(h:i<c):i<min c a:=Ug rfl e h
theorem VB{P:Prop}(h:a<b)(h':b<a):P:=absurd (Nat.lt_trans h h') (ak a)
theorem T4{P:Prop}(h:a<b)(h':b≤a):P:=absurd (ab h h') (ak a)
theorem T5{P:Prop}(h:a<b)(e:a=b):P:=absurd e (dO h)
theorem T3{P:Prop}(h:0<a)(e:a=0):P:=absurd e (dA h)
end
section
variable {a b n m:Int}{k l:Nat}
theorem L9(h:a≤n)(d:decide (n≤m)=true):a≤m:=ec h (of_decide_eq_true d)
theorem RK(h:a≤n)(d:decide (n<m)=true):a<m:=b9 h (of_decide_eq_true d)
theorem Wf(h:n≤a)(d:decide (m≤n)=true):m≤a:=ec (of_decide_eq_true d) h
theorem Uq(h:n≤a)(d:decide (m<n)=true):m<a:=jE (of_decide_eq_true d) h
theorem RL(h:k≤l)(d:decide ((l:Int)≤m)=true):(k:Int)≤m:=L9 (ki.mpr h) d
theorem Wg(h:k≤l)(d:decide ((l:Int)<m)=true):(k:Int)<m:=RK (ki.mpr h) d
end
theorem Ke{k i:Nat}(h:i<k):k-i=k-(i+1)+1:=by rw[Nat.sub_succ];exact(Nat.succ_pred_eq_of_pos (Nat.sub_pos_of_lt h)).symm
theorem PW(i d:Nat):i+1+d-i=d+1:=by rw[eN,oy,kh]
theorem Tq{i j:Nat}(h:i<j):∃d,j=i+1+d:=⟨j-(i+1),(Nat.add_sub_cancel' h).symm⟩
theorem Vs{u n L d e:Nat}(hn:1≤n)(hd:d≤8)(h:u+20*n<L):u+min d e<L:=
 b8 (ef (af (x5 d e) (af hd (af (by decide:8≤20*1) (rY 20 hn)))) u) h
theorem Pm{u n L d e:Nat}(hn:1≤n)(hd:d≤8)(h:u+20*n<L):u+1+min e d<L:=
 b8 (eN u 1 _▸ef (af (ef (af (Nat.min_le_right e d) hd) 1) (af (by decide:1+8≤20*1) (rY 20 hn))) u) h
theorem Qa{z:Int}{n:Nat}(h0:0≤z)(h:z<n):z.natAbs<n:=by
 obtain⟨k,rfl⟩:=dh h0;exact cz.mp h
theorem VQ{i j t:Nat}(h1:t≤i)(h2:t≤j)(e:i-t=j-t):i=j:=by rw[← jC h1,e,jC h2]
theorem Nk(a b:Nat):a≤a+(b+1) -1-b:=de (by rw[← eN,jD,jD])
theorem QP(a b:Nat):a+(b+1) -1-b-a=0:=by rw[← eN,jD,jD,DY]
section
variable {i:Int}{n:Nat}
theorem VL(h:0≤i):(i+1).toNat=i.toNat+1:=by obtain⟨k,rfl⟩:=dh h;rfl
theorem VK(i:Int):(i-1+1).toNat=i.toNat:=by rw[Int.sub_add_cancel]
theorem T8(h0:0≤i)(h:i<n):i.toNat<n:=by obtain⟨k,rfl⟩:=dh h0;exact cz.mp h
theorem V7(h0:0≤i)(h:i.toNat<n):i<n:=by obtain⟨k,rfl⟩:=dh h0;exact cz.mpr h
theorem V3(h0:0≤i)(h:i<3):i=0∨i=1∨i=2:=by
 obtain⟨k,rfl⟩:=dh h0;exact(by decide:∀k<3,((k:Nat):Int)=0∨((k:Nat):Int)=1∨((k:Nat):Int)=2) k (cz.mp h)
end
theorem uj{u n L j:Nat}(hj:j≤20)(h:u+20*(n+1)<L):u+j+20*n<L:=b8 (by rw[eN,Nat.mul_succ,kh (20*n)];exact ef (Nat.add_le_add_right hj _) u) h
theorem V4(n:Nat):(-1+(n:Int)).toNat=n-1:=by rw[oX];exact Int.toNat_sub n 1
theorem TJ{k:Nat}(h:0<k):(k:Int) -1=((k-1:Nat):Int):=(Int.ofNat_sub h).symm
theorem Rp(j n:Nat):((min j n:Nat):Int)=if(n:Int)<(j:Int)then(n:Int)else(j:Int):=by
 by_cases h:(n:Int)<(j:Int)
 ·rw[if_pos h,Nat.min_eq_right (bV (cz.mp h))]
 ·rw[if_neg h,Nat.min_eq_left (ki.mp (sW.mp h))]
end
structure Up(s s':ae):Prop where
 heap:s.heap.objs.size≤s'.heap.objs.size
 gens:s.gens.size≤s'.gens.size
theorem Up.refl(s:ae):Up s s:=⟨az _,az _⟩
theorem Up.trans{s s' k_:ae}(x:Up s s')(y:Up s' k_):Up s k_:=⟨af x.heap y.heap,af x.gens y.gens⟩
theorem Up.update{s:ae}{a f}:Up s {s with heap:=s.heap.update a f}:=⟨de (bC ..).1.symm,az _⟩
theorem Up.alloc{s:ae}{o}:Up s {s with heap:=s.heap.push o}:=⟨by rw[aW];exact bq _,az _⟩
theorem Up.newGen{s:ae}{x}:Up s {s with gens:=s.gens.push x}:=⟨az _,by rw[gZ];exact bq _⟩
theorem Up.setGen{s:ae}{g x}:Up s (s.setGen g x):=⟨az _,by simp[Shared.setGen]⟩
theorem BX{M:qS}{Γ:Ctx}{p:Pos}{t:Sem Fin}{fs:List Frame}{s s':ae}{e:End}(h:Runs M Γ p t fs s e s'):Up s s':=by
 induction h with
 |update _ _ ih=>exact Up.update.trans ih
 |alloc _ ih=>exact Up.alloc.trans ih
 |newGen _ ih=>exact Up.newGen.trans ih
 |call _ _ mB mA=>exact mB.trans mA
 |resumeFresh _ _ _ _ mB mA=>exact Up.setGen.trans (mB.trans (Up.setGen.trans mA))
 |resumeSuspended _ _ _ _ mB mA=>exact Up.setGen.trans (mB.trans (Up.setGen.trans mA))
 |resumeThrowFresh _ _ ih=>exact Up.setGen.trans ih
 |segRet _ _ mB mA=>exact mB.trans mA
 |segGen _ _ mB mA=>exact mB.trans (Up.setGen.trans mA)
 |segSuspGen _ _ _ _ mB mA=>exact mB.trans (Up.setGen.trans mA)
 |fresh _ ih=>exact⟨ih.heap,ih.gens⟩
 |choose _ _ ih=>exact⟨ih.heap,ih.gens⟩
 |os _ ih=>exact⟨ih.heap,ih.gens⟩
 |_=>first|exact Up.refl _|assumption
theorem VV{A B U:Prop}{C:ag→Prop}{r:Resume}(h:match r with|.send .none=>A|.send _=>B|.throw x=>C x)(ha:A→U)(hb:B→U)(hc:∀x,C x→U):U:=by
 cases r with
 |send v=>cases v<;>first|exact ha h|exact hb h
 |throw x=>exact hc x h
theorem Et{M:qS}{Γ:Ctx}{p:Pos}{g:Nat}{r:Resume}{s s':ae}{res:GenResult}(h:Wakes M Γ p g r s res s'):Up s s':=by
 have go:∀{Γ p t fs},(∃rM au,Runs M Γ p t fs (s.setGen g .running) rM au∧rM.quiet=true∧res=rM.result∧s'=au.setGen g rM.genState)→Up s s':= λ h=>
  bL h λ rM au hr z z e=>e▸Up.setGen.trans ((BX hr).trans Up.setGen)
 have h1:∀{q:Prop},(q∧s'=s)→Up s s':= λ h=>h.2▸Up.refl _;delta Wakes at h;generalize s.gens[g]? =o at h;cases o with
 |none=>exact h.elim
 |some st=>cases st with
  |fresh=>exact VV h go h1 λ x h=>h.2▸Up.setGen
  |suspended=>exact go h
  |running=>exact h1 h
  |finished=>exact h1 h
theorem Mw{α:Type}(M:qS)(Γ:Ctx)(s₀:ae)(t:Sem α):∀(Q:α→Pos→ae→Prop) (E:ag→Pos→ae→Prop) (p:Pos) (s:ae),Up s₀ s→Sem.wp M Γ t Q E p s→
  Sem.wp M Γ t (λ a p' s'=>Up s₀ s'∧Q a p' s') (λ e p' s'=>Up s₀ s'∧E e p' s') p s:=by
 induction t with
 |pure a=>intro Q E p s hn h;exact⟨hn,h⟩
 |raise e=>intro Q E p s hn h;exact⟨hn,h⟩
 |unsupported _=>intro Q E p s z h;exact h
 |finish _=>intro Q E p s z h;exact h
 |rule _ k ih=>intro Q E p s hn h;exact ih () Q E p s hn h
 |«at» p' k ih=>intro Q E p s hn h;exact ih () Q E p' s hn h
 |load a _ k ih=>intro Q E p s hn h;refine cW h ?_;clear h;intro o ho h;exact⟨o,ho,ih o Q E p s hn h⟩
 |update a _ f k ih=>intro Q E p s hn h;exact⟨h.1,ih () Q E p _ (hn.trans Up.update) h.2⟩
 |loadIfAlive a k ih=>intro Q E p s hn h;exact ih _ Q E p s hn h
 |point _ k ih=>intro Q E p s hn h;exact ih () Q E p s hn h
 |register _ _=>intro Q E p s z h;exact h
 |alloc o k ih=>intro Q E p s hn h;exact ih _ Q E p _ (hn.trans Up.alloc) h
 |fresh k ih=>intro Q E p s hn h;exact ih _ Q E p _ ⟨hn.heap,hn.gens⟩ h
 |ask k ih=>intro Q E p s hn h;exact ih _ Q E p s hn h
 |choose src m k ih=>intro Q E p s hn h;exact⟨h.1,ih _ Q E p _ ⟨hn.heap,hn.gens⟩ h.2⟩
 |os q _ k ih=>intro Q E p s hn h;exact ih _ Q E p _ ⟨hn.heap,hn.gens⟩ h
 |call c hd _ _ k ih=>intro Q E p s hn h;refine ez h ?_;clear h;intro r s' hr h;exact⟨r,s',hr,ih r Q E p s' (hn.trans (BX hr)) h⟩
 |handled own k ih=>intro Q E p s hn h;exact ih _ Q E p s hn h
 |genState g k ih=>intro Q E p s hn h;refine cW h ?_;clear h;intro st hs h;exact⟨st,hs,ih _ Q E p s hn h⟩
 |newGen c k ih=>intro Q E p s hn h;exact ih _ Q E p _ (hn.trans Up.newGen) h
 |resume g r _ k ih=>intro Q E p s hn h;refine ez h ?_;clear h;intro res s' hw h;exact⟨res,s',hw,ih res Q E p s' (hn.trans (Et hw)) h⟩
 |yield _ _ _ _=>intro Q E p s z h;exact h
 |stack k ih=>intro Q E p s hn h;exact ih _ Q E p s hn h
 |fork _ _=>intro Q E p s z h;exact h
 |thread k ih=>intro Q E p s hn h;exact ih _ Q E p s hn h
 |await _ _ _ _ _=>intro Q E p s z h;exact h
section
variable {α:Type}{M:qS}{A:aK}{s:ae}
theorem c9{t:Sem α}{Q:α→ae→Prop}{E:ag→ae→Prop}(h:wpAny M A t (λ a s'=>Up s s'→Q a s') (λ e s'=>Up s s'→E e s') s):wpAny M A t Q E s:=
 λ Γ p Am=>Sem.wp_mono M Γ _ (λ z z z x=>x.2 x.1) (λ z z z x=>x.2 x.1) p s (Mw M Γ s t _ _ p s (.refl s) (h Γ p Am))
end
structure TS where
 ids:List Nat
 place:List Nat
 mask:Nat
 moves:Nat
 deriving DecidableEq
noncomputable def j_:Nat→List (List Nat)
 |1=>[[0],[1],[2],[3]]
 |2=>[[0,1],[0,2],[0,3],[1,2],[1,3],[2,3]]
 |3=>[[0,1,2],[0,1,3],[0,2,3],[1,2,3]]
 |_=>[]
noncomputable def gw(c:List Nat):Int:=reduceHash (Builtin.Tuple.tupleHashOf ((c.map qT).map hashInt))
noncomputable def nQ:Nat→List Int
 |1=>[-8753497827991233192,-6644214454873602895,6909455589863252355,-5029647727744300836]
 |2=>[-1950498447580522560,7204814214171964562,-4734289103435588629,-3550055125485641917,-1440771752368011620,8409376899596376432]
 |3=>[2187946392326065592,-2705127636646630774,8477238830141211852,529344067295497451]
 |_=>[]
theorem w7:(j_ 1).map gw=nQ 1∧(j_ 2).map gw=nQ 2∧(j_ 3).map gw=nQ 3:=by decide +kernel
noncomputable def TS.tab(b:Bool)(st:TS):SetTable:={mask:=st.mask,place:=st.place.toArray,dummies:= #[],finger:=0,led:=b,moves:=st.moves,plain:=true}
noncomputable def zj(hs:List Int)(ids:List Nat)(i:Nat):Int:=(ids[i]?.map λ x=>hs.getD x 0).getD 0
noncomputable def TS.add(hs:List Int)(st:TS)(x:Nat):Option TS:=
 match (st.tab true).probe (zj hs st.ids) (hs.getD x 0) ((st.tab true).probeStart (hs.getD x 0))with
 |some (.empty j none)=>
  let t:=((st.tab true).put j).1
  let ids:=bt st.ids.toArray ((st.tab true).put j).2 x
  if t.tooFull then
   match t.relaid (ids.map λ x=>hs.getD x 0) (lQ (st.ids.length+1))with
   |some (t',order)=>some ⟨(order.filterMap (ids[·]?)).toList,t'.place.toList,t'.mask,t'.moves⟩
   |none=>none
  else some ⟨ids.toList,t.place.toList,t.mask,t.moves⟩
 |_=>none
noncomputable def iA:TS:=⟨[],[],7,0⟩
noncomputable def l4:Nat→List TS
 |1=>[
  ⟨[],[],7,0⟩,⟨[0],[0],7,0⟩,⟨[1],[1],7,0⟩,⟨[2],[3],7,0⟩,⟨[3],[4],7,0⟩,⟨[0,1],[0,1],7,0⟩,⟨[0,2],[0,3],7,0⟩,⟨[0,3],[0,4],7,0⟩,⟨[1,2],[1,3],7,0⟩,⟨[1,3],[1,4],7,0⟩,⟨[2,3],[3,4],7,0⟩,
  ⟨[0,1,2],[0,1,3],7,0⟩,⟨[0,1,3],[0,1,4],7,0⟩,⟨[0,2,3],[0,3,4],7,0⟩,⟨[1,2,3],[1,3,4],7,0⟩,⟨[0,1,2,3],[0,1,3,4],7,0⟩]
 |2=>[
  ⟨[],[],7,0⟩,⟨[0],[0],7,0⟩,⟨[1],[2],7,0⟩,⟨[2],[3],7,0⟩,⟨[3],[3],7,0⟩,⟨[4],[4],7,0⟩,⟨[5],[0],7,0⟩,⟨[0,1],[0,2],7,0⟩,⟨[0,2],[0,3],7,0⟩,⟨[0,3],[0,3],7,0⟩,⟨[0,4],[0,4],7,0⟩,
  ⟨[0,5],[0,4],7,0⟩,⟨[1,2],[2,3],7,0⟩,⟨[1,3],[2,3],7,0⟩,⟨[1,4],[2,4],7,0⟩,⟨[5,1],[0,2],7,0⟩,⟨[3,2],[2,3],7,0⟩,⟨[2,4],[3,4],7,0⟩,⟨[5,2],[0,3],7,0⟩,⟨[3,2],[3,7],7,0⟩,
  ⟨[3,4],[3,4],7,0⟩,⟨[5,3],[0,3],7,0⟩,⟨[5,4],[0,4],7,0⟩,⟨[5,0],[0,7],7,0⟩,⟨[0,1,2],[0,2,3],7,0⟩,⟨[0,1,3],[0,2,3],7,0⟩,⟨[0,1,4],[0,2,4],7,0⟩,⟨[0,1,5],[0,2,4],7,0⟩,
  ⟨[0,3,2],[0,2,3],7,0⟩,⟨[0,2,4],[0,3,4],7,0⟩,⟨[0,2,5],[0,3,4],7,0⟩,⟨[0,3,2],[0,3,7],7,0⟩,⟨[0,3,4],[0,3,4],7,0⟩,⟨[0,3,5],[0,3,4],7,0⟩,⟨[0,5,4],[0,3,4],7,0⟩,
  ⟨[0,4,5],[0,1,4],7,0⟩,⟨[3,1,2],[0,2,3],7,0⟩,⟨[1,2,4],[2,3,4],7,0⟩,⟨[5,1,2],[0,2,3],7,0⟩,⟨[1,3,2],[2,3,7],7,0⟩,⟨[1,3,4],[2,3,4],7,0⟩,⟨[5,1,3],[0,2,3],7,0⟩,
  ⟨[5,1,4],[0,2,4],7,0⟩,⟨[5,1,0],[0,2,7],7,0⟩,⟨[3,2,1],[2,3,7],7,0⟩,⟨[3,2,4],[2,3,4],7,0⟩,⟨[5,3,2],[0,2,3],7,0⟩,⟨[5,2,4],[0,3,4],7,0⟩,⟨[5,2,0],[0,3,7],7,0⟩,
  ⟨[3,4,2],[3,4,7],7,0⟩,⟨[5,3,2],[0,3,7],7,0⟩,⟨[5,3,4],[0,3,4],7,0⟩,⟨[5,3,0],[0,3,7],7,0⟩,⟨[5,4,0],[0,4,7],7,0⟩,⟨[0,3,1,2],[0,1,2,3],7,0⟩,⟨[0,1,2,4],[0,2,3,4],7,0⟩,
  ⟨[0,1,2,5],[0,2,3,4],7,0⟩,⟨[0,1,3,2],[0,2,3,7],7,0⟩,⟨[0,1,3,4],[0,2,3,4],7,0⟩,⟨[0,1,3,5],[0,2,3,4],7,0⟩,⟨[0,1,5,4],[0,2,3,4],7,0⟩,⟨[0,4,1,5],[0,1,2,4],7,0⟩,
  ⟨[0,3,2,1],[0,2,3,7],7,0⟩,⟨[0,3,2,4],[0,2,3,4],7,0⟩,⟨[0,3,2,5],[0,2,3,4],7,0⟩,⟨[0,5,2,4],[0,2,3,4],7,0⟩,⟨[0,4,2,5],[0,1,3,4],7,0⟩,⟨[0,3,4,2],[0,3,4,7],7,0⟩,
  ⟨[0,3,5,2],[0,3,4,7],7,0⟩,⟨[0,5,3,4],[0,2,3,4],7,0⟩,⟨[0,4,3,5],[0,1,3,4],7,0⟩,⟨[0,5,4,2],[0,3,4,7],7,0⟩,⟨[0,3,5,4],[0,2,3,4],7,0⟩,⟨[3,1,2,0],[0,2,3,7],7,0⟩,
  ⟨[3,1,2,4],[0,2,3,4],7,0⟩,⟨[3,1,2,5],[0,2,3,4],7,0⟩,⟨[5,1,2,4],[0,2,3,4],7,0⟩,⟨[5,1,2,0],[0,2,3,7],7,0⟩,⟨[5,3,1,2],[0,1,2,3],7,0⟩,⟨[1,3,4,2],[2,3,4,7],7,0⟩,
  ⟨[5,1,3,2],[0,2,3,7],7,0⟩,⟨[5,1,3,4],[0,2,3,4],7,0⟩,⟨[5,1,3,0],[0,2,3,7],7,0⟩,⟨[5,1,4,0],[0,2,4,7],7,0⟩,⟨[3,2,4,1],[2,3,4,7],7,0⟩,⟨[5,3,2,1],[0,2,3,7],7,0⟩,
  ⟨[5,3,2,4],[0,2,3,4],7,0⟩,⟨[5,3,2,0],[0,2,3,7],7,0⟩,⟨[5,2,4,0],[0,3,4,7],7,0⟩,⟨[5,3,4,2],[0,3,4,7],7,0⟩,⟨[5,0,3,2],[0,1,3,7],7,0⟩,⟨[5,3,4,0],[0,3,4,7],7,0⟩,
  ⟨[5,2,3,0],[0,2,3,7],7,0⟩,⟨[0,3,2,1,4],[0,3,11,18,28],31,1⟩,⟨[0,3,2,5,1],[0,3,11,16,18],31,1⟩,⟨[0,2,5,1,4],[0,11,16,18,28],31,1⟩,⟨[0,3,5,1,4],[0,3,16,18,28],31,1⟩,
  ⟨[0,3,2,5,4],[0,3,11,16,28],31,1⟩,⟨[3,2,5,1,4],[3,11,16,18,28],31,1⟩,⟨[0,3,2,5,1,4],[0,3,11,16,18,28],31,1⟩]
 |3=>[
  ⟨[],[],7,0⟩,⟨[0],[0],7,0⟩,⟨[1],[2],7,0⟩,⟨[2],[4],7,0⟩,⟨[3],[3],7,0⟩,⟨[0,1],[0,2],7,0⟩,⟨[0,2],[0,4],7,0⟩,⟨[0,3],[0,3],7,0⟩,⟨[1,2],[2,4],7,0⟩,⟨[1,3],[2,3],7,0⟩,⟨[3,2],[3,4],7,0⟩,
  ⟨[0,1,2],[0,2,4],7,0⟩,⟨[0,1,3],[0,2,3],7,0⟩,⟨[0,3,2],[0,3,4],7,0⟩,⟨[1,3,2],[2,3,4],7,0⟩,⟨[0,1,3,2],[0,2,3,4],7,0⟩]
 |_=>[]
noncomputable def P9:Nat→List (List Nat)
 |1=>[[1,2,3,4],[0,5,6,7],[5,0,8,9],[6,8,0,10],[7,9,10,0],[0,0,11,12],[0,11,0,13],[0,12,13,0],[11,0,0,14],[12,0,14,0],[13,14,0,0],[0,0,0,15],[0,0,15,0],[0,15,0,0],[15,0,0,0],
  [0,0,0,0]]
 |2=>[[1,2,3,4,5,6],[0,7,8,9,10,11],[7,0,12,13,14,15],[8,12,0,16,17,18],[9,13,19,0,20,21],[10,14,17,20,0,22],[23,15,18,21,22,0],[0,0,24,25,26,27],[0,24,0,28,29,30],
  [0,25,31,0,32,33],[0,26,29,32,0,34],[0,27,30,33,35,0],[24,0,0,36,37,38],[25,0,39,0,40,41],[26,0,37,40,0,42],[43,0,38,41,42,0],[28,44,0,0,45,46],[29,37,0,45,0,47],
  [48,38,0,46,47,0],[31,39,0,0,49,50],[32,40,49,0,0,51],[52,41,50,0,51,0],[53,42,47,51,0,0],[0,43,48,52,53,0],[0,0,0,54,55,56],[0,0,57,0,58,59],[0,0,55,58,0,60],
  [0,0,56,59,61,0],[0,62,0,0,63,64],[0,55,0,63,0,65],[0,56,0,64,66,0],[0,57,0,0,67,68],[0,58,67,0,0,69],[0,59,68,0,70,0],[0,60,71,72,0,0],[0,61,66,70,0,0],
  [73,0,0,0,74,75],[55,0,0,74,0,76],[77,0,0,78,76,0],[57,0,0,0,79,80],[58,0,79,0,0,81],[82,0,80,0,81,0],[83,0,76,81,0,0],[0,0,77,82,83,0],[62,0,0,0,84,85],
  [63,84,0,0,0,86],[87,85,0,0,86,0],[88,76,0,86,0,0],[0,77,0,87,88,0],[67,79,0,0,0,89],[90,80,0,0,89,0],[91,81,89,0,0,0],[0,82,92,0,91,0],[0,83,88,91,0,0],
  [0,0,0,0,93,94],[0,0,0,93,0,95],[0,0,0,94,95,0],[0,0,0,0,93,94],[0,0,93,0,0,96],[0,0,94,0,96,0],[0,0,95,96,0,0],[0,0,95,96,0,0],[0,0,0,0,93,94],[0,93,0,0,0,97],
  [0,94,0,0,97,0],[0,95,0,97,0,0],[0,95,0,97,0,0],[0,93,0,0,0,97],[0,94,0,0,97,0],[0,96,97,0,0,0],[0,96,97,0,0,0],[0,95,0,97,0,0],[0,96,97,0,0,0],[0,0,0,0,93,94],
  [93,0,0,0,0,98],[94,0,0,0,98,0],[95,0,0,98,0,0],[0,0,0,94,95,0],[94,0,0,0,98,0],[93,0,0,0,0,98],[94,0,0,0,98,0],[96,0,98,0,0,0],[0,0,94,0,96,0],[0,0,95,96,0,0],
  [93,0,0,0,0,98],[94,0,0,0,98,0],[97,98,0,0,0,0],[0,94,0,0,97,0],[0,95,0,97,0,0],[97,98,0,0,0,0],[0,94,0,0,97,0],[0,96,97,0,0,0],[0,94,0,0,97,0],[0,0,0,0,0,99],
  [0,0,0,0,99,0],[0,0,0,99,0,0],[0,0,99,0,0,0],[0,99,0,0,0,0],[99,0,0,0,0,0],[0,0,0,0,0,0]]
 |3=>[[1,2,3,4],[0,5,6,7],[5,0,8,9],[6,8,0,10],[7,9,10,0],[0,0,11,12],[0,11,0,13],[0,12,13,0],[11,0,0,14],[12,0,14,0],[13,14,0,0],[0,0,0,15],[0,0,15,0],[0,15,0,0],[15,0,0,0],
  [0,0,0,0]]
 |_=>[]
noncomputable def F9(o:Option SetTable.Met):Option (Nat×Nat×ip):=o.bind λ m=>SetTable.Met.rec (motive:= λ _=>Option (Nat×Nat×ip)) (λ _ _=>none) (λ j i p=>some (j,i,p)) m
noncomputable def MG(hs:List Int)(st:TS)(x:Nat):Bool:=(F9 ((st.tab true).probe (zj hs st.ids) (hs.getD x 0) ((st.tab true).probeStart (hs.getD x 0)))).any λ p=>st.ids[p.2.1]? ==some x
noncomputable def Ja(hs:List Int)(L:List TS)(m:Nat)(st:TS)(tr:List Nat):Bool:=(aw m).all λ x=>if st.ids.contains x then MG hs st x else(st.add hs x).any λ y=>L[tr.getD x 0]? ==some y&&y.ids.isPerm (x::st.ids)
noncomputable def Jb(st:TS):Bool:=(aw (st.ids.length+1)).all λ i=>b7 st.place.toArray (if i=0 then 0 else st.place.getD (i-1) 0+1)==i
noncomputable def I_(m:Nat)(st:TS):Bool:=st.place.length==st.ids.length&&decide (st.ids.length≤st.mask)&&decide (st.ids.length≤6)&&st.mask%2==1&&st.ids.all (λ x=>decide (x<m))&&Jb st
noncomputable def nS(k:Nat):Bool:=((l4 k).zip (P9 k)).all (λ p=>Ja (nQ k) (l4 k) (j_ k).length p.1 p.2&&I_ (j_ k).length p.1)&&(l4 k).length==(P9 k).length
theorem Kb:nS 1=true:=by decide +kernel
theorem J_:nS 3=true:=by decide +kernel
theorem Ka:nS 2=true:=by decide +kernel
section
set_option backward.match.sparseCases false
noncomputable def fR(k x:Nat):List Nat:=(j_ k).getD x []
noncomputable def bM(O:List Addr)(h:Heap):List (Int×ag)→List (List Nat)→Prop
 |[],[]=>True
 |e::es,c::cs=>e.1=gw c∧(∃b vs,e.2=.ref b∧b∉O∧lP h b vs.toArray∧fb vs (c.map qT))∧bM O h es cs
 |_,_=>False
inductive D where
 |none
 |bool (b:Bool)
 |int (i:Int)
 |str (s:Str)
 |tup (ds:List D)
 |lst (ds:List D)
 |dm (xs:List Nat)
 |k8 (k:Nat) (st:TS)
 |inst (c:Addr) (fs:List (Str×D))
 |dK (sN:List (Int×D))
 |D7 (a b:Int)
 |lit (v:ag)
 |any
noncomputable abbrev EB(vs:List ag)(n:Nat):Obj:={cls:=.type "tuple",data:=.seq vs.toArray n}
noncomputable abbrev bP(vs:List ag)(n:Nat):Obj:={cls:=.type "list",data:=.seq vs.toArray n}
noncomputable abbrev ib(c dx:Addr):Obj:={cls:=.ref c,dict:=some dx,data:=.plain}
noncomputable abbrev ik(es:Array cT)(n:Nat):Obj:={cls:=.type "dict",data:=.dict es n}
noncomputable abbrev cR(es:Array (Int×ag))(n:Nat)(t:SetTable):Obj:={cls:=.type "set",data:=.set es n t}
noncomputable abbrev AQ(a b:Int)(t u v:Tok):Obj:={cls:=.type "range",dict:=none,data:=.fields #[.int a t,.int b u,.int 1 v],slots:= #[]}
noncomputable abbrev cN(w:a0):Bool:=w.params.followText "set-order"
noncomputable def dc(w:a0)(xs:List Nat):SetTable:={mask:=7,place:=xs.toArray,dummies:= #[],finger:=0,led:= !cN w,moves:=0,plain:=true}
noncomputable def aT(xs:List Nat)(ts:List Tok):List (Int×ag):=(xs.zip ts).map λ p=>((p.1:Int),nG (p.1:Int) p.2)
noncomputable def qB(o:Obj):Bool:=match o.cls,o.data with
 |.none,.fields _=>true
 |_,_=>false
theorem cP{o:Obj}{es n}(h:o.data=.dict es n):qB o=false:=by
 obtain⟨cl,d,dt,sl⟩:=o;simp only at h;subst h;cases cl<;>rfl
theorem za{o:Obj}{v}(h:o.data=.cell v):qB o=false:=by
 obtain⟨cl,d,dt,sl⟩:=o;simp only at h;subst h;cases cl<;>rfl
theorem c0{o:Obj}{vs n}(h:o.data=.seq vs n):qB o=false:=by
 obtain⟨cl,d,dt,sl⟩:=o;simp only at h;subst h;cases cl<;>rfl
theorem bU{o:Obj}(h:o.cls≠.none):qB o=false:=by
 obtain⟨cl,d,dt,sl⟩:=o;cases cl<;>first|rfl|exact absurd rfl h
mutual
noncomputable def bh(w:a0)(O:List Addr)(h:Heap):ag→D→Prop
 |v,.none=>v=.none
 |v,.bool b=>v=.bool b
 |v,.int i=>∃t,v=.int i t
 |v,.str x=>∃t,v=.str x t
 |v,.tup ds=>∃a vs,v=.ref a∧a∉O∧lP h a vs.toArray∧a7 w O h vs ds
 |v,.lst ds=>∃a vs,v=.ref a∧a∉O∧eC h a vs.toArray∧a7 w O h vs ds
 |v,.dm xs=>∃a ts n,v=.ref a∧a∉O∧h.get? a=some (cR (aT xs ts).toArray n (dc w xs))∧ts.length=xs.length∧xs.Sublist [0,1,2,3]
 |v,.k8 k st=>∃a es n,v=.ref a∧a∉O∧h.get? a=some (cR es n (st.tab !cN w))∧st∈l4 k∧bM O h es.toList (st.ids.map (fR k))
 |v,.inst c fs=>∃a dx es n ps,v=.ref a∧a∉O∧dx∉O∧h.get? a=some (ib c dx)∧h.get? dx=some (dictOf es n)∧(∀x,getL x es=some (ps.lookup x))∧eA w O h ps fs
 |v,.dK sN=>∃a f ps,v=.ref a∧a∉O∧h.IntMap a f∧(∀k v,ps.lookup k=some v→f k=some v)∧lM w O h ps sN
 |v,.D7 x y=>∃a t u t',v=.ref a∧a∉O∧h.get? a=some (AQ x y t u t')
 |v,.lit u=>v=u
 |_,.any=>True
noncomputable def a7(w:a0)(O:List Addr)(h:Heap):List ag→List D→Prop
 |[],[]=>True
 |v::vs,d::ds=>bh w O h v d∧a7 w O h vs ds
 |_,_=>False
noncomputable def eA(w:a0)(O:List Addr)(h:Heap):List (Str×ag)→List (Str×D)→Prop
 |[],[]=>True
 |p::ps,q::qs=>p.1=q.1∧bh w O h p.2 q.2∧eA w O h ps qs
 |_,_=>False
noncomputable def lM(w:a0)(O:List Addr)(h:Heap):List (Int×ag)→List (Int×D)→Prop
 |[],[]=>True
 |p::ps,q::qs=>p.1=q.1∧bh w O h p.2 q.2∧lM w O h ps qs
 |_,_=>False
end
section
variable {w:a0}{O:List Addr}{h:Heap}{v:ag}{M:ag→Prop}
@[elab_as_elim] theorem bh.ek {i:Int} (r:bh w O h v (.int i)) (k:∀t,M (.int i t)):M v:=by obtain⟨t,rfl⟩:=r;exact k t
@[elab_as_elim] theorem bh.rg {x:Str} (r:bh w O h v (.str x)) (k:∀t,M (.str x t)):M v:=by obtain⟨t,rfl⟩:=r;exact k t
@[elab_as_elim] theorem bh.qh {ds:List D} (r:bh w O h v (.tup ds)) (k:∀a vs,a∉O→lP h a vs.toArray→a7 w O h vs ds→M (.ref a)):M v:=by obtain⟨a,vs,rfl,e,f,g⟩:=r;exact k a vs e f g
@[elab_as_elim] theorem bh.n6 {ds:List D} (r:bh w O h v (.lst ds)) (k:∀a vs,a∉O→eC h a vs.toArray→a7 w O h vs ds→M (.ref a)):M v:=by obtain⟨a,vs,rfl,e,f,g⟩:=r;exact k a vs e f g
@[elab_as_elim] theorem bh.sj {xs:List Nat} (r:bh w O h v (.dm xs)) (k:∀a (ts:List Tok) n,a∉O→h.get? a=some (cR (aT xs ts).toArray n (dc w xs))→ts.length=xs.length→xs.Sublist [0,1,2,3]→M (.ref a)):M v:=by obtain⟨a,ts,n,rfl,e,f,g,i⟩:=r;exact k a ts n e f g i
@[elab_as_elim] theorem bh.yn {j:Nat} {st:TS} (r:bh w O h v (.k8 j st)) (k:∀a es n,a∉O→h.get? a=some (cR es n (st.tab !cN w))→st∈l4 j→bM O h es.toList (st.ids.map (fR j))→M (.ref a)):M v:=by obtain⟨a,es,n,rfl,e,f,g,i⟩:=r;exact k a es n e f g i
@[elab_as_elim] theorem bh.qE {c:Addr} {fs:List (Str×D)} (r:bh w O h v (.inst c fs)) (k:∀a dx es n ps,a∉O→dx∉O→h.get? a=some (ib c dx)→h.get? dx=some (dictOf es n)→(∀x,getL x es=some (ps.lookup x))→eA w O h ps fs→M (.ref a)):M v:=by
 obtain⟨a,dx,es,n,ps,rfl,e,f,g,i,j,l⟩:=r;exact k a dx es n ps e f g i j l
@[elab_as_elim] theorem bh.Cc {sN:List (Int×D)} (r:bh w O h v (.dK sN)) (k:∀a f ps,a∉O→h.IntMap a f→(∀k v,ps.lookup k=some v→f k=some v)→lM w O h ps sN→M (.ref a)):M v:=by obtain⟨a,f,ps,rfl,e,g,i,j⟩:=r;exact k a f ps e g i j
@[elab_as_elim] theorem bh.EW {x y:Int} (r:bh w O h v (.D7 x y)) (k:∀a t u t',a∉O→h.get? a=some (AQ x y t u t')→M (.ref a)):M v:=by obtain⟨a,t,u,t',rfl,e,f⟩:=r;exact k a t u t' e f
end
structure Kept(O:List Addr)(h h':Heap):Prop where
 size:h.objs.size≤h'.objs.size
 get:∀a o,a∉O→h.get? a=some o→qB o=false→h'.get? a=some o
theorem Kept.refl(O:List Addr)(h:Heap):Kept O h h:=⟨az _,λ z z z e z=>e⟩
theorem Kept.mono{O O':List Addr}{h h':Heap}(x:Kept O h h')(hs:∀a∈O,a∈O'∨h.objs.size≤a):Kept O' h h':=
 ⟨x.size,λ a o ha e hc=>x.get a o (λ hm=>(hs a hm).elim ha λ hl=>ak _ (ab (aI e) hl)) e hc⟩
section
variable {w:a0}{O O':List Addr}{h h':Heap}
theorem IsTup.lt{a:Addr}{vs:Array ag}(t:lP h a vs):a<h.objs.size:=cW t λ z ho z=>aI ho
theorem lP.kept(K:Kept O h h'){a:Addr}{vs:Array ag}(ha:a∉O)(t:lP h a vs):lP h' a vs:=nN t λ o ho hc n hd=>⟨o,K.get _ _ ha ho (c0 hd),hc,n,hd⟩
noncomputable abbrev JW(O:List Addr)(h:Heap)(e:Int×ag)(c:List Nat):Prop:=e.1=gw c∧∃b vs,e.2=.ref b∧b∉O∧lP h b vs.toArray∧fb vs (c.map qT)
@[elab_as_elim] theorem bM.ind {M:List (Int×ag)→List (List Nat)→Prop} {vs:List (Int×ag)} {ds:List (List Nat)} (r:bM O h vs ds) (m0:M [] []) (m1:∀v vs d ds,JW O h v d→bM O h vs ds→M vs ds→M (v::vs) (d::ds)):M vs ds:=by
 induction vs generalizing ds with
 |nil=>cases ds with|nil=>exact m0|cons=>exact r.elim
 |cons v vs ih=>cases ds with|nil=>exact r.elim|cons d ds=>exact m1 v vs d ds ⟨r.1,r.2.1⟩ r.2.2 (ih r.2.2)
theorem bM.kept(K:Kept O h h')(hs:∀a∈O',a∈O∨h.objs.size≤a){es:List (Int×ag)}{cs:List (List Nat)}(r:bM O h es cs):bM O' h' es cs:=
 r.ind trivial λ e es c cs r z ih=>⟨r.1,ez r.2 λ b vs e2 zh=>jH zh λ hb ht hi=>⟨b,vs,e2,λ hm=>(hs b hm).elim hb λ hl=>ak _ (ab (IsTup.lt ht) hl),lP.kept K hb ht,hi⟩,ih⟩
mutual
theorem bh.kept(K:Kept O h h')(hs:∀a∈O',a∈O∨h.objs.size≤a):∀{d:D} {v:ag},bh w O h v d→bh w O' h' v d
 |.none,v,r=>r
 |.bool b,v,r=>r
 |.int i,v,r=>r
 |.str x,v,r=>r
 |.tup ds,v,r=>by
  refine bL r ?_;clear r;intro a vs e ha y1 q;exact⟨a,vs,e,λ hm=>(hs a hm).elim ha λ hl=>ak _ (ab (IsTup.lt y1) hl),lP.kept K ha y1,a7.kept K hs q⟩
 |.lst ds,v,r=>by
  refine bL r ?_;clear r;intro a vs e ha y1 q;refine bL y1 ?_;clear y1;intro o n ho hc xG hd;exact⟨a,vs,e,λ hm=>(hs a hm).elim ha λ hl=>ak _ (ab (aI ho) hl),⟨o,n,K.get _ _ ha ho (c0 hd),hc,xG,hd⟩,a7.kept K hs q⟩
 |.dm xs,v,r=>by
  refine cI r ?_;clear r;intro a ts n e ha ho q;exact⟨a,ts,n,e,λ hm=>(hs a hm).elim ha λ hl=>ak _ (ab (aI ho) hl),K.get _ _ ha ho (bU (by simp)),q⟩
 |.k8 k st,v,r=>by
  refine lB r ?_;clear r;intro a es n e zh;refine b_ zh ?_;clear zh;intro ha ho kt q;exact⟨a,es,n,e,λ hm=>(hs a hm).elim ha λ hl=>ak _ (ab (aI ho) hl),K.get _ _ ha ho (bU (by simp)),kt,bM.kept K hs q⟩
 |.inst c fs,v,r=>by
  refine iz r ?_;clear r;intro a dx zh;refine cI zh ?_;clear zh;intro es n ps e ha hx zh;refine b_ zh ?_;clear zh;intro ho UE hm q;exact⟨a,dx,es,n,ps,e,λ hm=>(hs a hm).elim ha λ hl=>ak _ (ab (aI ho) hl),
   λ hm=>(hs dx hm).elim hx λ hl=>ak _ (ab (aI UE) hl),K.get _ _ ha ho (bU (by simp)),K.get _ _ hx UE (cP rfl),hm,eA.kept K hs q⟩
 |.dK sN,v,r=>by
  refine lB r ?_;clear r;intro a f ps e zh;refine b_ zh ?_;clear zh;intro ha y1 hm q;refine cI y1 ?_;clear y1;intro o es ep ho hc hd hr;exact⟨a,f,ps,e,λ hm=>(hs a hm).elim ha λ hl=>ak _ (ab (aI ho) hl),⟨o,es,ep,K.get _ _ ha ho (cP hd),hc,hd,hr⟩,hm,lM.kept K hs q⟩
 |.D7 x y,v,r=>by
  refine xe r ?_;clear r;intro a zh;refine c8 zh ?_;clear zh;intro t u t' e ha ho;exact⟨a,t,u,t',e,λ hm=>(hs a hm).elim ha λ hl=>ak _ (ab (aI ho) hl),K.get _ _ ha ho (bU (by simp))⟩
 |.lit u,v,r=>r
 |.any,v,r=>by trivial
theorem a7.kept(K:Kept O h h')(hs:∀a∈O',a∈O∨h.objs.size≤a):∀{ds:List D} {vs:List ag},a7 w O h vs ds→a7 w O' h' vs ds
 |[],[],_=>by trivial
 |d::ds,v::vs,r=>by
  exact⟨bh.kept K hs r.1,a7.kept K hs r.2⟩
 |[],_::_,r=>r.elim
 |_::_,[],r=>r.elim
theorem eA.kept(K:Kept O h h')(hs:∀a∈O',a∈O∨h.objs.size≤a):∀{ds:List (Str×D)} {vs:List (Str×ag)},eA w O h vs ds→eA w O' h' vs ds
 |[],[],_=>by trivial
 |d::ds,v::vs,r=>by
  exact⟨r.1,bh.kept K hs r.2.1,eA.kept K hs r.2.2⟩
 |[],_::_,r=>r.elim
 |_::_,[],r=>r.elim
theorem lM.kept(K:Kept O h h')(hs:∀a∈O',a∈O∨h.objs.size≤a):∀{ds:List (Int×D)} {vs:List (Int×ag)},lM w O h vs ds→lM w O' h' vs ds
 |[],[],_=>by trivial
 |d::ds,v::vs,r=>by
  exact⟨r.1,bh.kept K hs r.2.1,lM.kept K hs r.2.2⟩
 |[],_::_,r=>r.elim
 |_::_,[],r=>r.elim
end
section
variable {w:a0}{O:List Addr}{h:Heap}
@[elab_as_elim] theorem a7.ind {M:List ag→List D→Prop} {vs:List ag} {ds:List D} (r:a7 w O h vs ds) (m0:M [] []) (m1:∀v vs d ds,bh w O h v d→a7 w O h vs ds→M vs ds→M (v::vs) (d::ds)):M vs ds:=by
 induction vs generalizing ds with
 |nil=>cases ds with|nil=>exact m0|cons=>exact r.elim
 |cons v vs ih=>cases ds with|nil=>exact r.elim|cons d ds=>exact m1 v vs d ds r.1 r.2 (ih r.2)
@[elab_as_elim] theorem eA.ind {M:List (Str×ag)→List (Str×D)→Prop} {vs:List (Str×ag)} {ds:List (Str×D)} (r:eA w O h vs ds) (m0:M [] []) (m1:∀x v vs d ds,bh w O h v d→eA w O h vs ds→M vs ds→M ((x,v)::vs) ((x,d)::ds)):M vs ds:=by
 induction vs generalizing ds with
 |nil=>cases ds with|nil=>exact m0|cons=>exact r.elim
 |cons v vs ih=>cases ds with|nil=>exact r.elim|cons d ds=>obtain⟨x,v⟩:=v;obtain⟨y,d⟩:=d;obtain rfl:x=y:=r.1;exact m1 x v vs d ds r.2.1 r.2.2 (ih r.2.2)
@[elab_as_elim] theorem lM.ind {M:List (Int×ag)→List (Int×D)→Prop} {vs:List (Int×ag)} {ds:List (Int×D)} (r:lM w O h vs ds) (m0:M [] []) (m1:∀x v vs d ds,bh w O h v d→lM w O h vs ds→M vs ds→M ((x,v)::vs) ((x,d)::ds)):M vs ds:=by
 induction vs generalizing ds with
 |nil=>cases ds with|nil=>exact m0|cons=>exact r.elim
 |cons v vs ih=>cases ds with|nil=>exact r.elim|cons d ds=>obtain⟨x,v⟩:=v;obtain⟨y,d⟩:=d;obtain rfl:x=y:=r.1;exact m1 x v vs d ds r.2.1 r.2.2 (ih r.2.2)
end
end
end
structure Cx where
 prog:Program
 w:a0
 K:Frag
 mg:Str→Option ag
 mb:Str→Option ag
 bm:Addr
 ob:Obj
 tabs:List (Addr×Addr)
 B:Nat
structure TZ(c:Cx):Prop where
 mg:∀x v,nsIn c.K mainGlobals x=some v→c.mg x=v
 mb:∀x:Str,x≠ "__name__" →c.mb x=bootBuiltins x
 bm:c.mg "__builtins__"=some (.ref c.bm)
 bne:c.bm≠builtinsNs
 M8:c.ob.cls=.type "module"
 M6:c.ob.dict=some builtinsNs
 M7:c.ob.data=.plain
 KQ:∀a o,c.K.lookup a=some o→a<c.B
 V0:∀a o,c.K.lookup a=some o→qB o=false
 H8:cStatics<c.B∧mainGlobals<c.B∧builtinsNs<c.B∧c.bm<c.B
 KP:∀p∈c.tabs,p.1<c.B∧p.2<c.B
structure bF(c:Cx)(s:ae):Prop where
 ok:TZ c
 fY:c.K.In s.heap
 nolimit:s.heap.NoLimit
 g:s.heap.Ns mainGlobals c.mg
 b:s.heap.Ns builtinsNs c.mb
 mod:s.heap.get? c.bm=some c.ob
 tab:∀p∈c.tabs,∃ps,s.heap.IsCode p.1 p.2 ps∧s.heap.TableAt p.1 p.2 ps
 bare:AllBare s.gens
 size:c.B≤s.heap.objs.size
structure aB(c:Cx)(O:List Addr)(G:List Nat)(s s':ae):Prop where
 size:s.heap.objs.size≤s'.heap.objs.size
 keep:∀a o,a∉O→s.heap.get? a=some o→qB o=false→s'.heap.get? a=some o
 tab:∀a o,s.heap.get? a=some o→qB o=true→s'.heap.get? a=some o∨((∃p∈c.tabs,p.2=a)∧∃vs more,o=tabObj vs∧s'.heap.get? a=some (tabObj (vs++more)))
 gens:∀g x,g∉G→s.gens[g]? =some x→s'.gens[g]? =some x
 dv:s.gens.size≤s'.gens.size
 os:s'.os=s.os
theorem aB.refl(c:Cx)(O:List Addr)(G:List Nat)(s:ae):aB c O G s s:=
 ⟨az _,λ z z z e z=>e,λ z z e z=>.inl e,λ z z z e=>e,az _,rfl⟩
theorem aB.trans{c:Cx}{O:List Addr}{G:List Nat}{s s' k_:ae}(x:aB c O G s s')(y:aB c O G s' k_):aB c O G s k_ where
 size:=af x.size y.size
 keep:= λ a o ha e ht=>y.keep a o ha (x.keep a o ha e ht) ht
 tab:= λ a o e ht=>by
  rcases x.tab a o e ht with e1|⟨hp,vs,more,rfl,e1⟩
  ·exact y.tab a o e1 ht
  ·rcases y.tab a _ e1 rfl with e2|⟨_,i6,Fi,e3,e2⟩
   ·exact .inr ⟨hp,vs,more,rfl,e2⟩
   ·have:i6=vs++more:=by injection e3 with _ _ h;injection h with h;exact h.symm
    subst this;exact .inr ⟨hp,vs,more++Fi,rfl,by rw[e2,Array.append_assoc]⟩
 gens:= λ g y' hg e=>y.gens g y' hg (x.gens g y' hg e)
 dv:=af x.dv y.dv
 os:=y.os.trans x.os
theorem rJ{s:ae}{g:Nat}{x:mh}(e:s.gens[g]? =some x):g<s.gens.size:=(Array.getElem?_eq_some_iff.mp e).1
theorem aB.mono{c:Cx}{O O':List Addr}{G G':List Nat}{s s':ae}(x:aB c O G s s')(hO:∀a∈O,a∈O'∨s.heap.objs.size≤a)(hG:∀g∈G,g∈G'∨s.gens.size≤g):aB c O' G' s s' where
 size:=x.size
 keep:= λ a o ha e ht=>x.keep a o (λ hm=>(hO a hm).elim ha λ hl=>ak _ (ab (aI e) hl)) e ht
 tab:=x.tab
 gens:= λ g y hg e=>x.gens g y (λ hm=>(hG g hm).elim hg λ hl=>ak _ (ab (rJ e) hl)) e
 dv:=x.dv
 os:=x.os
theorem aB.toks{c:Cx}{O:List Addr}{G:List Nat}{s s':ae}{t:Nat}(x:aB c O G s s'):aB c O G s {s' with toks:=t}:=⟨x.size,x.keep,x.tab,x.gens,x.dv,x.os⟩
theorem aB.of_keep{c:Cx}{O:List Addr}{G:List Nat}{s:ae}{h':Heap}{tk:Nat}(hs:s.heap.objs.size≤h'.objs.size)(hk:∀a o,a∉O→s.heap.get? a=some o→h'.get? a=some o)(hO:∀a∈O,∀o,s.heap.get? a=some o→qB o=false):aB c O G s {s with heap:=h',toks:=tk} where
 size:=hs
 keep:= λ a o ha e z=>hk a o ha e
 tab:= λ a o e ht=>.inl (hk a o (λ hm=>by rw[hO a hm o e]at ht;cases ht) e)
 gens:= λ z z z e=>e
 dv:=az _
 os:=rfl
theorem aB.push{c:Cx}{G:List Nat}{s:ae}{o:Obj}{tk:Nat}:aB c [] G s {s with heap:=s.heap.push o,toks:=tk}:=
 .of_keep (by rw[aW];exact bq _) (λ z z z e=>aA _ e) λ z=>nn
theorem aB.kept{c:Cx}{O:List Addr}{G:List Nat}{s s':ae}(x:aB c O G s s'):Kept O s.heap s'.heap:=
 ⟨x.size,λ a o ha e hc=>x.keep a o ha e hc⟩
theorem bF.at{c:Cx}{s:ae}{h':Heap}{tk:Nat}{O:List Addr}(S:bF c s)(hs:s.heap.objs.size≤h'.objs.size)(hk:∀a o,a∉O→s.heap.get? a=some o→h'.get? a=some o)(hl:∀a∈O,c.B≤a):
  bF c {s with heap:=h',toks:=tk}:=by
 have up:∀a o,a<c.B→s.heap.get? a=some o→h'.get? a=some o:= λ a o ha e=>hk a o (λ hm=>ak _ (ab ha (hl a hm))) e;have ns:∀a m,a<c.B→s.heap.Ns a m→h'.Ns a m:= λ a m ha hn=>hn.at' λ o e=>up a o ha e;refine⟨S.ok,λ a o e=>up a o (S.ok.KQ a o e) (S.fY a o e),?_,ns _ _ S.ok.H8.2.1 S.g,ns _ _ S.ok.H8.2.2.1 S.b,up _ _ S.ok.H8.2.2.2 S.mod,λ p hp=>?_,S.bare,af S.size hs⟩
 ·refine cW S.nolimit λ mc hn h0=>?_;exact⟨mc,ns _ _ S.ok.H8.1 hn,h0⟩
 ·refine cH (S.tab p hp) λ ps y1 y2 f3=>?_;refine xe y1 ?_;clear y1;intro o zh;refine iq zh ?_;clear zh;intro vs file tf zh;refine iq zh ?_;clear zh;intro flags tg NJ zh;refine c8 zh ?_;clear zh;intro text tt op e1 e2 zh;refine b_ zh ?_;clear zh;intro e3 e4 e5 zh;refine b_ zh ?_;clear zh;intro e6 e7 e8 r;refine ez y2 ?_;clear y2;intro o' i6 f1 f2;have l:=S.ok.KP p hp;exact⟨ps,⟨o,vs,file,tf,flags,tg,NJ,text,tt,op,up _ _ l.1 e1,e2,e3,e4,e5,e6,e7,up _ _ l.2 e8,r⟩,⟨⟨o',i6,up _ _ l.1 f1,f2⟩,up _ _ l.2 f3⟩⟩
theorem bF.toks{c:Cx}{s:ae}{tk:Nat}(S:bF c s):bF c {s with toks:=tk}:=⟨S.ok,S.fY,S.nolimit,S.g,S.b,S.mod,S.tab,S.bare,S.size⟩
theorem bF.push{c:Cx}{s:ae}{o:Obj}{tk:Nat}(S:bF c s):bF c {s with heap:=s.heap.push o,toks:=tk}:=
 S.at (O:=[]) (by rw[aW];exact bq _) (λ z z z e=>aA _ e) λ z=>nn
structure Rm(A:aK)(n:Nat):Prop where
 handled:A.handled=none
 depth:A.depth+n<recursionLimit
 units:A.units+20*n<cLine
theorem Rm.le{A:aK}{n m:Nat}(x:Rm A n)(h:m≤n):Rm A m:=⟨x.handled,b8 (ef h _) x.depth,b8 (ef (rY 20 h) _) x.units⟩
theorem Rm.in1{A:aK}{n:Nat}(x:Rm A (n+1)):Rm A.in1 n:=⟨x.handled,by have:=x.depth;show A.depth+n<_;exact bV this,uj (by decide) x.units⟩
theorem Rm.deeper{A:aK}{n:Nat}{env:Env}(x:Rm A (n+1)):Rm (A.deeper env) n:=⟨x.handled,by have:=x.depth;show A.depth+1+n<_;exact GX this,uj (by decide) x.units⟩
theorem Rm.d0{A:aK}{n:Nat}(x:Rm A n):A.depth<recursionLimit:=by have:=x.depth;exact IZ this
theorem Rm.u0{A:aK}{n:Nat}(x:Rm A n):A.units<cLine:=by have:=x.units;exact IZ this
structure VE where
 env:Env
 vn:List Str
 k:Nat
structure QN(E:VE):Prop where
 kind:E.env.scope.kind=.function
 glob:E.env.globals=mainGlobals
 blt:E.env.builtins=builtinsNs
 nodup:E.vn.Nodup
 var:∀x∈E.vn,E.env.kindOf x=some .local∨((E.env.kindOf x=some .cell∨E.env.kindOf x=some .free)∧∃a,E.env.cells.lookup x=some a)
 bind:∀i x,i<E.k→E.vn[i]? =some x→E.env.kindOf x≠some .free
 apart:E.env.cells.Pairwise λ x y=>x.2≠y.2
 Rl:∀p∈E.env.cells,p.2≠E.env.locals
 JM:∀x∈E.vn,(x==("__debug__":Str))=false∧(x==("__classdict__":Str))=false
inductive OD where
 |lst (ds:List D)
 |dm (xs:List Nat)
 |k8 (k:Nat) (st:TS)
 |dK (n:Nat) (sN:List (Int×D))
 |inst (at_:Option Addr) (c:Addr) (fs:List (Str×D))
 |kc (at_:Option Addr) (c:Addr) (fs:List (Str×D)) (x:Str) (ds:List D)
 |raw (P:List Addr→Heap→ag→List Addr→Prop)
inductive Sl where
 |no
 |val (d:D)
 |own (m:Bool) (q:OD)
noncomputable def cS(c:Cx)(O:List Addr)(h:Heap)(v:ag):OD→List Addr→Prop
 |.lst ds,fp=>∃a vs,v=.ref a∧fp=[a]∧eC h a vs.toArray∧a7 c.w O h vs ds
 |.dm xs,fp=>∃a ts n,v=.ref a∧fp=[a]∧h.get? a=some (cR (aT xs ts).toArray n (dc c.w xs))∧ts.length=xs.length∧xs.Sublist [0,1,2,3]
 |.k8 k st,fp=>∃a es n,v=.ref a∧fp=[a]∧h.get? a=some (cR es n (st.tab !cN c.w))∧st∈l4 k∧bM O h es.toList (st.ids.map (fR k))
 |.dK n sN,fp=>∃a f ps,v=.ref a∧fp=[a]∧h.IntMap a f∧h.DictLe a n∧(∀k v,ps.lookup k=some v→f k=some v)∧lM c.w O h ps sN
 |.inst u k fs,fp=>∃a dx es n ps,v=.ref a∧fp=[a,dx]∧(∀b,u=some b→a=b)∧a≠dx∧h.get? a=some (ib k dx)∧h.get? dx=some (dictOf es n)∧es.length≤fs.length∧(∀x,getL x es=some (ps.lookup x))∧eA c.w O h ps fs
 |.kc u k fs y ds,fp=>∃a dx l es n ps vs,v=.ref a∧fp=[a,dx,l]∧(∀b,u=some b→a=b)∧a≠dx∧a≠l∧dx≠l∧h.get? a=some (ib k dx)∧h.get? dx=some (dictOf es n)∧es.length≤fs.length+1∧
   (∀x,getL x es=some (if x=y then some (.ref l)else ps.lookup x))∧eA c.w O h ps fs∧eC h l vs.toArray∧a7 c.w O h vs ds
 |.raw P,fp=>P O h v fp∧∀O' h',Kept O h h'→(∀a∈O',a∈O∨h.objs.size≤a)→(∀a∈fp,∀o,h.get? a=some o→h'.get? a=some o)→P O' h' v fp
noncomputable def Bound(h:Heap)(env:Env)(x:Str)(v:ag):Prop:=
 (env.kindOf x=some .local→∃m,h.Ns env.locals m∧m x=some v)∧(env.kindOf x≠some .local→∃a,env.cells.lookup x=some a∧h.IsCell a (some v))
structure dH where
 s:ae
 O:List Addr
 N:List Addr
 W:List Addr
 G:List Nat
noncomputable def BC(β:dH)(a:Addr):Prop:=a∈β.W∨β.s.heap.objs.size≤a
noncomputable def G1(c:Cx)(E:VE)(β:dH)(O:List Addr)(s:ae):Sl→Str→List Addr→Prop
 |.no,_,fp=>fp=[]
 |.val d,x,fp=>fp=[]∧∃v,Bound s.heap E.env x v∧bh c.w O s.heap v d
 |.own m q,x,fp=>∃v,Bound s.heap E.env x v∧cS c O s.heap v q fp∧∀a∈fp,a∈O∧a≠E.env.locals∧(∀p∈E.env.cells,p.2≠a)∧(m=true→BC β a)∧a∉β.O∧a<s.heap.objs.size
structure Inv(c:Cx)(E:VE)(β:dH)(O:List Addr)(ad:Nat→List Addr)(ρ:List Sl)(s:ae):Prop where
 ok:QN E
 br:bF c s
 grow:aB c β.W β.G β.s s
 lt:∀a∈O,a<s.heap.objs.size
 low:∀a∈O,c.B≤a
 sub:∀a∈β.O,a∈O
 n7:∀a∈β.O,a<β.s.heap.objs.size
 new:∀a∈O,a∈β.N∨β.s.heap.objs.size≤a
 ns:∃m,s.heap.Ns E.env.locals m
 cells:∀x∈E.vn,E.env.kindOf x≠some .local→∃a v,E.env.cells.lookup x=some a∧s.heap.IsCell a v
 uA:E.env.locals∈O
 ti:∀p∈E.env.cells,p.2∈O
 CF:BC β E.env.locals
 CG:∀i x a,i<E.k→E.vn[i]? =some x→E.env.kindOf x≠some .local→E.env.cells.lookup x=some a→BC β a
 vars:∀i x,E.vn[i]? =some x→G1 c E β O s (ρ.getD i .no) x (ad i)
 mE:∀i j,i≠j→∀a∈ad i,a∉ad j
 out:∀i,E.vn.length≤i→ad i=[]
section
variable {c:Cx}{O O' W:List Addr}{G:List Nat}{s s':ae}
theorem aB.ns(x:aB c O G s s'){a:Addr}{m}(ha:a∉O)(hn:s.heap.Ns a m):s'.heap.Ns a m:=by
 refine c8 hn ?_;clear hn;intro o es ep ho hd r;exact⟨o,es,ep,x.keep a o ha ho (cP hd),hd,r⟩
theorem aB.cell(x:aB c O G s s'){a:Addr}{v}(ha:a∉O)(hn:s.heap.IsCell a v):s'.heap.IsCell a v:=by
 refine cW hn ?_;clear hn;intro o ho hd;exact⟨o,x.keep a o ha ho (za hd),hd⟩
noncomputable abbrev nL(O O':List Addr)(s:ae):Prop:=∀a∈O',a∈O∨s.heap.objs.size≤a
noncomputable abbrev tu(W O:List Addr)(s:ae):Prop:=∀a∈W,a∈O∨s.heap.objs.size≤a
theorem nL.refl(O:List Addr)(s:ae):nL O O s:= λ z h=>.inl h
theorem Kept.ok(x:aB c W G s s')(hW:tu W O s):Kept O s.heap s'.heap:=x.kept.mono hW
theorem aB.rep(x:aB c W G s s'){v:ag}{d:D}(hW:tu W O s)(hO:nL O O' s)(r:bh c.w O s.heap v d):bh c.w O' s'.heap v d:=bh.kept (Kept.ok x hW) hO r
theorem aB.fj(x:aB c W G s s'){v:List ag}{d:List D}(hW:tu W O s)(hO:nL O O' s)(r:a7 c.w O s.heap v d):a7 c.w O' s'.heap v d:=a7.kept (Kept.ok x hW) hO r
theorem aB.yJ(x:aB c W G s s'){v:List (Str×ag)}{d:List (Str×D)}(hW:tu W O s)(hO:nL O O' s)(r:eA c.w O s.heap v d):eA c.w O' s'.heap v d:=eA.kept (Kept.ok x hW) hO r
theorem aB.Kq(x:aB c W G s s'){v:List (Int×ag)}{d:List (Int×D)}(hW:tu W O s)(hO:nL O O' s)(r:lM c.w O s.heap v d):lM c.w O' s'.heap v d:=lM.kept (Kept.ok x hW) hO r
theorem aB.isList(x:aB c W G s s'){a:Addr}{vs}(hW:a∉W):s.heap.IsList a vs→s'.heap.IsList a vs:= λ w0=>by refine nN w0 ?_;clear w0;intro o ho hc n hd;exact⟨o,x.keep _ _ hW ho (c0 hd),hc,n,hd⟩
theorem aB.jh(x:aB c W G s s'){a:Addr}{vs}(hW:a∉W):eC s.heap a vs→eC s'.heap a vs:= λ w0=>bL w0 λ o n ho hc xG hd=>⟨o,n,x.keep _ _ hW ho (c0 hd),hc,xG,hd⟩
theorem aB.isTup(x:aB c W G s s'){a:Addr}{vs}(hW:a∉W):lP s.heap a vs→lP s'.heap a vs:= λ w0=>by refine nN w0 ?_;clear w0;intro o ho hc n hd;exact⟨o,x.keep _ _ hW ho (c0 hd),hc,n,hd⟩
theorem aB.intMap(x:aB c W G s s'){a:Addr}{f}(hW:a∉W):s.heap.IntMap a f→s'.heap.IntMap a f:= λ w0=>cI w0 λ o es ep ho hc hd r=>⟨o,es,ep,x.keep _ _ hW ho (cP hd),hc,hd,r⟩
theorem aB.FH(x:aB c W G s s'){a:Addr}{f n}(hW:a∉W):s.heap.IntMap a f→s.heap.DictLe a n→s'.heap.DictLe a n:= λ w0 hl=>by refine cI w0 ?_;clear w0;intro o es ep ho hc hd r;exact hl.of_same ho (x.keep _ _ hW ho (cP hd))
theorem aB.own(x:aB c W G s s'){v:ag}{q:OD}{fp:List Addr}(hW:tu W O s)(hO:nL O O' s)(hf:∀a∈fp,a∉W)(ht:∀a∈fp,∀o,s.heap.get? a=some o→qB o=false∨s'.heap.get? a=some o)(r:cS c O s.heap v q fp):cS c O' s'.heap v q fp:=by
 cases q with
 |lst ds=>exact bL r λ a vs z1 z2 e r=>⟨a,vs,z1,z2,x.jh (hf a (z2▸ .head _)) e,x.fj hW hO r⟩
 |dm xs=>exact cI r λ a ts n z1 z2 e r=>⟨a,ts,n,z1,z2,x.keep _ _ (hf a (z2▸ .head _)) e (bU nofun),r⟩
 |k8 k st=>exact cI r λ a es n z1 z2 e r=>⟨a,es,n,z1,z2,x.keep _ _ (hf a (z2▸ .head _)) e (bU nofun),r.1,bM.kept (Kept.ok x hW) hO r.2⟩
 |dK n sN=>exact cI r λ a f ps z1 z2 e r=>⟨a,f,ps,z1,z2,x.intMap (hf a (z2▸ .head _)) e,x.FH (hf a (z2▸ .head _)) e r.1,r.2.1,x.Kq hW hO r.2.2⟩
 |inst u k fs=>exact iq r λ a dx es zh=>bL zh λ n ps z1 z2 hu zh=>b_ zh λ ku e e' zh=>⟨a,dx,es,n,ps,z1,z2,hu,ku,x.keep _ _ (hf a (z2▸ .head _)) e (bU nofun),x.keep _ _ (hf dx (z2▸ .tail _ (.head _))) e' (cP rfl),zh.1,zh.2.1,x.yJ hW hO zh.2.2⟩
 |kc u k fs y ds=>exact iq r λ a dx l zh=>iq zh λ es n ps zh=>eG zh λ vs z1 z2 hu zh=>b_ zh λ h1 h2 h3 zh=>b_ zh λ e e' hz zh=>b_ zh λ hm r TB r'=>
  ⟨a,dx,l,es,n,ps,vs,z1,z2,hu,h1,h2,h3,x.keep _ _ (hf a (z2▸ .head _)) e (bU nofun),x.keep _ _ (hf dx (z2▸ .tail _ (.head _))) e' (cP rfl),hz,hm,x.yJ hW hO r,x.jh (hf l (z2▸ .tail _ (.tail _ (.head _)))) TB,x.fj hW hO r'⟩
 |raw P=>
  refine xa r ?_;clear r;intro p st;have h1:∀a∈fp,∀o,s.heap.get? a=some o→s'.heap.get? a=some o:= λ a ha o e=>(ht a ha o e).elim (λ ht=>x.keep _ _ (hf a ha) e ht) id;have Qp:=Kept.ok x hW;exact⟨st O' _ Qp hO h1,λ BA cM k₂ QV Tf=>st BA cM ⟨af Qp.1 k₂.1,λ a o ha e ht=>k₂.2 a o (λ hm=>(hO a hm).elim ha λ hl=>ak _ (ab (aI e) hl)) (Qp.2 a o ha e ht) ht⟩
   (λ a hm=>(QV a hm).elim (hO a) λ hl=>.inr (af Qp.1 hl)) λ a ha o e=>Tf a ha o (h1 a ha o e)⟩
theorem aB.bound(x:aB c W G s s'){E:VE}{y:Str}{v:ag}(hL:E.env.locals∉W)(hC:∀p∈E.env.cells,p.2∉W)(b:Bound s.heap E.env y v):Bound s'.heap E.env y v:=
 ⟨λ h=>let⟨m,hn,e⟩:=b.1 h; ⟨m,x.ns hL hn,e⟩,λ h=>let⟨a,e,hc⟩:=b.2 h; ⟨a,e,x.cell (hC _ (bu e)) hc⟩⟩
end
theorem aB.get(x:aB c W G s s'){a:Addr}{o:Obj}(hW:a∉W)(hT:∀p∈c.tabs,p.2≠a)(e:s.heap.get? a=some o):s'.heap.get? a=some o:=by
 cases ht:qB o with
 |false=>exact x.keep a o hW e ht
 |true=>
  rcases x.tab a o e ht with h|⟨⟨p,hp,h⟩,_⟩
  ·exact h
  ·exact absurd h (hT p hp)
theorem aB.comp{c:Cx}{W W':List Addr}{G G':List Nat}{s₀ s s':ae}(x:aB c W G s₀ s)(y:aB c W' G' s s')(hW:∀a∈W',a∈W∨s₀.heap.objs.size≤a)(hG:∀g∈G',g∈G∨s₀.gens.size≤g):aB c W G s₀ s' where
 size:=af x.size y.size
 keep:= λ a o ha e ht=>y.keep a o (λ hm=>(hW a hm).elim ha λ h=>ak _ (ab (aI e) h)) (x.keep a o ha e ht) ht
 tab:= λ a o e ht=>by
  rcases x.tab a o e ht with e1|⟨hp,vs,more,rfl,e1⟩
  ·exact y.tab a o e1 ht
  ·rcases y.tab a _ e1 rfl with e2|⟨_,i6,Fi,e3,e2⟩
   ·exact .inr ⟨hp,vs,more,rfl,e2⟩
   ·have:i6=vs++more:=by injection e3 with _ _ h;injection h with h;exact h.symm
    subst this;exact .inr ⟨hp,vs,more++Fi,rfl,by rw[e2,Array.append_assoc]⟩
 gens:= λ g z ha e=>y.gens g z (λ hm=>(hG g hm).elim ha λ h=>ak _ (ab (rJ e) h)) (x.gens g z ha e)
 dv:=af x.dv y.dv
 os:=y.os.trans x.os
section
variable {c:Cx}{E:VE}{β:dH}{O O' W:List Addr}{G:List Nat}{ad:Nat→List Addr}{ρ:List Sl}{s s':ae}
theorem Inv.Fc(I:Inv c E β O ad ρ s){a:Addr}(h:a∈O):∀p∈c.tabs,p.2≠a:= λ p hp e=>by
 have:=(I.br.ok.KP p hp).2;exact ak _ (ab this (e▸I.low a h))
theorem Inv.apart(I:Inv c E β O ad ρ s)(x:aB c W G s s')(S:bF c s')(hW:tu W O s)(hw:∀a∈W,BC β a)(hG:∀g∈G,g∈β.G∨β.s.gens.size≤g)(hL:E.env.locals∉W)(hC:∀p∈E.env.cells,p.2∉W)(hV:∀i,i<E.vn.length→∀a∈ad i,a∉W)(hO:∀a∈O',a∈O∨(s.heap.objs.size≤a∧a<s'.heap.objs.size))(hs:∀a∈O,a∈O'):Inv c E β O' ad ρ s' where
 ok:=I.ok
 br:=S
 grow:=I.grow.comp x hw hG
 lt:= λ a h=>(hO a h).elim (λ h=>ab (I.lt a h) x.size) And.right
 low:= λ a h=>(hO a h).elim (λ h=>I.low a h) λ h=>af I.br.size h.1
 sub:= λ a h=>hs a (I.sub a h)
 n7:=I.n7
 new:= λ a h=>(hO a h).elim (I.new a) λ h=>.inr (af I.grow.size h.1)
 ns:=let⟨m,hn⟩:=I.ns; ⟨m,x.ns hL hn⟩
 cells:= λ y hy hk=>let⟨a,v,e,hc⟩:=I.cells y hy hk; ⟨a,v,e,x.cell (hC _ (bu e)) hc⟩
 uA:=hs _ I.uA
 ti:= λ p h=>hs _ (I.ti p h)
 CF:=I.CF
 CG:=I.CG
 mE:=I.mE
 out:=I.out
 vars:= λ i y hi=>by
  have Dx:nL O O' s:= λ a h=>(hO a h).imp id And.left;have gy:=(ay.mp hi).1;have:=I.vars i y hi;cases hr:ρ.getD i .no with
  |no=>rw[hr]at this;exact this
  |val d=>
   rw[hr]at this;refine mn this ?_;clear this;intro e v b r;exact⟨e,v,x.bound hL hC b,x.rep hW Dx r⟩
  |own m q=>
   rw[hr]at this;refine cH this ?_;clear this;intro v b r k;exact⟨v,x.bound hL hC b,x.own hW Dx (hV i gy) (λ a ha o e=>.inr (x.get (hV i gy a ha) (I.Fc (k a ha).1) e)) r,
    λ a ha=>⟨hs _ (k a ha).1,(k a ha).2.1,(k a ha).2.2.1,(k a ha).2.2.2.1,(k a ha).2.2.2.2.1,ab (k a ha).2.2.2.2.2 x.size⟩⟩
theorem Inv.fT(I:Inv c E β O ad ρ s)(x:aB c [] [] s s')(S:bF c s'):Inv c E β O ad ρ s':=
 I.apart x S (λ z=>nn) (λ z=>nn) (λ z=>nn) (by simp) (by simp) (λ z z z z=>nn) (λ z h=>.inl h) λ z h=>h
theorem Inv.t5(I:Inv c E β O ad ρ s)(x:aB c [] [] s s')(S:bF c s')(hW:∀a∈W,s.heap.objs.size≤a∧a<s'.heap.objs.size):Inv c E β (W++O) ad ρ s':=
 I.apart x S (λ z=>nn) (λ z=>nn) (λ z=>nn) (by simp) (by simp) (λ z z z z=>nn) (λ a h=>(aC.mp h).elim (λ h=>.inr (hW a h)) .inl) λ z h=>ao _ h
structure Ok(c:Cx)(O:List Addr)(s:ae):Prop where
 br:bF c s
 lt:∀a∈O,a<s.heap.objs.size
 low:∀a∈O,c.B≤a
theorem Inv.o(I:Inv c E β O ad ρ s):Ok c O s:=⟨I.br,I.lt,I.low⟩
theorem Ok.fT(K:Ok c O s)(x:aB c W G s s')(S:bF c s'):Ok c O s':=⟨S,λ a h=>ab (K.lt a h) x.size,K.low⟩
theorem Ok.next(K:Ok c O s):s.heap.objs.size∉O:= λ h=>ak _ (K.lt _ h)
structure JV(c:Cx)(β jW:dH):Prop where
 grow:aB c β.W β.G β.s jW.s
 O:∀a∈β.O,a∈jW.O
 n7:∀a∈β.O,a<β.s.heap.objs.size
 N:∀a∈jW.N,a∈β.N∨β.s.heap.objs.size≤a
 W:∀a∈jW.W,BC β a
 G:∀g∈jW.G,g∈β.G∨β.s.gens.size≤g
theorem JV.may{jW:dH}(u:JV c β jW){a:Addr}(h:BC jW a):BC β a:=h.elim (u.W a) λ h=>.inr (af u.grow.size h)
theorem JV.up{jW:dH}(u:JV c β jW)(I:Inv c E jW O ad ρ s):Inv c E β O ad ρ s where
 ok:=I.ok
 br:=I.br
 grow:=u.grow.comp I.grow u.W u.G
 lt:=I.lt
 low:=I.low
 sub:= λ a h=>I.sub a (u.O a h)
 n7:=u.n7
 new:= λ a h=>(I.new a h).elim (u.N a) λ h=>.inr (af u.grow.size h)
 ns:=I.ns
 cells:=I.cells
 uA:=I.uA
 ti:=I.ti
 CF:=u.may I.CF
 CG:= λ i x a h1 h2 h3 h4=>u.may (I.CG i x a h1 h2 h3 h4)
 mE:=I.mE
 out:=I.out
 vars:= λ i y hi=>by
  have:=I.vars i y hi;cases hr:ρ.getD i .no with
  |no=>rw[hr]at this;exact this
  |val d=>rw[hr]at this;exact this
  |own m q=>
   rw[hr]at this;refine cH this ?_;clear this;intro v b r k;exact⟨v,b,r,λ a ha=>⟨(k a ha).1,(k a ha).2.1,(k a ha).2.2.1,λ hm=>u.may ((k a ha).2.2.2.1 hm),λ ho=>(k a ha).2.2.2.2.1 (u.O a ho),(k a ha).2.2.2.2.2⟩⟩
noncomputable def T1(E:VE)(ad:Nat→List Addr)(ρ:List Sl)(a:Addr):Prop:=
 (∃i x,i<E.k∧E.vn[i]? =some x∧E.env.kindOf x≠some .local∧E.env.cells.lookup x=some a)∨
  ∃i x q,E.vn[i]? =some x∧ρ.getD i .no=.own true q∧a∈ad i
noncomputable def QM(E:VE)(ad:Nat→List Addr)(ρ:List Sl):List Addr:=
 E.env.locals::(E.env.cells.map Prod.snd++(aw E.vn.length).flatMap ad).filter λ a=>@decide (T1 E ad ρ a) (wX _)
theorem GR{E:VE}{ad:Nat→List Addr}{ρ:List Sl}{a:Addr}(h:T1 E ad ρ a):a∈QM E ad ρ:=by
 refine .tail _ (aN.mpr ⟨aC.mpr ?_,@decide_eq_true _ (wX _) h⟩);refine h.imp (λ h=>?_) λ h=>?_
 ·refine bL h λ i x z z z h4=>?_;exact aM.mpr ⟨_,bu h4,rfl⟩
 ·refine xe h λ i h=>?_;refine dj h λ x q h1 z h3=>?_;exact kZ.mpr ⟨i,aO.mpr (ay.mp h1).1,h3⟩
theorem LO{E:VE}{ad:Nat→List Addr}{ρ:List Sl}{a:Addr}(h:a∈QM E ad ρ):a=E.env.locals∨T1 E ad ρ a:=
 (aD.mp h).imp_right λ h=>by
  have:=(aN.mp h).2;exact @of_decide_eq_true _ (_) this
theorem Inv.anchor(I:Inv c E β O ad ρ s){F:List Addr}(hF:∀a∈F,a∈O)(hL:E.env.locals∉F)(hC:∀p∈E.env.cells,p.2∉F)(hV:∀i,i<E.vn.length→∀a∈ad i,a∉F):
  ∃jW,jW.s=s∧JV c β jW∧Inv c E jW O ad ρ s∧(∀a∈jW.W,a∉F∧a∈O)∧jW.G=[]∧(∀a∈F,a∈jW.O)∧(∀a∈jW.N,a∈O):=by
 have hQ:∀a∈QM E ad ρ,BC β a∧a∉F∧a∈O:=by
  intro a h
  rcases LO h with rfl|h
  ·exact⟨I.CF,hL,I.uA⟩
  rcases h with h|h
  ·refine bL h λ i x h1 h2 h3 h4=>?_;exact⟨I.CG i x a h1 h2 h3 h4,hC _ (bu h4),I.ti _ (bu h4)⟩
  ·refine xe h λ i h=>?_;refine dj h λ x q h1 h2 h3=>?_;have:=I.vars i x h1;rw[h2]at this;refine cH this λ v b r k=>?_;exact⟨(k a h3).2.2.2.1 rfl,hV i (ay.mp h1).1 a h3,(k a h3).1⟩
 refine⟨⟨s,F++β.O,O,QM E ad ρ,[]⟩,rfl,⟨I.grow,λ a h=>ao _ h,I.n7,I.new,λ a h=>(hQ a h).1,λ z=>nn⟩,?_,λ a h=>(hQ a h).2,rfl,λ a h=>aF _ h,λ z h=>h⟩;refine⟨I.ok,I.br,.refl ..,I.lt,I.low,?_,?_,λ z h=>.inl h,I.ns,I.cells,I.uA,I.ti,.inl (.head _),?_,λ i y hi=>?_,I.mE,I.out⟩
 ·exact λ a h=>(aC.mp h).elim (hF a) (I.sub a)
 ·exact λ a h=>(aC.mp h).elim (λ h=>I.lt a (hF a h)) λ h=>ab (I.n7 a h) I.grow.size
 ·exact λ i x a h1 h2 h3 h4=>.inl (GR (.inl ⟨i,x,h1,h2,h3,h4⟩))
 ·have:=I.vars i y hi;cases hr:ρ.getD i .no with
  |no=>rw[hr]at this;exact this
  |val d=>rw[hr]at this;exact this
  |own m q=>
   rw[hr]at this;refine cH this λ v b r k=>?_;exact⟨v,b,r,λ a ha=>⟨(k a ha).1,(k a ha).2.1,(k a ha).2.2.1,λ hm=>.inl (GR (.inr ⟨i,y,q,hi,hm▸hr,ha⟩)),λ ho=>(aC.mp ho).elim (hV i (ay.mp hi).1 a ha) (k a ha).2.2.2.2.1,(k a ha).2.2.2.2.2⟩⟩
end
theorem aB.rep0{c:Cx}{G:List Nat}{O:List Addr}{s s':ae}(x:aB c [] G s s'){v:ag}{d:D}(r:bh c.w O s.heap v d):bh c.w O s'.heap v d:=x.rep (λ z=>nn) (nL.refl O s) r
theorem aB.ka{c:Cx}{G:List Nat}{O:List Addr}{s s':ae}(x:aB c [] G s s'){v:List ag}{d:List D}(r:a7 c.w O s.heap v d):a7 c.w O s'.heap v d:=x.fj (λ z=>nn) (nL.refl O s) r
theorem aB.Ji{c:Cx}{G:List Nat}{O:List Addr}{s s':ae}(x:aB c [] G s s'){v:List (Str×ag)}{d:List (Str×D)}(r:eA c.w O s.heap v d):eA c.w O s'.heap v d:=x.yJ (λ z=>nn) (nL.refl O s) r
noncomputable def Res(c:Cx)(O:List Addr)(s:ae)(d:D)(v:ag)(s':ae):Prop:=aB c [] [] s s'∧bF c s'∧bh c.w O s'.heap v d
noncomputable abbrev aZ:ag→ae→Prop:= λ z z=>False
noncomputable def Ev(c:Cx)(n:Nat)(E:VE)(ρ:List Sl)(e:Expr)(d:D):Prop:=
 ∀(A:aK) (β:dH) (O:List Addr) (ad:Nat→List Addr) (s:ae),Rm A n→Inv c E β O ad ρ s→wpAny (model c.prog c.w) A (eval e E.env) (Res c O s d) aZ s
noncomputable def ck(c:Cx)(n:Nat)(E:VE)(ρ:List Sl)(es:List Expr)(ds:List D):Prop:=
 es.length=ds.length∧∀(A:aK) (β:dH) (O:List Addr) (ad:Nat→List Addr) (s:ae) (pos:Pos),Rm A n→Inv c E β O ad ρ s→
  wpAny (model c.prog c.w) A (spliced (backTo pos (starEach es E.env))) (λ vs s'=>aB c [] [] s s'∧bF c s'∧a7 c.w O s'.heap vs ds) aZ s
noncomputable def Tr(c:Cx)(n:Nat)(E:VE)(ρ:List Sl)(e:Expr)(b:Bool):Prop:=
 ∀(A:aK) (β:dH) (O:List Addr) (ad:Nat→List Addr) (s:ae),Rm A n→Inv c E β O ad ρ s→wpAny (model c.prog c.w) A (isTrue e E.env (eval e E.env)) (λ b' s'=>b'=b∧aB c [] [] s s'∧bF c s') aZ s
noncomputable def gF(c:Cx)(n:Nat)(op:mf)(d₁ d₂ d:D):Prop:=
 ∀(A:aK) (O:List Addr) (s:ae) (eR eQ:ag),Rm A n→Ok c O s→bh c.w O s.heap eR d₁→bh c.w O s.heap eQ d₂→wpAny (model c.prog c.w) A (binaryOp op eR eQ) (Res c O s d) aZ s
noncomputable def cB(c:Cx)(n:Nat)(op:CmpOp)(d₁ d₂:D)(b:Bool):Prop:=
 ∀(A:aK) (O:List Addr) (s:ae) (eR eQ:ag),Rm A n→Ok c O s→bh c.w O s.heap eR d₁→bh c.w O s.heap eQ d₂→wpAny (model c.prog c.w) A (compareOp op eR eQ) (Res c O s (.bool b)) aZ s
noncomputable def Sub(c:Cx)(n:Nat)(d₁ d₂ d:D):Prop:=
 ∀(A:aK) (O:List Addr) (s:ae) (value slice:Expr) (eR eQ:ag),Rm A n→Ok c O s→(∀l u t p,slice≠.Slice l u t p)→bh c.w O s.heap eR d₁→bh c.w O s.heap eQ d₂→
  wpAny (model c.prog c.w) A (subscriptTail value slice eR eQ) (Res c O s d) aZ s
noncomputable def kA(c:Cx)(n:Nat)(d:D)(b:Bool):Prop:=
 ∀(A:aK) (O:List Addr) (s:ae) (v:ag),Rm A n→Ok c O s→bh c.w O s.heap v d→wpAny (model c.prog c.w) A (truthy v) (λ b' s'=>b'=b∧aB c [] [] s s'∧bF c s') aZ s
noncomputable def Fn(c:Cx)(n:Nat)(f:ag)(ds:List D)(kws:List (Str×D))(d:D):Prop:=
 ∀(A:aK) (O:List Addr) (s:ae) (vs:List ag) (ks:List (Str×ag)),Rm A n→Ok c O s→a7 c.w O s.heap vs ds→eA c.w O s.heap ks kws→wpAny (model c.prog c.w) A (call f vs ks) (Res c O s d) aZ s
section
variable {c:Cx}{n:Nat}{E:VE}{ρ:List Sl}
theorem Res.here{O:List Addr}{s:ae}{d:D}{v:ag}(S:bF c s)(r:bh c.w O s.heap v d):Res c O s d v s:=⟨.refl ..,S,r⟩
theorem Res.tok{O:List Addr}{s:ae}{d:D}{v:ag}{t:Nat}(S:bF c s)(r:bh c.w O s.heap v d):Res c O s d v {s with toks:=t}:=⟨(aB.refl ..).toks,S.toks,r⟩
theorem Res.after{O:List Addr}{s s' k_:ae}{d:D}{v:ag}(x:aB c [] [] s s')(r:Res c O s' d v k_):Res c O s d v k_:=⟨x.trans r.1,r.2⟩
theorem Ev.go{e:Expr}{d:D}(h:Ev c n E ρ e d){A:aK}{β:dH}{O:List Addr}{ad:Nat→List Addr}{s:ae}(R:Rm A n)(I:Inv c E β O ad ρ s){Q:ag→ae→Prop}{X:ag→ae→Prop}(k:∀v s',aB c [] [] s s'→Inv c E β O ad ρ s'→bh c.w O s'.heap v d→Q v s'):wpAny (model c.prog c.w) A (eval e E.env) Q X s:=
 wm (h A β O ad s R I) λ v s' r=>k v s' r.1 (I.fT r.1 r.2.1) r.2.2
theorem Tr.go{e:Expr}{b:Bool}(h:Tr c n E ρ e b){A:aK}{β:dH}{O:List Addr}{ad:Nat→List Addr}{s:ae}(R:Rm A n)(I:Inv c E β O ad ρ s){Q:Bool→ae→Prop}{X:ag→ae→Prop}(k:∀s',aB c [] [] s s'→Inv c E β O ad ρ s'→Q b s'):wpAny (model c.prog c.w) A (isTrue e E.env (eval e E.env)) Q X s:=
 wm (h A β O ad s R I) λ b' s' r=>by refine jH r ?_;clear r;intro z1 x S;subst z1;exact k s' x (I.fT x S)
theorem Ev.nm(i:Nat){x:Str}{pos:Pos}{d:D}(hx:E.vn[i]? =some x)(dQ:ρ[i]? =some (Sl.val d)):Ev c n E ρ (.Name x pos) d:= λ A β O ad s R I=>by
 have h1:=I.vars i x hx;rw[show ρ.getD i .no=.val d by rw[ai,dQ];rfl]at h1;refine mn h1 ?_;clear h1;intro z v b r;have hm:=bw hx;refine vN ?_ (I.ok.JM x hm).1
 rcases I.ok.var x hm with hl|⟨hl,_⟩
 ·refine cW (b.1 hl) λ m hn e=>?_;exact f6 I.ok.kind hl hn e (Res.here I.br r)
 ·have ku:E.env.kindOf x≠some .local:=by rcases hl with h|h<;>rw[h]<;>trivial
  refine cW (b.2 ku) λ a e hc=>?_
  rcases hl with hl|hl
  ·exact mO I.ok.kind hl e hc (Res.here I.br r)
  ·exact mN I.ok.kind hl e hc (Res.here I.br r) (I.ok.JM x hm).2
theorem Ev.int{i:Int}{k:Nat}{pos:Pos}:Ev c n E ρ (.Constant (.int i) k pos) (.int i):= λ A β O ad s R I=>
 wpAny_Constant_int (Res.tok I.br (by exact⟨_,rfl⟩))
theorem Ev.ny{x:Str}{k:Nat}{pos:Pos}:Ev c n E ρ (.Constant (.str x) k pos) (.str x):= λ A β O ad s R I=>
 iy (Res.tok I.br (by exact⟨_,rfl⟩))
theorem Ev.GH{b:Bool}{k:Nat}{pos:Pos}:Ev c n E ρ (.Constant (.bool b) k pos) (.bool b):= λ A β O ad s R I=>
 wpAny_Constant_bool (Res.here I.br (by rfl))
theorem Ev.lF{k:Nat}{pos:Pos}:Ev c n E ρ (.Constant .none k pos) .none:= λ A β O ad s R I=>
 wpAny_Constant_none (Res.here I.br (by rfl))
theorem Ev.bin{l r:Expr}{op:mf}{pos:Pos}{d₁ d₂ d:D}(cq:Ev c n E ρ l d₁)(cM:Ev c n E ρ r d₂)(h:gF c n op d₁ d₂ d):Ev c n E ρ (.BinOp l op r pos) d:= λ A β O ad s R I=>
 wpAny_BinOp (cq.go R I λ v au cY bj bE=>cM.go R bj λ u aH cE ct bB=>
  wm (h A O aH v u R ct.o (cE.rep0 bE) bB) λ z z q=>q.after (cY.trans cE))
theorem Ev.cmp{l r:Expr}{op:CmpOp}{pos:Pos}{d₁ d₂:D}{b:Bool}(cq:Ev c n E ρ l d₁)(cM:Ev c n E ρ r d₂)(h:cB c n op d₁ d₂ b)(hm:autoParam (behindInMarks op r=false) rf):Ev c n E ρ (.Compare l [op] [r] pos) (.bool b):=
 λ A β O ad s R I=>wpAny_Compare1 (cq.go R I λ v au cY bj bE=>cM.go R bj λ u aH cE ct bB=>
  wm (h A O aH v u R ct.o (cE.rep0 bE) bB) λ z z q=>q.after (cY.trans cE)) hm
theorem Tr.cmp{l r:Expr}{op:CmpOp}{pos:Pos}{d₁ d₂:D}{b:Bool}(cq:Ev c n E ρ l d₁)(cM:Ev c n E ρ r d₂)(h:cB c n op d₁ d₂ b)(hm:autoParam (behindInMarks op r=false) rf):Tr c n E ρ (.Compare l [op] [r] pos) b:=
 λ A β O ad s R I=>wpAny_isTrue_Compare1 (cq.go R I λ v au cY bj bE=>cM.go R bj λ u aH cE ct bB=>
  wm (h A O aH v u R ct.o (cE.rep0 bE) bB) λ w cn q=>by
   have q3:=q.2.2;subst q3;exact iU ⟨rfl,(cY.trans cE).trans q.1,q.2.1⟩) hm
theorem Tr.val{e:Expr}{d:D}{b:Bool}(cq:Ev c n E ρ e d)(h:kA c n d b)(hv:∀env whole,PySem.isTrue e env whole=(do let v ← whole;standAt e.pos;holding [v] (truthy v)):=by intros;rfl):Tr c n E ρ e b:= λ A β O ad s R I=>
 wpAny_isTrue_value (cq.go R I λ v au cY bj bE=>wm (h A O au v R bj.o bE) λ z z q=>⟨q.1,cY.trans q.2.1,q.2.2⟩) (hv _ _)
theorem Tr.not{e:Expr}{pos:Pos}{b:Bool}(h:Tr c n E ρ e b):Tr c n E ρ (.UnaryOp .Not e pos) (!b):= λ A β O ad s R I=>
 wpAny_isTrue_Not (h.go R I λ au x bj=>⟨rfl,x,bj.br⟩)
theorem Tr.qL{e f:Expr}{pos:Pos}{b b':Bool}(h:Tr c n E ρ e b)(h':b=true→Tr c n E ρ f b'):Tr c n E ρ (.BoolOp .And [e,f] pos) (b&&b'):= λ A β O ad s R I=>by
 refine u1 (wpAny_allTrue_And_cons (h.go R I λ au x bj=>?_));cases b with
 |false=>simp only[aR,if_false];exact⟨by trivial,x,bj.br⟩
 |true=>
  simp only[if_true,Bool.true_and];refine wpAny_allTrue_And_cons ((h' rfl).go R bj λ aH cE ct=>?_);cases b' with
  |false=>simp only[aR,if_false];exact⟨by trivial,x.trans cE,ct.br⟩
  |true=>simp only[if_true];exact wpAny_allTrue_And_nil ⟨by trivial,x.trans cE,ct.br⟩
theorem Tr.L3{e f:Expr}{pos:Pos}{b b':Bool}(h:Tr c n E ρ e b)(h':b=false→Tr c n E ρ f b'):Tr c n E ρ (.BoolOp .Or [e,f] pos) (b||b'):= λ A β O ad s R I=>by
 refine u1 (iR (h.go R I λ au x bj=>?_));cases b with
 |true=>simp only[if_true];exact⟨by trivial,x,bj.br⟩
 |false=>
  simp only[aR,if_false,Ay];refine iR ((h' rfl).go R bj λ aH cE ct=>?_);cases b' with
  |true=>simp only[if_true];exact⟨by trivial,x.trans cE,ct.br⟩
  |false=>simp only[aR,if_false];exact wpAny_allTrue_Or_nil ⟨by trivial,x.trans cE,ct.br⟩
theorem Ev.ite{t a b:Expr}{pos:Pos}{p:Bool}{d₁ d₂:D}(h:Tr c n E ρ t p)(cq:p=true→Ev c n E ρ a d₁)(cM:p=false→Ev c n E ρ b d₂):Ev c n E ρ (.IfExp t a b pos) (if p then d₁ else d₂):= λ A β O ad s R I=>by
 refine wpAny_IfExp (h.go R I λ au x bj=>?_);cases p with
 |true=>simp only[if_true];exact(cq rfl).go R bj λ v aH cE ct r=>⟨x.trans cE,ct.br,r⟩
 |false=>simp only[aR,if_false];exact(cM rfl).go R bj λ v aH cE ct r=>⟨x.trans cE,ct.br,r⟩
theorem Ev.L3{e f:Expr}{pos:Pos}{p:Bool}{d₁ d₂:D}(h:Ev c n E ρ e d₁)(ht:kA c n d₁ p)(cM:p=false→Ev c n E ρ f d₂):Ev c n E ρ (.BoolOp .Or [e,f] pos) (if p then d₁ else d₂):= λ A β O ad s R I=>by
 refine wpAny_Or2 (h.go R I λ v au x bj r=>wm (ht A O au v R bj.o r) λ b' aH q=>?_);obtain⟨rfl,cE,S⟩:=q;have ct:=bj.fT cE S;cases b' with
 |true=>simp only[if_true];exact⟨x.trans cE,S,cE.rep0 r⟩
 |false=>simp only[aR,if_false];exact(cM rfl).go R ct λ v cn qa jU r=>⟨(x.trans cE).trans qa,jU.br,r⟩
theorem ck.nil:ck c n E ρ [] []:=⟨rfl,λ A β O ad s pos R I=>BE ⟨.refl ..,I.br,by trivial⟩⟩
theorem ck.cons{e:Expr}{es:List Expr}{d:D}{ds:List D}(h:Ev c n E ρ e d)(t:ck c n E ρ es ds)(hs:∀env,starEach (e::es) env=(false,eval e env)::starEach es env:=by intros;rfl):ck c n E ρ (e::es) (d::ds):=
 ⟨by rw[aJ,aJ,t.1],λ A β O ad s pos R I=>z0 (h.go R I λ v au x bj r=>wm (t.2 A β O ad au pos R bj) λ vs aH q=>⟨x.trans q.1,q.2.1,by
  exact⟨q.1.rep0 r,q.2.2⟩⟩) (hs _)⟩
theorem a7.length{w:a0}{O:List Addr}{h:Heap}{vs:List ag}{ds:List D}(r:a7 w O h vs ds):vs.length=ds.length:=
 r.ind rfl λ z z z z z z ih=>congrArg uW ih
theorem Res.KD{O:List Addr}{s au:ae}{vs:List ag}{ds:List D}(K:Ok c O s)(x:aB c [] [] s au)(S:bF c au)(r:a7 c.w O au.heap vs ds):
  Res c O s (.tup ds) (.ref au.heap.objs.size) {au with heap:=au.heap.push (EB vs 0)}:=
 ⟨x.trans aB.push,S.push,by
  exact⟨_,vs,rfl,(K.fT x S).next,⟨_,av _ rfl,rfl,0,rfl⟩,(aB.push (c:=c) (G:=[]) (tk:=au.toks)).ka r⟩⟩
theorem Res.KG{O:List Addr}{s au:ae}{vs:List ag}{ds:List D}(K:Ok c O s)(x:aB c [] [] s au)(S:bF c au)(r:a7 c.w O au.heap vs ds):
  Res c O s (.lst ds) (.ref au.heap.objs.size) {au with heap:=au.heap.push (bP vs 0)}:=
 ⟨x.trans aB.push,S.push,by
  exact⟨_,vs,rfl,(K.fT x S).next,⟨_,0,av _ rfl,rfl,rfl,rfl⟩,(aB.push (c:=c) (G:=[]) (tk:=au.toks)).ka r⟩⟩
theorem cQ{k:Nat}(h:k≤1000):k≤sizeLine:=by rw[cG];exact af h (aG _ _)
theorem Ev.tup{es:List Expr}{k:Nat}{pos:Pos}{ds:List D}(h:ck c n E ρ es ds)(hl:autoParam (jv ds.length 1000=true) rf):Ev c n E ρ (.Tuple es k pos) (.tup ds):= λ A β O ad s R I=>
 wpAny_Tuple (wm (h.2 A β O ad s pos R I) λ vs au q=>⟨cQ (by rw[q.2.2.length];exact cK hl),Res.KD I.o q.1 q.2.1 q.2.2⟩)
theorem Ev.lst{es:List Expr}{pos:Pos}{ds:List D}(h:ck c n E ρ es ds)(hl:autoParam (jv ds.length 1000=true) rf):Ev c n E ρ (.List es pos) (.lst ds):= λ A β O ad s R I=>
 wpAny_List (wm (h.2 A β O ad s pos R I) λ vs au q=>⟨cQ (by rw[q.2.2.length];exact cK hl),Res.KG I.o q.1 q.2.1 q.2.2⟩)
end
theorem Ns.same{h:Heap}{a:Addr}{m m':Str→Option ag}(x:h.Ns a m)(y:h.Ns a m')(n:Str):m n=m' n:=by
 refine cI x ?_;clear x;intro o es ep ho hd z e;refine cI y ?_;clear y;intro o' rN X6 nh iP z e';rw[ho]at nh;cases nh;rw[hd]at iP;cases iP;rw[← e,← e']
theorem wi{l:List Str}(h:l.Nodup){i j:Nat}(hi:i<l.length)(hj:j<l.length)(e:l[i]=l[j]):i=j:=by
 have h:=Ag.mp h
 rcases u5 i j with gy|he|Ss
 ·exact absurd e (h i j hi hj gy)
 ·exact he
 ·exact absurd e.symm (h j i hj hi Ss)
noncomputable def pg(c:Cx)(E:VE)(β:dH)(O:List Addr)(s:ae):Sl→ag→List Addr→Prop
 |.no,_,fp=>fp=[]
 |.val d,v,fp=>fp=[]∧bh c.w O s.heap v d
 |.own m q,v,fp=>cS c O s.heap v q fp∧∀a∈fp,a∈O∧a≠E.env.locals∧(∀p∈E.env.cells,p.2≠a)∧(m=true→BC β a)∧a∉β.O∧a<s.heap.objs.size
section
variable {c:Cx}{n:Nat}{E:VE}{β:dH}{O O' W:List Addr}{G:List Nat}{ad:Nat→List Addr}{ρ:List Sl}{s s':ae}{A:aK}
theorem pg.grow{sl:Sl}{v:ag}{fp:List Addr}(K:Ok c O s)(h:pg c E β O s sl v fp)(x:aB c W G s s')(hW:tu W O s)(hf:∀a∈fp,a∉W):pg c E β O s' sl v fp:=by
 cases sl with
 |no=>exact h
 |val d=>exact⟨h.1,x.rep hW (.refl O s) h.2⟩
 |own m q=>
  refine xa h ?_;clear h;intro r k;refine⟨x.own hW (.refl O s) hf (λ a ha o e=>.inr (x.get (hf a ha) (λ p hp e'=>?_) e)) r,λ a ha=>⟨(k a ha).1,(k a ha).2.1,(k a ha).2.2.1,(k a ha).2.2.2.1,(k a ha).2.2.2.2.1,ab (k a ha).2.2.2.2.2 x.size⟩⟩;have:=(K.br.ok.KP p hp).2;exact ak _ (ab this (e'▸K.low a (k a ha).1))
theorem pg.ok{sl:Sl}{v:ag}{y:Str}{fp:List Addr}(h:pg c E β O s sl v fp)(b:Bound s.heap E.env y v):G1 c E β O s sl y fp:=by
 cases sl with
 |no=>exact h
 |val d=>exact⟨h.1,v,b,h.2⟩
 |own m q=>exact⟨v,b,h.1,h.2⟩
theorem Inv.rebind(I:Inv c E β O ad ρ s){i:Nat}{x:Str}{v:ag}{sl:Sl}{fp:List Addr}{w:Addr}(hx:E.vn[i]? =some x)(hl:i<ρ.length)(x':aB c [w] [] s s')(S:bF c s')(hb:Bound s'.heap E.env x v)(ho:∀y v',y≠x→Bound s.heap E.env y v'→Bound s'.heap E.env y v')(Of:∃m,s'.heap.Ns E.env.locals m)(Lf:∀x∈E.vn,E.env.kindOf x≠some .local→∃a v,E.env.cells.lookup x=some a∧s'.heap.IsCell a v)(hw:w∈O)(hm:BC β w)(FU:w=E.env.locals∨∃p∈E.env.cells,p.2=w)(ng:pg c E β O s sl v fp)(hd:∀j,j≠i→∀a∈fp,a∉ad j):Inv c E β O (λ j=>if j=i then fp else ad j) (ρ.set i sl) s' where
 ok:=I.ok
 br:=S
 grow:=I.grow.comp x' (λ a h=>by rw[aj]at h;subst h;exact hm) (λ z=>nn)
 lt:= λ a h=>ab (I.lt a h) x'.size
 low:=I.low
 sub:=I.sub
 n7:=I.n7
 new:=I.new
 ns:=Of
 cells:=Lf
 uA:=I.uA
 ti:=I.ti
 CF:=I.CF
 CG:=I.CG
 out:= λ j hj=>by
  have:=(ay.mp hx).1;show(if j=i then fp else ad j)=[];rw[if_neg (by omega)];exact I.out j hj
 mE:= λ j k Qr a ha=>by
  have ha:a∈(if j=i then fp else ad j):=ha;show a∉ (if k=i then fp else ad k)
  split at ha<;>split<;>rename_i h1 h2
  ·exact absurd (h1.trans h2.symm) Qr
  ·exact hd k (by omega) a ha
  ·exact λ hf=>hd j (by omega) a hf ha
  ·exact I.mE j k Qr a ha
 vars:= λ j y hj=>by
  have mi:tu [w] O s:= λ a h=>by rw[aj]at h;subst h;exact .inl hw
  have ku:∀a,a≠E.env.locals→(∀p∈E.env.cells,p.2≠a)→a≠w:= λ a h1 h2 e=>FU.elim (λ h=>h1 (e.trans h)) λ w0=>cW w0 λ p hp h=>h2 p hp (h.trans e.symm)
  by_cases Ee:j=i
  ·subst Ee;rw[hx]at hj;cases hj;rw[show(ρ.set j sl).getD j .no=sl by rw[ai,bp hl];rfl];simp only[if_true];refine(pg.grow I.o ng x' mi λ a ha=>?_).ok hb;rw[aj];cases sl with
   |no=>cases ng;cases ha
   |val d=>cases ng.1;exact nn ha
   |own m q=>exact ku a (ng.2 a ha).2.1 (ng.2 a ha).2.2.1
  ·rw[show(ρ.set i sl).getD j .no=ρ.getD j .no by rw[ai,aQ (Ne.symm Ee),← ai],if_neg Ee];have NR:y≠x:= λ e=>Ee (by
    subst e;have h1:=ay.mp hj;have h2:=ay.mp hx;exact wi I.ok.nodup h1.1 h2.1 (h1.2.trans h2.2.symm))
   have:=I.vars j y hj;cases hr:ρ.getD j .no with
   |no=>rw[hr]at this;exact this
   |val d=>
    rw[hr]at this;refine mn this ?_;clear this;intro e v' b r;exact⟨e,v',ho y v' NR b,x'.rep mi (.refl O s) r⟩
   |own m q=>
    rw[hr]at this;refine cH this ?_;clear this;intro v' b r k;have hf:∀a∈ad j,a∉ [w]:= λ a ha h=>ku a (k a ha).2.1 (k a ha).2.2.1 (aj.mp h);exact⟨v',ho y v' NR b,x'.own mi (.refl O s) hf (λ a ha o e=>.inr (x'.get (hf a ha) (I.Fc (k a ha).1) e)) r,
     λ a ha=>⟨(k a ha).1,(k a ha).2.1,(k a ha).2.2.1,(k a ha).2.2.2.1,(k a ha).2.2.2.2.1,ab (k a ha).2.2.2.2.2 x'.size⟩⟩
theorem mq(I:Inv c E β O ad ρ s){i:Nat}{x:Str}{v:ag}{sl:Sl}{fp:List Addr}(hi:i<E.k)(hx:E.vn[i]? =some x)(hl:i<ρ.length)(ng:pg c E β O s sl v fp)(hd:∀j,j≠i→∀a∈fp,a∉ad j){Q:Unit→ae→Prop}{X:ag→ae→Prop}(k:∀s' w,Inv c E β O (λ j=>if j=i then fp else ad j) (ρ.set i sl) s'→aB c [w] [] s s'→w∈O→(w=E.env.locals∨∃p∈E.env.cells,p.2=w)→Q () s'):wpAny (model c.prog c.w) A (storeName E.env x v) Q X s:=by
 have hm:=bw hx;have hv:=I.ok.var x hm;have qG:=I.ok.kind
 by_cases Dq:E.env.kindOf x=some .local
 ·refine xe I.ns λ m hn=>?_;refine wpAny_storeName_local Dq hn (λ h' K5 hs=>?_) (by rw[qG];rfl);have i8:∀a o,a∉ [E.env.locals]→s.heap.get? a=some o→h'.get? a=some o:= λ a o ha e=>hs.extBut a o (λ h=>ha (by simp[h])) e;have lb:s.heap.objs.size≤h'.objs.size:=by rw[hs.1];exact az _
  have hg:aB c [E.env.locals] [] s {s with heap:=h',toks:=s.toks+1}:=.of_keep lb i8 λ a ha o e=>by
   rw[aj]at ha;subst ha;refine c8 hn ?_;clear hn;intro o' es ep nh iP z;rw[e]at nh;cases nh;exact cP iP
  refine k _ _ ?_ hg I.uA (.inl rfl);refine I.rebind (w:=E.env.locals) hx hl hg (I.br.at lb i8 λ a ha=>?_) ⟨λ z=>⟨_,K5,by simp⟩,λ h=>absurd Dq h⟩ (λ y v' hy b=>⟨λ hk=>?_,λ hk=>?_⟩) ⟨_,K5⟩ (λ y hy hk=>?_) I.uA I.CF (.inl rfl) ng hd
  ·rw[aj]at ha;subst ha;exact I.low _ I.uA
  ·refine cW (b.1 hk) λ m₁ uv e=>?_;exact⟨_,K5,by simp only[hy,if_false];rw[Ns.same hn uv,e]⟩
  ·refine cW (b.2 hk) λ a e hc=>?_;exact⟨a,e,hc.sameBut hs λ he=>I.ok.Rl _ (bu e) he⟩
  ·refine ez (I.cells y hy hk) λ a v' e hc=>?_;exact⟨a,v',e,hc.sameBut hs λ he=>I.ok.Rl _ (bu e) he⟩
 ·refine ez (I.cells x hm Dq) λ a QU e hc=>?_;have OG:E.env.kindOf x=some .cell:=by
   rcases hv with h|⟨h|h,_⟩
   ·exact absurd h Dq
   ·exact h
   ·exact absurd h (I.ok.bind i x hi hx)
  refine wpAny_storeName_cell qG OG e hc λ h' Hb hs=>?_;have i8:∀b o,b∉ [a]→s.heap.get? b=some o→h'.get? b=some o:= λ b o hb e=>hs.extBut b o (λ h=>hb (by simp[h])) e;have lb:s.heap.objs.size≤h'.objs.size:=by rw[hs.1];exact az _
  have Ck:a∈O:=I.ti _ (bu e);have Mn:a≠E.env.locals:=I.ok.Rl _ (bu e);refine xe I.ns λ m hn=>?_;have K5:h'.Ns E.env.locals m:=hn.sameBut hs (Ne.symm Mn);have hg:aB c [a] [] s {s with heap:=h'}:=.of_keep (tk:=s.toks) lb i8 λ b hb o eb=>by
   rw[aj]at hb;subst hb;refine cW hc ?_;clear hc;intro o' nh iP;rw[eb]at nh;cases nh;exact za iP
  refine k _ _ ?_ hg Ck (.inr ⟨_,bu e,rfl⟩);refine I.rebind (w:=a) hx hl hg (I.br.at (tk:=s.toks) lb i8 λ b hb=>?_) ⟨λ h=>absurd h Dq,λ z=>⟨a,e,Hb⟩⟩ (λ y v' hy b=>⟨λ hk=>?_,λ hk=>?_⟩) ⟨_,K5⟩ (λ y hy hk=>?_) Ck
   (I.CG i x a hi hx Dq e) (.inr ⟨_,bu e,rfl⟩) ng hd
  ·rw[aj]at hb;subst hb;exact I.low _ Ck
  ·refine cW (b.1 hk) λ m₁ uv e=>?_;exact⟨m₁,uv.sameBut hs (Ne.symm Mn),e⟩
  ·refine cW (b.2 hk) λ a' e' Lh=>?_;exact⟨a',e',Lh.sameBut hs λ he=>hy (name_of_addr I.ok.apart (bu e') (he▸bu e))⟩
  ·by_cases NR:y=x
   ·subst NR;exact⟨a,_,e,Hb⟩
   ·refine ez (I.cells y hy hk) λ a' v' e' Lh=>?_;exact⟨a',v',e',Lh.sameBut hs λ he=>NR (name_of_addr I.ok.apart (bu e') (he▸bu e))⟩
theorem wp_bind(I:Inv c E β O ad ρ s){i:Nat}{x:Str}{pos:Pos}{v:ag}{sl:Sl}{fp:List Addr}(hi:i<E.k)(hx:E.vn[i]? =some x)(hl:i<ρ.length)(ng:pg c E β O s sl v fp)(hd:∀j,j≠i→∀a∈fp,a∉ad j){Q:Unit→ae→Prop}{X:ag→ae→Prop}(k:∀s' w,Inv c E β O (λ j=>if j=i then fp else ad j) (ρ.set i sl) s'→aB c [w] [] s s'→w∈O→(w=E.env.locals∨∃p∈E.env.cells,p.2=w)→Q () s'):wpAny (model c.prog c.w) A (assign (.Name x pos) E.env v) Q X s:=
 wpAny_assign_Name (mq I hi hx hl ng hd k)
theorem Inv.small(I:Inv c E β O ad ρ s)(j:Nat):∀a∈ad j,a∈O∧a<s.heap.objs.size∧a≠E.env.locals∧(∀p∈E.env.cells,p.2≠a)∧a∉β.O:=by
 intro a ha
 by_cases hl:j<E.vn.length
 ·have:=I.vars j _ (aq hl);cases hr:ρ.getD j .no with
  |no=>rw[hr]at this;rw[show ad j=[]from this]at ha;exact nn ha
  |val d=>rw[hr]at this;rw[this.1]at ha;exact nn ha
  |own m q=>
   rw[hr]at this;refine cH this ?_;clear this;intro v b r k;exact⟨(k a ha).1,(k a ha).2.2.2.2.2,(k a ha).2.1,(k a ha).2.2.1,(k a ha).2.2.2.2.1⟩
 ·rw[I.out j (by exact cu hl)]at ha;exact nn ha
end
inductive Out where
 |next (ρ:List Sl)
 |brk (ρ:List Sl)
 |cont (ρ:List Sl)
 |ret (d:D)
 |qq (q:OD)
noncomputable def zY(c:Cx)(E:VE)(β:dH)(ρ:List Sl)(s:ae):Prop:=∃O ad,Inv c E β O ad ρ s
noncomputable def mF(c:Cx)(E:VE)(β:dH):Out→Flow→ae→Prop
 |.next ρ,f,s=>f=.next∧zY c E β ρ s
 |.brk ρ,f,s=>f=.brk∧zY c E β ρ s
 |.cont ρ,f,s=>f=.cont∧zY c E β ρ s
 |.ret d,f,s=>∃v,f=.ret v∧aB c β.W β.G β.s s∧bF c s∧bh c.w β.O s.heap v d
 |.qq q,f,s=>∃v fp,f=.ret v∧aB c β.W β.G β.s s∧bF c s∧cS c (fp++β.O) s.heap v q fp∧∀a∈fp,BC β a∧a<s.heap.objs.size
noncomputable def Ex(c:Cx)(n:Nat)(E:VE)(ρ:List Sl)(ss:List Stmt)(out:Out):Prop:=
 ∀(A:aK) (β:dH) (s:ae),Rm A n→zY c E β ρ s→wpAny (model c.prog c.w) A (execs ss E.env) (mF c E β out) aZ s
noncomputable def ba(c:Cx)(n:Nat)(E:VE)(ρ:List Sl)(st:Stmt)(out:Out):Prop:=
 ∀(A:aK) (β:dH) (s:ae),Rm A n→zY c E β ρ s→wpAny (model c.prog c.w) A (exec st E.env) (mF c E β out) aZ s
noncomputable def ju(c:Cx)(n:Nat)(E:VE)(ρ:List Sl)(t:Expr)(d:D)(ρ':List Sl):Prop:=
 ∀(A:aK) (β:dH) (O:List Addr) (ad:Nat→List Addr) (s:ae) (v:ag),Rm A n→Inv c E β O ad ρ s→bh c.w O s.heap v d→wpAny (model c.prog c.w) A (assign t E.env v) (λ z s'=>∃ad' W,Inv c E β O ad' ρ' s'∧aB c W [] s s'∧∀a∈W,a∈O) aZ s
noncomputable def kU(c:Cx)(n:Nat)(E:VE)(ρ:List Sl)(ts:List Expr)(ds:List D)(ρ':List Sl):Prop:=
 ∀(A:aK) (β:dH) (O:List Addr) (ad:Nat→List Addr) (s:ae) (vs:List ag),Rm A n→Inv c E β O ad ρ s→a7 c.w O s.heap vs ds→
  wpAny (model c.prog c.w) A (assignInOrder ((assignEach ts E.env).map (·.2)) vs) (λ z s'=>∃ad' W,Inv c E β O ad' ρ' s'∧aB c W [] s s'∧∀a∈W,a∈O) aZ s
section
variable {c:Cx}{n:Nat}{E:VE}{ρ ρ' ρ'':List Sl}
theorem Ex.nil:Ex c n E ρ [] (.next ρ):= λ A β s R I=>qU ⟨rfl,I⟩
theorem Ex.seq{st:Stmt}{ss:List Stmt}{out:Out}(h:ba c n E ρ st (.next ρ'))(t:Ex c n E ρ' ss out):Ex c n E ρ (st::ss) out:= λ A β s R I=>
 lX (wm (h A β s R I) λ f s' q=>by
  obtain⟨rfl,I'⟩:=q;exact t A β s' R I')
noncomputable def Out.stop:Out→Bool
 |.next _=>false
 |_=>true
theorem Ex.stop{st:Stmt}{ss:List Stmt}{out:Out}(h:ba c n E ρ st out)(ho:autoParam (out.stop=true) rf):Ex c n E ρ (st::ss) out:= λ A β s R I=>
 lX (wm (h A β s R I) λ f s' q=>by
  cases out with
  |next _=>cases ho
  |brk ρ'=>obtain⟨rfl,I'⟩:=q;exact⟨rfl,I'⟩
  |cont ρ'=>obtain⟨rfl,I'⟩:=q;exact⟨rfl,I'⟩
  |ret d=>obtain⟨v,rfl,r⟩:=q;exact⟨v,rfl,r⟩
  |qq q'=>obtain⟨v,fp,rfl,r⟩:=q;exact⟨v,fp,rfl,r⟩)
theorem Ex.one{st:Stmt}{out:Out}(h:ba c n E ρ st out):Ex c n E ρ [st] out:=by
 cases out with
 |next ρ'=>exact .seq h .nil
 |_=>exact .stop h
theorem ju.name(i:Nat){x:Str}{pos:Pos}{d:D}(hx:E.vn[i]? =some x)(hi:i<E.k)(hl:i<ρ.length):ju c n E ρ (.Name x pos) d (ρ.set i (.val d)):= λ A β O ad s v R I r=>
 wp_bind I hi hx hl (sl:=.val d) (fp:=[]) ⟨rfl,r⟩ (λ z z z h=>nn h) λ s' w I' g hw z=>⟨_,_,I',g,λ a h=>by rw[aj]at h;exact h▸hw⟩
theorem kU.nil:kU c n E ρ [] [] ρ:= λ A β O ad s vs R I r=>by
 cases vs with
 |nil=>exact ah ⟨_,[],I,.refl ..,λ z=>nn⟩
 |cons _ _=>exact r.elim
theorem kU.cons{t:Expr}{ts:List Expr}{d:D}{ds:List D}(h:ju c n E ρ t d ρ')(k:kU c n E ρ' ts ds ρ'')(ht:∀env,assignEach (t::ts) env=(false,assign t env)::assignEach ts env:=by intros;rfl):kU c n E ρ (t::ts) (d::ds) ρ'':=
 λ A β O ad s vs R I r=>by
  cases vs with
  |nil=>exact r.elim
  |cons v vs=>
   rw[ht];show wpAny _ _ (do holding vs (assign t E.env v);assignInOrder _ vs) _ _ _;refine aa (aV ?_);refine wm (h A β O ad s v R I r.1) λ z s' q=>?_;refine dj q ?_;clear q;intro ad' W I' g hW;refine wm (k A β O ad' s' vs R I' (g.fj (λ a h=>.inl (hW a h)) (.refl O s) r.2)) λ z k_ q=>?_;refine dj q ?_;clear q;intro pO W' P1 g' SU;exact⟨pO,W++W',P1,(g.mono (λ a h=>.inl (aF _ h)) (λ z=>nn)).trans (g'.mono (λ a h=>.inl (ao _ h)) λ z=>nn),
    λ a h=>(aC.mp h).elim (hW a) (SU a)⟩
theorem sJ{A:aK}{s:ae}{X:ag→ae→Prop}{env:Env}{elts:List Expr}{x1}{pos:Pos}{t:Addr}{items:Array ag}{Q:Unit→ae→Prop}(hh:A.handled=none)(ht:s.heap.IsTuple t items)(hn:(assignEach elts env).length=items.size)(N7:(assignEach elts env).findIdx? (·.1)=none)(h:∀h',s.heap.objs.size≤h'.objs.size→(∀a o,s.heap.get? a=some o→h'.get? a=some o)→wpAny (model c.prog c.w) A (assignInOrder ((assignEach elts env).map (·.2)) items.toList) Q X {s with heap:=h'}):
  wpAny (model c.prog c.w) A (assign (.Tuple elts x1 pos) env (.ref t)) Q X s:=by
 rw[arm_assign_Tuple];refine aa (bQ ?_);unfold unpack;rw[hn,N7];refine aa (aV (c9 (jc (wpAny_unpackItems_tuple (E:=aZ) (Q:= λ r s'=>r=items.toList∧∃h',s'={s with heap:=h'}∧pW s.heap.objs.size s.heap h') hh ht λ h' he=>⟨rfl,h',rfl,he⟩)
  (λ r s' q up=>?_) λ z z f=>f.elim)))
 obtain⟨rfl,h',rfl,he⟩:=q;exact h h' up.heap λ a o e=>he a o (dO (aI e)) e
theorem ju.tup{elts:List Expr}{k:Nat}{pos:Pos}{ds:List D}(h:kU c n E ρ elts ds ρ')(hl:autoParam ((assignEach elts E.env).length=ds.length) rf)(hs:autoParam ((assignEach elts E.env).findIdx? (·.1)=none) rf):
  ju c n E ρ (.Tuple elts k pos) (.tup ds) ρ':= λ A β O ad s v R I r=>by
 refine bh.qh r ?_;clear r;intro a vs ha ht r;refine sJ R.handled ht (by rw[hl,← r.length];rfl) hs λ h' hz hk=>?_;have g:aB c [] [] s {s with heap:=h'}:=.of_keep (tk:=s.toks) hz (λ a o z e=>hk a o e) λ z=>nn;have S:bF c {s with heap:=h'}:=I.br.at (O:=[]) (tk:=s.toks) hz (λ a o z e=>hk a o e) λ z=>nn;refine wm (h A β O ad _ vs R (I.fT g S) (g.ka r)) λ z s' q=>?_;refine dj q ?_;clear q;intro ad' W I' g' hW;exact⟨ad',W,I',(g.mono (λ z=>nn) λ z=>nn).trans g',hW⟩
theorem ba.asg(i:Nat){x:Str}{p:Pos}{e:Expr}{pos:Pos}{d:D}(h:Ev c n E ρ e d)(hx:E.vn[i]? =some x)(hi:i<E.k)(hl:i<ρ.length)(hs:autoParam (swapsWith e (some (.Name x p)) pos.line E.env=pure false) rf):
  ba c n E ρ (.Assign [.Name x p] e pos) (.next (ρ.set i (.val d))):= λ A β s R w0=>iz w0 λ O ad I=>
 wpAny_Assign_Name (h.go R I λ v au g bj r=>mq bj hi hx hl (sl:=.val d) (fp:=[]) ⟨rfl,r⟩ (λ z z z h=>nn h) λ s' w I' z z z=>⟨rfl,O,_,I'⟩) hs
noncomputable def gz(c:Cx)(n:Nat)(E:VE)(ρ:List Sl)(e:Expr)(q:OD):Prop:=
 ∀(A:aK) (β:dH) (O:List Addr) (ad:Nat→List Addr) (s:ae),Rm A n→Inv c E β O ad ρ s→wpAny (model c.prog c.w) A (eval e E.env)
  (λ v s'=>∃fp,aB c [] [] s s'∧bF c s'∧cS c (fp++O) s'.heap v q fp∧∀a∈fp,s.heap.objs.size≤a∧a<s'.heap.objs.size) aZ s
theorem gz.slot{β:dH}{O fp:List Addr}{ad:Nat→List Addr}{s s':ae}{v:ag}{q:OD}(I:Inv c E β O ad ρ s)(x:aB c [] [] s s')(S:bF c s')(r:cS c (fp++O) s'.heap v q fp)(hf:∀a∈fp,s.heap.objs.size≤a∧a<s'.heap.objs.size):Inv c E β (fp++O) ad ρ s'∧pg c E β (fp++O) s' (.own true q) v fp∧∀j,∀a∈fp,a∉ad j:=by
 refine⟨I.t5 x S hf,⟨r,λ a ha=>⟨aF _ ha,?_,λ p hp e=>?_,λ z=>.inr (af I.grow.size (hf a ha).1),λ h=>?_,(hf a ha).2⟩⟩,λ j a ha h=>?_⟩
 ·rintro rfl;exact ak _ (ab (I.lt _ I.uA) (hf _ ha).1)
 ·subst e;exact ak _ (ab (I.lt _ (I.ti p hp)) (hf _ ha).1)
 ·exact ak _ (ab (I.n7 a h) (af I.grow.size (hf a ha).1))
 ·exact ak _ (ab (I.small j a h).2.1 (hf a ha).1)
theorem ba.lh(i:Nat){x:Str}{p:Pos}{e:Expr}{pos:Pos}{q:OD}(h:gz c n E ρ e q)(hx:E.vn[i]? =some x)(hi:i<E.k)(hl:i<ρ.length)(hs:autoParam (swapsWith e (some (.Name x p)) pos.line E.env=pure false) rf):
  ba c n E ρ (.Assign [.Name x p] e pos) (.next (ρ.set i (.own true q))):= λ A β s R w0=>iz w0 λ O ad I=>
 wpAny_Assign_Name (wm (h A β O ad s R I) λ v au r=>by
  refine eG r ?_;clear r;intro fp g S r hf;refine jH (gz.slot I g S r hf) λ bj sv hd=>?_;exact mq bj hi hx hl sv (λ j z=>hd j) λ s' w I' z z z=>⟨rfl,_,_,I'⟩) hs
theorem ba.expr{e:Expr}{pos:Pos}{d:D}(h:Ev c n E ρ e d)(hi:autoParam (interactive E.env=false) rf)(hs:autoParam (swapsWith e none pos.line E.env=pure false) rf):ba c n E ρ (.Expr e pos) (.next ρ):= λ A β s R w0=>iz w0 λ O ad I=>
 gW (h.go R I λ v au g bj r=>⟨rfl,O,ad,bj⟩) hi hs
theorem ba.ite{t:Expr}{b o:List Stmt}{pos:Pos}{p:Bool}{out:Out}(h:Tr c n E ρ t p)(cq:p=true→Ex c n E ρ b out)(cM:p=false→Ex c n E ρ o out):ba c n E ρ (.If t b o pos) out:= λ A β s R w0=>iz w0 λ O ad I=>
 wpAny_If (h.go R I λ au g bj=>by
  cases p with
  |true=>rw[if_pos rfl];exact cq rfl A β au R ⟨O,ad,bj⟩
  |false=>rw[if_neg (by decide)];exact cM rfl A β au R ⟨O,ad,bj⟩)
theorem ba.ret{e:Expr}{pos:Pos}{d:D}(h:Ev c n E ρ e d):ba c n E ρ (.Return (some e) pos) (.ret d):= λ A β s R w0=>iz w0 λ O ad I=>
 xZ (h.go R I λ v au g bj r=>⟨v,rfl,bj.grow,bj.br,bh.kept (.refl O _) (λ a h=>.inl (bj.sub a h)) r⟩)
theorem ba.brk{pos:Pos}:ba c n E ρ (.Break pos) (.brk ρ):= λ A β s R I=>wpAny_Break ⟨rfl,I⟩
noncomputable def OD.Bl:OD→Option D
 |.lst ds=>some (.lst ds)
 |.dm xs=>some (.dm xs)
 |.k8 k st=>some (.k8 k st)
 |.dK _ sN=>some (.dK sN)
 |.inst _ k fs=>some (.inst k fs)
 |.kc _ k fs y ds=>some (.inst k ((y,.lst ds)::fs))
 |.raw _=>some .any
theorem cS.Bl{O O' fp:List Addr}{h:Heap}{v:ag}{q:OD}{d:D}(r:cS c O h v q fp)(hq:q.Bl=some d)(hf:∀a∈fp,a∉O')(hO:∀a∈O',a∈O):bh c.w O' h v d:=by
 have hs:∀a∈O',a∈O∨h.objs.size≤a:= λ a h=>.inl (hO a h);cases q with
 |lst ds=>
  refine bL r ?_;clear r;intro a vs z1 z2 e r;subst z1;subst z2;cases hq;exact⟨a,vs,rfl,hf a (.head _),e,a7.kept (.refl O h) hs r⟩
 |dm xs=>
  refine cI r ?_;clear r;intro a ts n z1 z2 e r;subst z1;subst z2;cases hq;exact⟨a,ts,n,rfl,hf a (.head _),e,r⟩
 |k8 k st=>
  refine lB r ?_;clear r;intro a es n z1 zh;refine b_ zh ?_;clear zh;intro z2 e kt r;subst z1;subst z2;cases hq;exact⟨a,es,n,rfl,hf a (.head _),e,kt,bM.kept (.refl O h) hs r⟩
 |dK n sN=>
  refine c8 r ?_;clear r;intro a f ps z1 z2 zh;refine b_ zh ?_;clear zh;intro e hl hm r;subst z1;subst z2;cases hq;exact⟨a,f,ps,rfl,hf a (.head _),e,hm,lM.kept (.refl O h) hs r⟩
 |inst u k fs=>
  refine iz r ?_;clear r;intro a dx zh;refine c8 zh ?_;clear zh;intro es n ps z1 z2 zh;refine b_ zh ?_;clear zh;intro hu ku e zh;refine b_ zh ?_;clear zh;intro e' hz hm r;subst z1;subst z2;cases hq;exact⟨a,dx,es,n,ps,rfl,hf a (.head _),hf dx (.tail _ (.head _)),e,e',hm,eA.kept (.refl O h) hs r⟩
 |kc u k fs y ds=>
  refine xe r ?_;clear r;intro a zh;refine iq zh ?_;clear zh;intro dx l es zh;refine cI zh ?_;clear zh;intro n ps vs z1 z2 hu zh;refine b_ zh ?_;clear zh;intro h1 h2 h3 zh;refine b_ zh ?_;clear zh;intro e e' hz zh;refine b_ zh ?_;clear zh;intro hm r TB r';subst z1;subst z2;cases hq;refine⟨a,dx,es,n,(y,.ref l)::ps,rfl,hf a (.head _),hf dx (.tail _ (.head _)),e,e',λ x=>?_,?_⟩
  ·rw[hm,aX]
   by_cases hx:x=y
   ·subst hx;simp
   ·rw[if_neg hx,show(x==y)=false by simpa using hx]
  ·refine⟨rfl,?_,eA.kept (.refl O h) hs r⟩;show bh c.w O' h (.ref l) (.lst ds);exact⟨l,vs,rfl,hf l (.tail _ (.tail _ (.head _))),TB,a7.kept (.refl O h) hs r'⟩
 |raw P=>cases hq;trivial
theorem Inv.freeze{β:dH}{O:List Addr}{ad:Nat→List Addr}{s:ae}(I:Inv c E β O ad ρ s){i:Nat}{x:Str}{q:OD}{d:D}(hx:E.vn[i]? =some x)(dQ:ρ[i]? =some (.own true q))(hq:q.Bl=some d):
  Inv c E β (O.filter λ a=>decide (a∉ad i)) (λ j=>if j=i then []else ad j) (ρ.set i (.val d)) s:=by
 have ic:∀a∈O.filter (λ a=>decide (a∉ad i)),a∈O∧a∉ad i:= λ a h=>by simpa using aN.mp h
 have td:∀a,a∈O→a∉ad i→a∈O.filter λ a=>decide (a∉ad i):= λ a h h'=>aN.mpr ⟨h,by simpa using h'⟩;have hl:i<ρ.length:=(ay.mp dQ).1;have hv:=I.vars i x hx;rw[show ρ.getD i .no=.own true q by rw[ai,dQ];rfl]at hv;refine cH hv ?_;clear hv;intro v b r k;have h1:∀a∈β.O,a∈O.filter λ a=>decide (a∉ad i):= λ a h=>td a (I.sub a h) λ h'=>(k a h').2.2.2.2.1 h;have h2:∀p∈E.env.cells,p.2∈O.filter λ a=>decide (a∉ad i):= λ p h=>td _ (I.ti p h) λ h'=>(k _ h').2.2.1 p h rfl;refine⟨I.ok,I.br,I.grow,λ a h=>I.lt a (ic a h).1,λ a h=>I.low a (ic a h).1,h1,I.n7,λ a h=>I.new a (ic a h).1,I.ns,I.cells,td _ I.uA λ h=>(k _ h).2.1 rfl,h2,I.CF,I.CG,?_,?_,?_⟩
 ·intro j y hj
  by_cases Ee:j=i
  ·subst Ee;rw[hx]at hj;cases hj;rw[show(ρ.set j (.val d)).getD j .no=.val d by rw[ai,bp hl];rfl];simp only[if_true];exact⟨rfl,v,b,r.Bl hq (λ a h h'=>(ic a h').2 h) λ a h=>(ic a h).1⟩
  ·rw[show(ρ.set i (.val d)).getD j .no=ρ.getD j .no by rw[ai,aQ (Ne.symm Ee),← ai],if_neg Ee];have:=I.vars j y hj;have hs:nL O (O.filter λ a=>decide (a∉ad i)) s:= λ a h=>.inl (ic a h).1;cases hr:ρ.getD j .no with
   |no=>rw[hr]at this;exact this
   |val d'=>
    rw[hr]at this;refine mn this ?_;clear this;intro e v' b' r';exact⟨e,v',b',bh.kept (.refl O _) hs r'⟩
   |own m q'=>
    rw[hr]at this;refine cH this ?_;clear this;intro v' b' r' k';exact⟨v',b',(aB.refl c [] [] s).own (λ z=>nn) hs (λ z z=>nn) (λ a z o e=>.inr e) r',λ a ha=>⟨td a (k' a ha).1 (I.mE j i Ee a ha),(k' a ha).2⟩⟩
 ·intro j k' Qr a ha;have ha:a∈(if j=i then []else ad j):=ha;show a∉ (if k'=i then []else ad k')
  split at ha
  ·exact nn ha
  ·split
   ·exact nn
   ·exact I.mE j k' Qr a ha
 ·intro j hj;have:=(ay.mp hx).1;show(if j=i then []else ad j)=[];rw[if_neg (by lia)];exact I.out j hj
theorem Ex.freeze(i:Nat){x:Str}{q:OD}{d:D}{ss:List Stmt}{out:Out}(hx:E.vn[i]? =some x)(dQ:ρ[i]? =some (.own true q))(hq:q.Bl=some d)(h:Ex c n E (ρ.set i (.val d)) ss out):Ex c n E ρ ss out:=
 λ A β s R w0=>iz w0 λ O ad I=>h A β s R ⟨_,_,I.freeze hx dQ hq⟩
end
structure Snap where
 s:ae
 O:List Addr
 K:List Addr
noncomputable def cA(c:Cx)(k:Snap)(s:ae):Prop:=∃V G',aB c V G' k.s s∧∀a∈V,(a∈k.O∨k.s.heap.objs.size≤a)∧a∉k.K
noncomputable def uU(c:Cx)(k:Snap)(F:List Addr)(s₀ s:ae)(v:ag)(d:D):Prop:=∀O,nL k.O O k.s→(∀a∈O,a<s₀.heap.objs.size∨a∈F)→bh c.w O s.heap v d
noncomputable def rU(F F':List Addr)(s s':ae):Prop:=∀a∈F',a∈F∨(s.heap.objs.size≤a∧a<s'.heap.objs.size)
theorem rU.refl(F:List Addr)(s s':ae):rU F F s s':= λ z h=>.inl h
theorem cA.refl{c:Cx}{k:Snap}:cA c k k.s:=⟨[],[],.refl ..,λ z=>nn⟩
theorem cA.step{c:Cx}{k:Snap}{s s':ae}{W:List Addr}{G:List Nat}(h:cA c k s)(x:aB c W G s s')(hW:∀a∈W,(a∈k.O∨k.s.heap.objs.size≤a)∧a∉k.K):cA c k s':=by
 refine ez h ?_;clear h;intro V G' y hV;exact⟨V++W,G'++G,(y.mono (λ a h=>.inl (aF _ h)) (λ g h=>.inl (aF _ h))).trans (x.mono (λ a h=>.inl (ao _ h)) λ g h=>.inl (ao _ h)),
  λ a h=>(aC.mp h).elim (hV a) (hW a)⟩
structure nM(c:Cx)(A:aK)(tg:Expr)(it:ag)(k:Snap)(G:List Nat)(P:List Addr→List D→ae→Prop):Prop where
 det:∀{F F':List Addr} {ds lJ:List D} {s:ae},P F ds s→P F' lJ s→F=F'
 frame:∀{F V:List Addr} {G':List Nat} {ds:List D} {s s':ae},P F ds s→aB c V G' s s'→bF c s'→(∀a∈V,a∉F)→(∀g∈G',g∉G∧g<s.gens.size∨s.gens.size≤g)→P F ds s'
 next:∀{F:List Addr} {ds:List D} {d:D} {s:ae},bF c s→cA c k s→(∀a∈F,c.B≤a)→P F (d::ds) s→wpAny (model c.prog c.w) A (pyNext it)
  (λ r au=>∃v,r=some v∧wpAny (model c.prog c.w) A (letOwnedTupleGo tg it v) (λ z s'=>aB c F G s s'∧bF c s'∧∃F',rU F F' s s'∧uU c k F' s s' v d∧P F' ds s') aZ au) aZ s
 done:∀{F:List Addr} {s:ae},bF c s→cA c k s→(∀a∈F,c.B≤a)→P F [] s→wpAny (model c.prog c.w) A (pyNext it) (λ r s'=>r=none∧aB c F G s s'∧bF c s') aZ s
 self:∀{A':aK} {F:List Addr} {ds:List D} {s:ae},bF c s→P F ds s→wpAny (model c.prog c.w) A' (pyIter it) (λ v s'=>v=it∧s'=s) aZ s
noncomputable def iI(c:Cx)(n:Nat)(tg:Expr)(O K:List Addr)(s₀:ae)(ds:List D)(it:ag)(s:ae):Prop:=
 ∃F G,(∀a∈F,s₀.heap.objs.size≤a∧a<s.heap.objs.size)∧(∀g∈G,s₀.gens.size≤g∧g<s.gens.size)∧∀A,Rm A n→∃P,nM c A tg it ⟨s,F++O,K⟩ G P∧P F ds s
noncomputable def Ib(c:Cx)(n:Nat)(tg:Expr)(d:D)(Ds:List D→Prop):Prop:=
 ∀(A:aK) (O:List Addr) (s:ae) (v:ag),Rm A n→Ok c O s→bh c.w O s.heap v d→wpAny (model c.prog c.w) A (pyIter v) (λ it s'=>aB c [] [] s s'∧bF c s'∧∃ds,Ds ds∧iI c n tg O [] s ds it s') aZ s
noncomputable def kg(c:Cx)(n:Nat)(E:VE)(ρ:List Sl)(e:Expr)(tg:Expr)(Ds:List D→Prop):Prop:=
 ∀(A:aK) (β:dH) (O:List Addr) (ad:Nat→List Addr) (s:ae),Rm A n→Inv c E β O ad ρ s→wpAny (model c.prog c.w) A (eval e E.env) (λ v au=>wpAny (model c.prog c.w) A (pyIter v)
  (λ it s'=>aB c [] [] s s'∧bF c s'∧∃ds,Ds ds∧iI c n tg O [] s ds it s') aZ au) aZ s
section
variable {c:Cx}{n:Nat}{E:VE}{ρ ρ' ρ'':List Sl}
theorem iI.back{n:Nat}{tg:Expr}{O K:List Addr}{s₀ au s:ae}{ds:List D}{it:ag}(x:aB c [] [] s₀ au)(h:iI c n tg O K au ds it s):iI c n tg O K s₀ ds it s:=by
 refine dj h ?_;clear h;intro F G h1 h2 h3;exact⟨F,G,λ a h=>⟨af x.size (h1 a h).1,(h1 a h).2⟩,λ g h=>⟨af x.dv (h2 g h).1,(h2 g h).2⟩,h3⟩
theorem kg.of{e tg:Expr}{d:D}{Ds:List D→Prop}(h:Ev c n E ρ e d)(k:Ib c n tg d Ds):kg c n E ρ e tg Ds:= λ A β O ad s R I=>
 h.go R I λ v au x bj r=>wm (k A O au v R bj.o r) λ it aH q=>by
  refine nO q ?_;clear q;intro cE S ds hd hi;exact⟨x.trans cE,S,ds,hd,hi.back x⟩
structure LI(c:Cx)(E:VE)(β:dH)(k:Snap)(F:List Addr)(G:List Nat)(O:List Addr)(ad:Nat→List Addr)(ρ:List Sl)(s:ae):Prop where
 I:Inv c E β O ad ρ s
 hF:∀a∈F++k.K,a∈O
 hL:E.env.locals∉F++k.K
 hC:∀p∈E.env.cells,p.2∉F++k.K
 hV:∀i,∀a∈ad i,a∉F++k.K
 hW:∀a∈F,BC β a∧(a∈k.O∨k.s.heap.objs.size≤a)∧a∉k.K
 hG:∀g∈G,g∈β.G∨β.s.gens.size≤g
 Gi:∀g∈G,g<s.gens.size
 hS:cA c k s
 hN:nL k.O O k.s
 hK:∀a∈k.K,a<k.s.heap.objs.size
theorem cA.size{c:Cx}{k:Snap}{s:ae}(h:cA c k s):k.s.heap.objs.size≤s.heap.objs.size:=let⟨_,_,g,_⟩:=h;g.size
section
variable {c:Cx}{E:VE}{β:dH}{k:Snap}{F F':List Addr}{G:List Nat}{O:List Addr}{ad:Nat→List Addr}{ρ:List Sl}{s s':ae}
theorem LI.low(L:LI c E β k F G O ad ρ s):∀a∈F,c.B≤a:= λ a h=>L.I.low a (L.hF a (aF _ h))
theorem LI.rep{v:ag}{d:D}(L:LI c E β k F G O ad ρ s)(h:uU c k F' s s' v d)(hF:rU F F' s s'):bh c.w (F'++O) s'.heap v d:=
 h _ (λ a h=>(aC.mp h).elim (λ h=>(hF a h).elim (λ h=>(L.hW a h).2.1) λ h=>.inr (af L.hS.size h.1)) (L.hN a)) λ a h=>(aC.mp h).elim .inr λ h=>.inl (L.I.lt a h)
end
theorem nq{A:aK}{s:ae}{R:iu→ae→Prop}{target:Expr}{it:ag}{body:List Stmt}{env:Env}(h:wpAny (model c.prog c.w) A (pyNext it) (λ r au=>match r with
   |none=>R (.ok .next) au
   |some v=>wpAny (model c.prog c.w) A (letOwnedTupleGo target it v) (λ z Je=>wpAny (model c.prog c.w) A (assign target env v) (λ z aH=>wpAny (model c.prog c.w) A (execs body env) (λ f cn=>match f with
      |.next|.cont=>codeAny (model c.prog c.w) A (.forLoop target it body [] env) R cn
      |.brk=>R (.ok .next) cn
      |.ret v=>R (.ok (.ret v)) cn) aZ aH) aZ Je) aZ au) aZ s):codeAny (model c.prog c.w) A (.forLoop target it body [] env) R s:=by
 refine iK ?_;show wpAny _ A ((forTurn target it body [] env).onRaise (λ x=>do noteFrame x env;theTreesLotGoes x)) _ _ s;refine As ?_;simp only[forTurn];refine aa (bQ (aa (wpAny_onRaise (wm h λ r au cq=>?_))));cases r with
 |none=>exact ah ⟨rfl,codeAny_block (qU cq)⟩
 |some v=>
  refine wb cq λ z Je NK=>?_;refine wb NK λ z aH cM=>aa (wm cM λ f cn mC=>?_);cases f with
  |next=>exact ah ⟨rfl,mC⟩
  |cont=>exact ah ⟨rfl,mC⟩
  |brk=>exact ah mC
  |ret v=>exact ah mC
noncomputable abbrev JY(c:Cx)(E:VE)(β:dH)(out:Out):iu→ae→Prop:= λ r s'=>match r with
 |.ok f=>mF c E β out f s'
 |.error _=>False
noncomputable def Lp(c:Cx)(n:Nat)(E:VE)(ρ:List Sl)(tg:Expr)(body:List Stmt)(ds:List D)(out:Out):Prop:=
 ∀(A:aK) (β:dH) (O:List Addr) (ad:Nat→List Addr) (s:ae) (it:ag) (k:Snap) (F:List Addr) (G:List Nat) (P:List Addr→List D→ae→Prop),Rm A n→nM c A tg it k G P→LI c E β k F G O ad ρ s→P F ds s→
  codeAny (model c.prog c.w) A (.forLoop tg it body [] E.env) (JY c E β out) s
theorem LI.moved{β:dH}{k:Snap}{F F':List Addr}{G:List Nat}{O:List Addr}{ad:Nat→List Addr}{s s':ae}(L:LI c E β k F G O ad ρ s)(x:aB c F G s s')(S:bF c s')(hf:rU F F' s s'):LI c E β k F' G (F'++O) ad ρ s':=by
 have eO:∀a∈F,a∈F++k.K:= λ a h=>aF _ h;have zo:∀a∈F'++k.K,a∈F++k.K∨s.heap.objs.size≤a:= λ a h=>(aC.mp h).elim (λ h=>(hf a h).imp (eO a) And.left) λ h=>.inl (ao _ h);refine⟨L.I.apart x S (λ a h=>.inl (L.hF a (eO a h))) (λ a h=>(L.hW a h).1) L.hG (λ h=>L.hL (eO _ h)) (λ p hp h=>L.hC p hp (eO _ h)) (λ i z a ha h=>L.hV i a ha (eO _ h)) (λ a h=>(aC.mp h).elim (λ h=>(hf a h).imp (λ h=>L.hF a (eO a h)) id) .inl) λ z h=>ao _ h,
  λ a h=>?_,λ h=>?_,λ p hp h=>?_,λ i a ha h=>?_,λ a h=>?_,L.hG,λ g h=>ab (L.Gi g h) x.dv,L.hS.step x λ a h=>(L.hW a h).2,λ a h=>?_,L.hK⟩
 ·exact(aC.mp h).elim (aF _) λ h=>ao _ (L.hF a (ao _ h))
 ·exact(zo _ h).elim L.hL λ h=>ak _ (ab (L.I.lt _ L.I.uA) h)
 ·exact(zo _ h).elim (L.hC p hp) λ h=>ak _ (ab (L.I.lt _ (L.I.ti p hp)) h)
 ·exact(zo _ h).elim (L.hV i a ha) λ h=>ak _ (ab (L.I.small i a ha).2.1 h)
 ·rcases hf a h with h|h
  ·exact L.hW a h
  ·exact⟨.inr (af L.I.grow.size h.1),.inr (af L.hS.size h.1),λ hk=>ak _ (ab (L.hK a hk) (af L.hS.size h.1))⟩
 ·rcases aC.mp h with h|h
  ·exact(hf a h).elim (λ h=>(L.hW a h).2.1) λ h=>.inr (af L.hS.size h.1)
  ·exact L.hN a h
theorem mF.up{β jW:dH}(u:JV c β jW){out:Out}{f:Flow}{s:ae}(h:mF c E jW out f s):mF c E β out f s:=by
 cases out with
 |next ρ=>exact⟨h.1,let⟨O,ad,I⟩:=h.2; ⟨O,ad,u.up I⟩⟩
 |brk ρ=>exact⟨h.1,let⟨O,ad,I⟩:=h.2; ⟨O,ad,u.up I⟩⟩
 |cont ρ=>exact⟨h.1,let⟨O,ad,I⟩:=h.2; ⟨O,ad,u.up I⟩⟩
 |ret d=>
  refine eG h ?_;clear h;intro v e g S r;exact⟨v,e,u.grow.comp g u.W u.G,S,bh.kept (.refl _ _) (λ a h=>.inl (u.O a h)) r⟩
 |qq q=>
  refine ez h ?_;clear h;intro v fp e zh;refine b_ zh ?_;clear zh;intro g S r hf;exact⟨v,fp,e,u.grow.comp g u.W u.G,S,(aB.refl c [] [] s).own (λ z h=>nn h) (λ a h=>.inl ((aC.mp h).elim (λ h=>aF _ h) λ h=>ao _ (u.O a h))) (λ z z=>nn) (λ a z o e=>.inr e) r,
   λ a h=>⟨u.may (hf a h).1,(hf a h).2⟩⟩
theorem Lp.nil{tg:Expr}{body:List Stmt}:Lp c n E ρ tg body [] (.next ρ):= λ A β O ad s it κ F G P R T L p=>
 nq (wm (T.done L.I.br L.hS L.low p) λ r s' q=>by
  obtain⟨rfl,x,S⟩:=q;exact⟨rfl,_,ad,(L.moved x S (.refl F s s')).I⟩)
theorem Lp.turn{tg:Expr}{body:List Stmt}{d:D}{ds:List D}{out Kz:Out}(t:ju c n E ρ tg d ρ')(b:Ex c n E ρ' body Kz)(k:match Kz with|.next ρ''=>Lp c n E ρ'' tg body ds out|.cont ρ''=>Lp c n E ρ'' tg body ds out|.brk ρ''=>out=.next ρ''|o=>out=o):Lp c n E ρ tg body (d::ds) out:= λ A β O ad s it κ F G P R T L p=>
 nq (wm (T.next L.I.br L.hS L.low p) λ r au q=>by
  refine cW q ?_;clear q;intro v z1 q;subst z1;refine wk q λ z aH q=>?_;refine tx q ?_;clear q;intro x S F' hf r p;have r:=L.rep r hf;have rT:=L.moved x S hf;refine eG (rT.I.anchor rT.hF rT.hL rT.hC λ i z=>rT.hV i) λ jW G7 u I' zh=>b_ zh λ hW hG hF hN=>?_;refine wk (t A jW _ ad aH v R I' r) λ z cn q=>?_;refine ez q ?_;clear q;intro ad' z jU z;refine wk (b A jW cn R ⟨_,ad',jU⟩) λ f d9 q=>?_;subst G7;have key:∀ρ'',zY c E jW ρ'' d9→∃O' pO,LI c E β κ F' G O' pO ρ'' d9∧P F' ds d9:=by
   rintro ρ'' ⟨O',pO,i4⟩
   have hz:κ.s.heap.objs.size≤jW.s.heap.objs.size:=rT.hS.size;refine⟨O',pO,⟨u.up i4,λ a h=>i4.sub a (hF a h),rT.hL,rT.hC,λ i a ha hf=>(i4.small i a ha).2.2.2.2 (hF a hf),rT.hW,L.hG,λ g h=>ab (rT.Gi g h) i4.grow.dv,rT.hS.step i4.grow λ a h=>⟨rT.hN a (hW a h).2,λ hk=>(hW a h).1 (ao _ hk)⟩,λ a h=>?_,L.hK⟩,?_⟩
   ·exact(i4.new a h).elim (λ h=>rT.hN a (hN a h)) λ h=>.inr (af hz h)
   ·exact T.frame p i4.grow i4.br (λ a h hf=>(hW a h).1 (aF _ hf)) (λ g h=>by rw[hG]at h;exact nn h)
  cases Kz with
  |next ρ''=>
   refine xa q ?_;clear q;intro z1 q;subst z1;refine ez (key _ q) λ O' pO L' p'=>?_;exact k A β O' pO d9 it κ F' G P R T L' p'
  |cont ρ''=>
   refine xa q ?_;clear q;intro z1 q;subst z1;refine ez (key _ q) λ O' pO L' p'=>?_;exact k A β O' pO d9 it κ F' G P R T L' p'
  |brk ρ''=>
   refine xa q ?_;clear q;intro z1 q;subst z1;subst k;refine iz q ?_;clear q;intro O' pO i4;exact⟨rfl,O',pO,u.up i4⟩
  |ret d=>
   subst k;refine cW q ?_;clear q;intro v' z1 r;subst z1;exact mF.up u (out:=.ret d) ⟨v',rfl,r⟩
  |qq q'=>
   subst k;refine ez q ?_;clear q;intro v' fp z1 r;subst z1;exact mF.up u (out:=.qq q') ⟨v',fp,rfl,r⟩)
theorem Lp.step{tg:Expr}{body:List Stmt}{d:D}{ds:List D}{out:Out}(t:ju c n E ρ tg d ρ')(b:Ex c n E ρ' body (.next ρ''))(k:Lp c n E ρ'' tg body ds out):Lp c n E ρ tg body (d::ds) out:=Lp.turn t b k
theorem Lp.stop{tg:Expr}{body:List Stmt}{d:D}{ds:List D}(t:ju c n E ρ tg d ρ')(b:Ex c n E ρ' body (.brk ρ'')):Lp c n E ρ tg body (d::ds) (.next ρ''):=Lp.turn t b rfl
theorem Lp.ret{tg:Expr}{body:List Stmt}{d d':D}{ds:List D}(t:ju c n E ρ tg d ρ')(b:Ex c n E ρ' body (.ret d')):Lp c n E ρ tg body (d::ds) (.ret d'):=Lp.turn t b rfl
theorem LI.start{β:dH}{O:List Addr}{ad:Nat→List Addr}{s s':ae}{F:List Addr}{G:List Nat}(I:Inv c E β O ad ρ s)(x:aB c [] [] s s')(S:bF c s')(hF:∀a∈F,s.heap.objs.size≤a∧a<s'.heap.objs.size)(hG:∀g∈G,s.gens.size≤g∧g<s'.gens.size):LI c E β ⟨s',F++O,[]⟩ F G (F++O) ad ρ s':=by
 refine⟨I.t5 x S hF,λ a h=>?_,λ h=>?_,λ p hp h=>?_,λ i a ha h=>?_,λ a h=>⟨.inr (af I.grow.size (hF a h).1),.inl (aF _ h),by simp⟩,λ g h=>.inr (af I.grow.dv (hG g h).1),λ g h=>(hG g h).2,.refl,λ z h=>.inl h,λ z=>nn⟩
 all_goals rw[bK]at h
 ·exact aF _ h
 ·exact ak _ (ab (I.lt _ I.uA) (hF _ h).1)
 ·exact ak _ (ab (I.lt _ (I.ti p hp)) (hF _ h).1)
 ·exact ak _ (ab (I.small i a ha).2.1 (hF _ h).1)
theorem ba.for{tg iter:Expr}{body:List Stmt}{pos:Pos}{Ds:List D→Prop}{out:Out}(h:kg c n E ρ iter tg Ds)(k:∀ds,Ds ds→Lp c n E ρ tg body ds out)(hf:∀x,foldedSetIterable iter E.env x=pure x:=by intro z;rfl):
  ba c n E ρ (.For tg iter body [] pos) out:= λ A β s R w0=>iz w0 λ O ad I=>
 wpAny_For (wm (h A β O ad s R I) λ v au q=>wk q λ it aH q=>by
  refine nO q ?_;clear q;intro x S ds hd zh;refine dj zh ?_;clear zh;intro F G hF hG q;refine cW (q A R) λ P T p=>?_;refine bc (k ds hd A β (F++O) ad aH it _ F G P R T (.start I x S hF hG) p) λ r cn q=>?_;cases r with
  |ok f=>exact q
  |error e=>exact q.elim) hf
noncomputable def Wh(c:Cx)(n:Nat)(E:VE)(ρ:List Sl)(test:Expr)(body:List Stmt)(out:Out):Prop:=
 ∀(A:aK) (β:dH) (s:ae),Rm A n→zY c E β ρ s→codeAny (model c.prog c.w) A (.whileLoop test body [] E.env) (JY c E β out) s
theorem jn{A:aK}{s:ae}{R:iu→ae→Prop}{test:Expr}{body:List Stmt}{env:Env}(h:wpAny (model c.prog c.w) A (PySem.isTrue test env (eval test env)) (λ b aH=>if b=true then wpAny (model c.prog c.w) A (execs body env) (λ f cn=>match f with
    |.next|.cont=>codeAny (model c.prog c.w) A (.whileLoop test body [] env) R cn
    |.brk=>R (.ok .next) cn
    |.ret v=>R (.ok (.ret v)) cn) aZ aH else R (.ok .next) aH) aZ s):codeAny (model c.prog c.w) A (.whileLoop test body [] env) R s:=by
 refine iK ?_;show wpAny _ A ((whileTurn test body [] env).onRaise (λ x=>do noteFrame x env;theTreesLotGoes x)) _ _ s;refine As ?_;refine wb h λ b aH cM=>?_;cases b with
 |true=>
  rw[if_pos rfl]at cM⊢;refine wb cM λ f cn mC=>?_;cases f with
  |next=>exact ah ⟨rfl,mC⟩
  |cont=>exact ah ⟨rfl,mC⟩
  |brk=>exact ah mC
  |ret v=>exact ah mC
 |false=>
  rw[if_neg (by decide)]at cM⊢;exact aa (qU (ah cM))
theorem Wh.done{test:Expr}{body:List Stmt}(t:Tr c n E ρ test false):Wh c n E ρ test body (.next ρ):= λ A β s R w0=>iz w0 λ O ad I=>
 jn (t.go R I λ au x bj=>by rw[if_neg (by decide)];exact⟨rfl,O,ad,bj⟩)
theorem Wh.step{test:Expr}{body:List Stmt}{out:Out}(t:Tr c n E ρ test true)(b:Ex c n E ρ body (.next ρ'))(k:Wh c n E ρ' test body out):Wh c n E ρ test body out:= λ A β s R w0=>iz w0 λ O ad I=>
 jn (t.go R I λ au x bj=>by
  rw[if_pos rfl];refine wm (b A β au R ⟨O,ad,bj⟩) λ f aH q=>?_;obtain⟨rfl,q⟩:=q;exact k A β aH R q)
theorem Wh.ret{test:Expr}{body:List Stmt}{d:D}(t:Tr c n E ρ test true)(b:Ex c n E ρ body (.ret d)):Wh c n E ρ test body (.ret d):= λ A β s R w0=>iz w0 λ O ad I=>
 jn (t.go R I λ au x bj=>by
  rw[if_pos rfl];refine wm (b A β au R ⟨O,ad,bj⟩) λ f aH q=>?_;refine cW q ?_;clear q;intro v z1 q;subst z1;exact⟨v,rfl,q⟩)
theorem ba.while{test:Expr}{body:List Stmt}{pos:Pos}{out:Out}(h:Wh c n E ρ test body out):ba c n E ρ (.While test body [] pos) out:= λ A β s R I=>
 wpAny_While (bc (h A β s R I) λ r cn q=>by
  cases r with
  |ok f=>exact q
  |error e=>exact q.elim)
end
noncomputable def Sl.ro:Sl→Sl
 |.own _ q=>.own false q
 |x=>x
noncomputable def freeNames(scope:iT):List Str:=(scope.names.filter λ x=>x.2==.free).map (·.1)
noncomputable def t8:List Str→Bool
 |[]=>true
 |x::r=>r.all (λ y=> !(x==y))&&t8 r
noncomputable def ji(vn:List Str)(j:Nat):Str:=vn.getD j Str.empty
noncomputable def sA(env:Env)(vn:List Str)(scope:iT)(tn:List Str)(ix:List Nat):Bool:=
 [scope.kind==.function,scope.names.all (λ x=>x.2 !=.cell),freeNames scope==ix.map (ji vn),ix.all (λ j=>decide (j<vn.length)&&env.kindOf (ji vn j)!=some .local),
  tn.all (λ x=>scope.names.lookup x==some .local&& !(x==("__debug__":Str))&& !(x==("__classdict__":Str))),ix.all (λ j=>scope.names.lookup (ji vn j)==some .free),t8 (tn++ix.map (ji vn)),
  scope.names.all (λ x=>x.2 !=.local||scope.names.lookup x.1==some .local),!scope.isCoroutine].all id
structure sF(env:Env)(vn:List Str)(scope:iT)(tn:List Str)(ix:List Nat):Prop where
 kind:scope.kind=.function
 Fd:∀x∈scope.names,x.2≠.cell
 free:freeNames scope=ix.map (ji vn)
 Qu:∀j∈ix,j<vn.length∧env.kindOf (ji vn j)≠some .local
 N0:∀x∈tn,scope.names.lookup x=some .local∧(x==("__debug__":Str))=false∧(x==("__classdict__":Str))=false
 fr:∀j∈ix,scope.names.lookup (ji vn j)=some .free
 nodup:(tn++ix.map (ji vn)).Nodup
 names:∀x∈scope.names,x.2=.local→scope.names.lookup x.1=some .local
 co:scope.isCoroutine=false
theorem rt{l:List Str}(h:t8 l=true):l.Nodup:=by
 induction l with
 |nil=>exact .nil
 |cons x r ih=>
  have h:=aL.mp h;exact el.mpr ⟨λ hm=>bz ((bN (bf.mp h.1 x hm)).symm.trans (beq_self_eq_true x)),ih h.2⟩
theorem uL{env:Env}{vn:List Str}{scope:iT}{tn:List Str}{ix:List Nat}(h:sA env vn scope tn ix=true):sF env vn scope tn ix:=
 ⟨eq_of_beq (ga h 0 rfl),λ x hx=>bne_iff_ne.mp (bf.mp (ga h 1 rfl) x hx),eq_of_beq (ga h 2 rfl),λ j hj=>(aL.mp (bf.mp (ga h 3 rfl) j hj)).imp of_decide_eq_true bne_iff_ne.mp,
  λ x hx=>(aL.mp (bf.mp (ga h 4 rfl) x hx)).elim λ a b=>(aL.mp a).elim λ a c=>⟨eq_of_beq a,bN c,bN b⟩,λ j hj=>eq_of_beq (bf.mp (ga h 5 rfl) j hj),rt (ga h 6 rfl),
  λ x hx hl=>(qZ.mp (bf.mp (ga h 7 rfl) x hx)).elim (λ h=>absurd hl (bne_iff_ne.mp h)) eq_of_beq,bN (ga h 8 rfl)⟩
noncomputable def eS(cells:List (Str×Addr)):List (Str×gL)→List (Str×Addr)→List (Str×Addr)
 |[],acc=>acc
 |(n,k)::r,acc=>if k==.free then eS cells r ((n,(cells.lookup n).getD 0)::acc)else eS cells r acc
theorem uK(cells:List (Str×Addr))(n:Str)(k:gL)(r:List (Str×gL))(acc:List (Str×Addr)):eS cells ((n,k)::r) acc=if k==.free then eS cells r ((n,(cells.lookup n).getD 0)::acc)else eS cells r acc:=rfl
theorem Pz(cells:List (Str×Addr))(acc:List (Str×Addr)):eS cells [] acc=acc:=rfl
theorem pM{cells:List (Str×Addr)}{names:List (Str×gL)}{acc:List (Str×Addr)}{p:Str×Addr}:p∈eS cells names acc↔p∈acc∨∃x∈names,x.2=.free∧p=(x.1,(cells.lookup x.1).getD 0):=by
 induction names generalizing acc with
 |nil=>exact⟨.inl,λ h=>h.elim id λ w=>cW w λ _ h _=>nn h⟩
 |cons x r ih=>
  rw[show eS cells (x::r) acc=_ from uK cells x.1 x.2 r acc];cases hk:x.2==.free with
  |true=>
   rw[if_pos rfl];refine ih.trans ⟨λ h=>h.elim (λ h=>(aD.mp h).elim (λ e=>.inr ⟨x,.head _,eq_of_beq hk,e⟩) .inl) λ w=>cW w λ y hy q=>.inr ⟨y,.tail _ hy,q⟩,λ h=>h.elim (λ h=>.inl (.tail _ h)) λ w=>cW w λ y hy q=>(mc hy).elim (λ e=>.inl (e▸q.2▸ .head _)) λ hy=>.inr ⟨y,hy,q⟩⟩
  |false=>
   rw[if_neg bz];refine ih.trans ⟨λ h=>h.imp id λ w=>cW w λ y hy q=>⟨y,.tail _ hy,q⟩,λ h=>h.imp id λ w=>cW w λ y hy q=>(mc hy).elim (λ e=>bz (hk.symm.trans (beq_iff_eq.mpr ((congrArg Prod.snd e).trans q.1)))) λ hy=>⟨y,hy,q⟩⟩
theorem xQ{cells:List (Str×Addr)}(ha:cells.Pairwise λ x y=>x.2≠y.2){names:List (Str×gL)}{acc:List (Str×Addr)}(h1:∀p∈acc,cells.lookup p.1=some p.2)(h2:∀x∈names,x.2=.free→(cells.lookup x.1).isSome=true)(h3:acc.Pairwise (λ x y=>x.2≠y.2))(h4:((names.filter λ x=>x.2==.free).map (·.1)).Nodup)(h5:∀x∈names,x.2=.free→∀p∈acc,p.1≠x.1):(eS cells names acc).Pairwise λ x y=>x.2≠y.2:=by
 induction names generalizing acc with
 |nil=>exact h3
 |cons x r ih=>
  rw[show eS cells (x::r) acc=_ from uK cells x.1 x.2 r acc];cases hk:x.2==.free with
  |false=>
   rw[if_neg bz];rw[bZ (p:= λ x:Str×gL=>x.2==.free) (by rw[hk];exact bz)]at h4;exact ih h1 (λ x hx=>h2 x (.tail _ hx)) h3 h4 λ x hx=>h5 x (.tail _ hx)
  |true=>
   rw[if_pos rfl];rw[bY (p:= λ x:Str×gL=>x.2==.free) hk]at h4;have h4:=el.mp h4;refine xe (dF.mp (h2 x (.head _) (eq_of_beq hk))) λ a hl=>?_;have eg:(cells.lookup x.1).getD 0=a:=by rw[hl];rfl
   rw[eg];refine ih (λ p hp=>(mc hp).elim (λ e=>e▸hl) (h1 p)) (λ x hx=>h2 x (.tail _ hx)) (dP.mpr ⟨λ p hp e=>h5 x (.head _) (eq_of_beq hk) p hp (name_of_addr ha (bu (h1 p hp)) (e▸bu hl)),h3⟩) h4.2 λ y hy hf p hp=>(mc hp).elim (λ e q=>h4.1 ?_) (h5 y (.tail _ hy) hf p);exact aM.mpr ⟨y,aN.mpr ⟨hy,beq_iff_eq.mpr hf⟩,((congrArg Prod.fst e).trans q).symm⟩
theorem pL{scope:iT}{env:Env}(h:∀x∈scope.names,x.2=.free→(env.cells.lookup x.1).isSome=true):closureFor scope env=pure (eS env.cells scope.names []):=by
 suffices H:∀(names:List (Str×gL)) (acc:List (Str×Addr)),(∀x∈names,x.2=.free→(env.cells.lookup x.1).isSome=true)→
   (forIn names acc λ x r=>(match x with|(name,kind)=>if(kind==fI)=true then do let a ← cellOf env name;pure (iW ((name,a)::r))else pure (iW r):Sem _))=(pure (eS env.cells names acc):Sem _) by
  show((forIn scope.names [] _:Sem _)>>= λ cs=>pure cs)=_;rw[H scope.names [] h];rfl
 intro names
 induction names with
 |nil=>intro acc z;rfl
 |cons x r ih=>
  intro acc hh;obtain⟨n,k⟩:=x;rw[oY,uK];cases hk:k==.free with
  |true=>
   refine xe (dF.mp (hh (n,k) (.head _) (by simpa using hk))) λ a hl=>?_;have hl:env.cells.lookup n=some a:=hl;have hc:cellOf env n=pure a:=by unfold cellOf;rw[hl]
   simp only[hk,if_true,hc,hl,Option.getD_some];exact ih _ λ x hx=>hh x (.tail _ hx)
  |false=>
   simp only[hk,aR,if_false];exact ih _ λ x hx=>hh x (.tail _ hx)
structure DN(env dn:Env)(scope:iT)(C:Addr):Prop where
 kind:dn.scope.kind=.function
 glob:dn.globals=env.globals
 blt:dn.builtins=builtinsNs
 cells:dn.cells=eS env.cells scope.names []
 locals:dn.locals=C
 loc:∀x,scope.names.lookup x=some .local→dn.kindOf x=some .local
 fr:∀x,scope.names.lookup x=some .free→dn.kindOf x=some .cell∨dn.kindOf x=some .free
noncomputable def kL(E:VE)(dn:Env)(tn:List Str)(ix:List Nat):VE:=⟨dn,tn++ix.map (ji E.vn),tn.length⟩
noncomputable def oR(ρ:List Sl)(tn:List Str)(ix:List Nat):List Sl:=al tn.length .no++ix.map λ j=>(ρ.getD j .no).ro
noncomputable def uM(ad:Nat→List Addr)(tn:List Str)(ix:List Nat)(i:Nat):List Addr:=if i<tn.length then []else match ix[i-tn.length]? with|some j=>ad j|none=>[]
theorem kX{env:Env}:∀{names:List (Str×gL)} {x:Str},names.lookup x=some .free→
  (names.map λ (n,k)=>if(k==fI&&env.scope.kind==.function&&env.kindOf n==some .cell)then(n,kl)else(n,k)).lookup x=some .cell∨
  (names.map λ (n,k)=>if(k==fI&&env.scope.kind==.function&&env.kindOf n==some .cell)then(n,kl)else(n,k)).lookup x=some .free
 |[],_,h=>by trivial
 |(n,k)::r,x,h=>by
  have ih:=@kX env r x;show pV x ((if(k==fI&&env.scope.kind==.function&&env.kindOf n==some .cell)=true then(n,kl)else(n,k))::_)=_∨pV x ((if(k==fI&&env.scope.kind==.function&&env.kindOf n==some .cell)=true then(n,kl)else(n,k))::_)=_;cases hx:x==n with
  |true=>
   simp only[aX,hx]at h;cases h
   by_cases hc:((fI)==fI&&env.scope.kind==.function&&env.kindOf n==some .cell)=true
   ·rw[if_pos hc];left;simp[aX,hx]
   ·rw[if_neg hc];right;simp[aX,hx]
  |false=>
   simp only[aX,hx]at h
   by_cases hc:(k==fI&&env.scope.kind==.function&&env.kindOf n==some .cell)=true
   ·rw[if_pos hc];simp only[aX,hx];exact ih h
   ·rw[if_neg hc];simp only[aX,hx];exact ih h
section
variable {c:Cx}{n:Nat}{E:VE}{ρ ρ':List Sl}{scope:iT}{tn:List Str}{ix:List Nat}{β:dH}{O O':List Addr}{ad:Nat→List Addr}{s s':ae}
theorem DN.comp(h:QN E)(k:sF E.env E.vn scope tn ix)(C:Addr):DN E.env (compEnvC scope (eS E.env.cells scope.names []) C E.env) scope C:=
 ⟨k.kind,rfl,h.blt,rfl,rfl,λ x hx=>lookup_relabel_local hx,λ x hx=>kX hx⟩
theorem DN.gen(h:QN E)(k:sF E.env E.vn scope tn ix)(C:Addr)(code:ag):DN E.env (genEnv scope (eS E.env.cells scope.names []) C code builtinsNs E.env) scope C:=
 ⟨k.kind,rfl,rfl,rfl,rfl,λ x hx=>hx,λ x hx=>.inr hx⟩
theorem sF.cells(k:sF E.env E.vn scope tn ix)(h:QN E):∀x∈scope.names,x.2=.free→x.1∈E.vn∧E.env.kindOf x.1≠some .local∧(E.env.cells.lookup x.1).isSome=true:=by
 intro x hx hf;have hm:x.1∈freeNames scope:=aM.mpr ⟨x,aN.mpr ⟨hx,by simpa using hf⟩,rfl⟩;rw[k.free]at hm;refine cW (aM.mp hm) λ j hj e=>?_;have h1:=k.Qu j hj;have h2:x.1∈E.vn:=by
  rw[← e];unfold ji;rw[ai,aq h1.1];exact f_ h1.1
 refine⟨h2,e▸h1.2,?_⟩
 rcases h.var _ h2 with hl|⟨_,a,ha⟩
 ·exact absurd (e▸hl) (e▸h1.2)
 ·rw[ha];rfl
theorem Inv.block{TY:List Nat}(I:Inv c E β O ad ρ s)(k:sF E.env E.vn scope tn ix)(x:aB c [] TY s s')(S:bF c s'){C:Addr}{dn:Env}(e:DN E.env dn scope C)(hC:s.heap.objs.size≤C∧C<s'.heap.objs.size)(hO:∀a∈O',a∈O∨(s.heap.objs.size≤a∧a<s'.heap.objs.size))(hs:∀a∈O,a∈O')(XU:C∈O')(hn:∃m,s'.heap.Ns C m){W:List Addr}{G:List Nat}(XT:C∈W):
  Inv c (kL E dn tn ix) ⟨s',[],O',W,G⟩ O' (uM ad tn ix) (oR ρ tn ix) s':=by
 have ux:= λ x hx hf=>(k.cells I.ok x hx hf);have pD:∀p∈dn.cells,E.env.cells.lookup p.1=some p.2:=by
  intro p hp;rw[e.cells,pM]at hp
  rcases hp with hp|⟨y,hy,hf,rfl⟩
  ·exact nn hp
  ·refine xe (dF.mp (ux y hy hf).2.2) λ a ha=>?_;show _=some ((E.env.cells.lookup y.1).getD 0);rw[ha];rfl
 have F5:∀j∈ix,∃a,dn.cells.lookup (ji E.vn j)=some a∧E.env.cells.lookup (ji E.vn j)=some a:=by
  intro j hj;have hf:=k.fr j hj;have hm:(ji E.vn j,fI)∈scope.names:=bu hf;have td:(ji E.vn j,(E.env.cells.lookup (ji E.vn j)).getD 0)∈dn.cells:=by
   rw[e.cells,pM];exact .inr ⟨_,hm,rfl,rfl⟩
  have:∃a,dn.cells.lookup (ji E.vn j)=some a:=by
   cases hl:dn.cells.lookup (ji E.vn j)with
   |some a=>exact⟨a,rfl⟩
   |none=>
    exfalso;have:=BH.mp hl _ td;simp at this
  refine xe this ?_;clear this;intro a ha;exact⟨a,ha,pD _ (bu ha)⟩
 have Mc:∀(i:Nat) (y:Str),(kL E dn tn ix).vn[i]? =some y→(i<tn.length∧y∈tn)∨(tn.length≤i∧∃j,ix[i-tn.length]? =some j∧j∈ix∧y=ji E.vn j):=by
  intro i y hy;have hy:(tn++ix.map (ji E.vn))[i]? =some y:=hy
  by_cases hi:i<tn.length
  ·rw[mP hi]at hy;exact .inl ⟨hi,bw hy⟩
  ·rw[d8 (by exact cu hi),bR]at hy;cases hj:ix[i-tn.length]? with
   |none=>rw[hj]at hy;cases hy
   |some j=>
    rw[hj]at hy;cases hy;exact .inr ⟨by lia,j,rfl,bw hj,rfl⟩
 have RY:∀j∈ix,E.vn[j]? =some (ji E.vn j):= λ j hj=>by
  have h1:=(k.Qu j hj).1;unfold ji;rw[ai,aq h1];rfl
 refine⟨⟨e.kind,e.glob.trans I.ok.glob,e.blt,k.nodup,λ y hy=>?_,λ i y hi hy=>?_,?_,λ p hp he=>?_,λ y hy=>?_⟩,S,.refl ..,λ a h=>(hO a h).elim (λ h=>ab (I.lt a h) x.size) And.right,
  λ a h=>(hO a h).elim (I.low a) λ h=>af I.br.size h.1,λ z=>nn,λ z=>nn,λ z h=>.inl h,?_,λ y hy hk=>?_,?_,λ p hp=>?_,.inl ?_,λ i y a hi hy hk=>?_,λ i y hy=>?_,λ i j rH a ha=>?_,λ i hi=>?_⟩
 ·obtain⟨i,hi,hy⟩:=eW hy
  rcases Mc i y (by rw[aq hi,hy])with⟨_,hm⟩|⟨_,j,_,hj,rfl⟩
  ·exact .inl (e.loc y (k.N0 y hm).1)
  ·refine cW (F5 j hj) λ a ha z=>?_;exact .inr ⟨e.fr _ (k.fr j hj),a,ha⟩
 ·rcases Mc i y hy with⟨_,hm⟩|⟨h,_⟩
  ·show dn.kindOf y≠_;rw[e.loc y (k.N0 y hm).1];trivial
  ·have:i<tn.length:=hi;exact T4 this h
 ·show dn.cells.Pairwise _;rw[e.cells];refine xQ I.ok.apart (λ z=>nn) (λ x hx hf=>(ux x hx hf).2.2) .nil ?_ (λ z z z z h=>nn h);have:=(j0.mp k.nodup).2.1;rw[← k.free]at this;exact this
 ·have h1:=I.ti _ (bu (pD p hp));have h2:p.2=C:=he.trans e.locals;rw[h2]at h1;exact ak _ (ab (I.lt _ h1) hC.1)
 ·obtain⟨i,hi,hy⟩:=eW hy
  rcases Mc i y (by rw[aq hi,hy])with⟨_,hm⟩|⟨_,j,_,hj,rfl⟩
  ·exact(k.N0 y hm).2
  ·exact I.ok.JM _ (bw (RY j hj))
 ·show∃m,s'.heap.Ns dn.locals m;rw[e.locals];exact hn
 ·obtain⟨i,hi,hy⟩:=eW hy
  rcases Mc i y (by rw[aq hi,hy])with⟨_,hm⟩|⟨_,j,_,hj,rfl⟩
  ·exact absurd (e.loc y (k.N0 y hm).1) hk
  ·refine cW (F5 j hj) λ a ha Hc=>?_;refine ez (I.cells _ (bw (RY j hj)) (k.Qu j hj).2) λ a' v h1 h2=>?_;rw[Hc]at h1;cases h1;exact⟨a,v,ha,x.cell (by simp) h2⟩
 ·show dn.locals∈O';rw[e.locals];exact XU
 ·exact hs _ (I.ti _ (bu (pD p hp)))
 ·show dn.locals∈W;rw[e.locals];exact XT
 ·intro hc
  rcases Mc i y hy with⟨_,hm⟩|⟨h,_⟩
  ·exact absurd (e.loc y (k.N0 y hm).1) hk
  ·have:i<tn.length:=hi;exact T4 this h
 ·rcases Mc i y hy with⟨hi,hm⟩|⟨hi,j,hj,Qq,rfl⟩
  ·rw[show(oR ρ tn ix).getD i .no=.no by
    unfold oR;rw[ai,mP (by simpa using hi),BI];simp[hi]]
   show uM ad tn ix i=[];unfold uM;rw[if_pos hi]
  ·rw[show(oR ρ tn ix).getD i .no=(ρ.getD j .no).ro by
    unfold oR;rw[ai,d8 (by simpa using hi),D4,bR,hj];rfl,
    show uM ad tn ix i=ad j by unfold uM;rw[if_neg (by lia),hj]]
   have Dx:nL O O' s:= λ a h=>(hO a h).imp id And.left;refine cW (F5 j Qq) λ a ha Hc=>?_;have K_:dn.kindOf (ji E.vn j)≠some .local:=by rcases e.fr _ (k.fr j Qq)with h|h<;>rw[h]<;>trivial
   have hb:∀v,Bound s.heap E.env (ji E.vn j) v→Bound s'.heap dn (ji E.vn j) v:= λ v b=>by
    refine⟨λ h=>absurd h K_,λ z=>?_⟩;refine cW (b.2 (k.Qu j Qq).2) λ a' h1 h2=>?_;rw[Hc]at h1;cases h1;exact⟨a,ha,x.cell (by simp) h2⟩
   have:=I.vars j _ (RY j Qq);cases hr:ρ.getD j .no with
   |no=>rw[hr]at this;exact this
   |val d=>
    rw[hr]at this;refine mn this ?_;clear this;intro e' v b r;exact⟨e',v,hb v b,x.rep (λ z=>nn) Dx r⟩
   |own m q=>
    rw[hr]at this;refine cH this ?_;clear this;intro v b r k';refine⟨v,hb v b,x.own (λ z=>nn) Dx (λ z z=>nn) (λ a ha o e=>.inr (x.get (nn) (I.Fc (k' a ha).1) e)) r,λ a ha=>⟨hs _ (k' a ha).1,?_,λ p hp=>?_,λ h=>(nomatch h),by simp,ab (k' a ha).2.2.2.2.2 x.size⟩⟩
    ·show a≠dn.locals;rw[e.locals];exact λ h=>ak _ (ab (k' a ha).2.2.2.2.2 (h▸hC.1))
    ·exact(k' a ha).2.2.1 _ (bu (pD p hp))
 ·unfold uM at ha⊢
  split at ha
  ·exact nn ha
  ·split
   ·exact nn
   ·rename_i h1 h2;cases hj:ix[i-tn.length]? with
    |none=>rw[hj]at ha;exact nn ha
    |some RB=>
     rw[hj]at ha;cases Ot:ix[j-tn.length]? with
     |none=>simp
     |some RA=>
      refine I.mE RB RA (λ he=>?_) a ha;subst he;have xE:(ix.map (ji E.vn)).Nodup:=(j0.mp k.nodup).2.1;have g1:=ay.mp hj;have g2:=ay.mp Ot;have:=wi xE (i:=i-tn.length) (j:=j-tn.length) (by simpa using g1.1) (by simpa using g2.1) (by simp[g1.2,g2.2]);exact absurd (VQ (cu (by assumption)) (cu (by assumption)) this) (by assumption)
 ·have hi:(tn++ix.map (ji E.vn)).length≤i:=hi;simp only[aY,aE]at hi;unfold uM;rw[if_neg (Nat.not_lt_of_le (af (cD _ _) hi)),bk (Nat.le_sub_of_add_le (kh _ _▸hi))]
end
noncomputable def Hh(c:Cx)(n:Nat)(E:VE)(ρ:List Sl)(ifs:List Expr)(b:Bool):Prop:=
 ∀(A:aK) (β:dH) (O:List Addr) (ad:Nat→List Addr) (s:ae),Rm A n→Inv c E β O ad ρ s→
  wpAny (model c.prog c.w) A (forIn ifs true λ e r=>if r=true then do let ok ← isTrue e E.env (eval e E.env);pure (iW ok)else pure (iW r)) (λ b' s'=>b'=b∧aB c [] [] s s'∧bF c s') aZ s
noncomputable def cx(ρ ρ':List Sl):Prop:=∀i,ρ.getD i .no=.no∨ρ.getD i .no=ρ'.getD i .no
structure El(c:Cx)(n:Nat)(E:VE)(ρ:List Sl)(tg:Expr)(ifs:List Expr)(d:D)(b:Bool)(K:List Sl→Prop):Prop where
 ex:∃ρ',ju c n E ρ tg d ρ'∧cx ρ ρ'∧Hh c n E ρ' ifs b∧(b=true→K ρ')
section
variable {c:Cx}{n:Nat}{E:VE}{ρ ρ':List Sl}{scope:iT}{tn:List Str}{ix:List Nat}{β:dH}{O O':List Addr}{ad:Nat→List Addr}{s s':ae}
theorem Hh.nil:Hh c n E ρ [] true:= λ A β O ad s R I=>by rw[x_];exact ah ⟨rfl,.refl ..,I.br⟩
theorem Hh.one{e:Expr}{b:Bool}(h:Tr c n E ρ e b):Hh c n E ρ [e] b:= λ A β O ad s R I=>by
 rw[oY,if_pos rfl];refine aa (aa (h.go R I λ au x bj=>ah ?_));show wpAny _ A (forIn [] b _) _ _ _;rw[x_];exact ah ⟨rfl,x,bj.br⟩
noncomputable def Sl.kp(x:Sl)(L:List Addr):List Addr:=Sl.rec [] (λ z=>[]) (λ z z=>L) x
theorem Sl.Bc{x:Sl}{L:List Addr}{a:Addr}(h:a∈x.kp L):a∈L:=by
 cases x with
 |own _ _=>exact h
 |_=>exact nn h
theorem Inv.weaken(I:Inv c E β O ad ρ' s)(h:cx ρ ρ'):∃ad',Inv c E β O ad' ρ s∧∀i,∀a∈ad' i,a∈ad i:=by
 refine⟨λ i=>(ρ.getD i .no).kp (ad i),⟨I.ok,I.br,I.grow,I.lt,I.low,I.sub,I.n7,I.new,I.ns,I.cells,I.uA,I.ti,I.CF,I.CG,λ i x hx=>?_,λ i j rH a ha hb=>I.mE i j rH a (Sl.Bc ha) (Sl.Bc hb),λ i hi=>?_⟩,λ i a ha=>Sl.Bc ha⟩
 ·have:=I.vars i x hx
  rcases h i with e|e
  ·rw[e];rfl
  ·rw[← e]at this;cases hr:ρ.getD i .no with
   |no=>rfl
   |val d=>rw[hr]at this;exact⟨rfl,this.2⟩
   |own m q=>rw[hr]at this;exact this
 ·show Sl.kp _ (ad i)=[];rw[I.out i hi];cases ρ.getD i .no<;>rfl
theorem a7.append{w:a0}{h:Heap}{vs:List ag}{ds:List D}{v:ag}{d:D}(q:a7 w O h vs ds)(r:bh w O h v d):a7 w O h (vs++[v]) (ds++[d]):=
 q.ind ⟨r,trivial⟩ λ z z z z q z ih=>⟨q,ih⟩
theorem compTurn_list(elt target iter:Expr)(ifs:List Expr)(scope:iT)(pos:Pos)(it acc:ag)(env:Env):
  compTurn (.ListComp elt [⟨target,iter,ifs,0⟩] scope pos) 0 it acc env=(do
   standAt iter.pos
   match ← pyNext it with
   |none=>pure (.done .next)
   |some v=>
    letOwnedTupleGo target it v
    assign target env v
    let mut ok:=true
    for c in ifs do
     if ok then ok ← isTrue c env (eval c env)
    if ok then
     (do let _ ← call (.builtin "list.append") [acc,← eval elt env])
    again (.compLoop (.ListComp elt [⟨target,iter,ifs,0⟩] scope pos) 0 it acc env)):=by rfl
noncomputable abbrev LY(ifs:List Expr)(env:Env):Sem Bool:=forIn ifs true λ e r=>if r=true then do let ok ← isTrue e env (eval e env);pure (iW ok)else pure (iW r)
theorem qJ{elt target iter:Expr}{ifs:List Expr}{scope:iT}{pos:Pos}{it acc:ag}{env:Env}{A:aK}{R:iu→ae→Prop}(h:wpAny (model c.prog c.w) A (pyNext it) (λ r au=>match r with
   |none=>R (.ok .next) au
   |some v=>wpAny (model c.prog c.w) A (letOwnedTupleGo target it v) (λ z aH=>wpAny (model c.prog c.w) A (assign target env v) (λ z cn=>wpAny (model c.prog c.w) A (LY ifs env) (λ ok d9=>
     if ok=true then wpAny (model c.prog c.w) A (eval elt env) (λ x s₅=>wpAny (model c.prog c.w) A (call (.builtin "list.append") [acc,x]) (λ z qj=>codeAny (model c.prog c.w) A (.compLoop (.ListComp elt [⟨target,iter,ifs,0⟩] scope pos) 0 it acc env) R qj) aZ s₅) aZ d9
     else codeAny (model c.prog c.w) A (.compLoop (.ListComp elt [⟨target,iter,ifs,0⟩] scope pos) 0 it acc env) R d9) aZ cn) aZ aH) aZ au) aZ s):
  codeAny (model c.prog c.w) A (.compLoop (.ListComp elt [⟨target,iter,ifs,0⟩] scope pos) 0 it acc env) R s:=by
 refine iK ?_;show wpAny _ A ((compTurn (.ListComp elt [⟨target,iter,ifs,0⟩] scope pos) 0 it acc env).onRaise (λ x=>do noteFrame x env;theTreesLotGoes x)) _ _ s;refine As ?_;rw[compTurn_list];refine aa (bQ (wb h λ r au cq=>?_));cases r with
 |none=>exact ah cq
 |some v=>
  refine wb cq λ z aH cM=>?_;refine wb cM λ z cn mC=>?_;refine wb mC λ ok d9 pC=>?_;cases ok with
  |true=>
   rw[if_pos rfl]at pC;show wpAny _ _ (if true=true then _ else _) _ _ _;refine wP rfl ?_;exact aa (wb pC λ x s₅ zd=>aa (wm zd λ z qj Be=>ah (ah ⟨rfl,Be⟩)))
  |false=>
   rw[if_neg (by decide)]at pC;show wpAny _ _ (if false=true then _ else _) _ _ _;refine wN (by decide) ?_;exact ah ⟨rfl,pC⟩
theorem pN{p:Prop}[Decidable p]{a b:Prop}(h:¬p)(x:b):if p then a else b:=by rw[if_neg h];exact x
theorem pP{p:Prop}[Decidable p]{a b:Prop}(h:p)(x:a):if p then a else b:=by rw[if_pos h];exact x
structure Vx(c:Cx)(n:Nat)(E:VE){X:Type}(q:List X→OD)(ap:List X→X→List X)(N:Nat)(A:aK)(D':Addr)(tg:Expr)(ifs:List Expr)(it:ag)(cd:Code)(Ky:X→List Sl→Prop)(pt:(iu→ae→Prop)→ae→Prop):Prop where
 turn:∀{Q:iu→ae→Prop} {s:ae},wpAny (model c.prog c.w) A (pyNext it) (λ r au=>match r with
   |none=>Q (.ok .next) au
   |some v=>wpAny (model c.prog c.w) A (letOwnedTupleGo tg it v) (λ z aH=>wpAny (model c.prog c.w) A (assign tg E.env v) (λ z cn=>wpAny (model c.prog c.w) A (LY ifs E.env) (λ ok d9=>
     if ok=true then pt Q d9 else codeAny (model c.prog c.w) A cd Q d9) aZ cn) aZ aH) aZ au) aZ s→codeAny (model c.prog c.w) A cd Q s
 put:∀{Q:iu→ae→Prop} {β:dH} {O:List Addr} {ad:Nat→List Addr} {ρ:List Sl} {s:ae} {o:List X} {y:X},Ky y ρ→Rm A n→Inv c E β O ad ρ s→D'∈O→o.length<N→
  (∀s',Inv c E β O ad ρ s'→cS c O s'.heap (.ref D') (q o) [D'])→
  (∀au aH,Inv c E β O ad ρ au→aB c [D'] [] au aH→bF c aH→cS c O aH.heap (.ref D') (q (ap o y)) [D']→codeAny (model c.prog c.w) A cd Q aH)→pt Q s
structure CI(c:Cx)(E:VE)(β:dH)(κ:Snap)(G:List Nat)(P:List Addr→List D→ae→Prop)(ρ:List Sl)(D':Addr)(O₀ F O:List Addr)(ad:Nat→List Addr)(ds:List D)(q:OD)(s:ae):Prop where
 sub:∀a∈O₀,a∈O
 L:LI c E β κ F G O ad ρ s
 hO:D'∈O
 hF:D'∉F++κ.K
 hA:∀i,D'∉ad i
 p:P F ds s
 own:cS c O s.heap (.ref D') q [D']
section
variable {κ:Snap}{G:List Nat}{P:List Addr→List D→ae→Prop}{D':Addr}{O₀ F F':List Addr}{ds:List D}{q:OD}{tg:Expr}{A:aK}{it:ag}
theorem CI.moved(K:CI c E β κ G P ρ D' O₀ F O ad ds q s)(x:aB c F G s s')(hf:rU F F' s s'):cS c (F'++O) s'.heap (.ref D') q [D']:=
 have h:D'∉F:= λ h=>K.hF (aF _ h)
 x.own (λ a h=>.inl (K.L.hF a (aF _ h))) (λ a h=>(aC.mp h).elim (λ h=>(hf a h).imp (λ h=>K.L.hF a (aF _ h)) And.left) .inl) (λ a e h'=>h (m1 e▸h')) (λ a e o h'=>.inr (m1 e▸x.get h (K.L.I.Fc K.hO) (m1 e▸h'))) K.own
theorem CI.next(K:CI c E β κ G P ρ D' O₀ F O ad ds q s){lJ:List D}(x:aB c F G s s')(S:bF c s')(hf:rU F F' s s')(p:P F' lJ s'):CI c E β κ G P ρ D' O₀ F' (F'++O) ad lJ q s':=
 ⟨λ a h=>ao _ (K.sub a h),K.L.moved x S hf,ao _ K.hO,λ h=>(aC.mp h).elim (λ h=>(hf _ h).elim (λ h=>K.hF (aF _ h)) λ h=>ak _ (ab (K.L.I.lt _ K.hO) h.1)) λ h=>K.hF (ao _ h),K.hA,p,K.moved x hf⟩
theorem CI.back{jW:dH}{ad':Nat→List Addr}{s₅:ae}(T:nM c A tg it κ G P)(K:CI c E β κ G P ρ D' O₀ F O ad ds q s)(G7:jW.s=s)(u:JV c β jW)(hW:∀a∈jW.W,a∉D'::(F++κ.K)∧a∈O)(hG:jW.G=[])(QD:∀a∈D'::(F++κ.K),a∈jW.O)(hw:cx ρ ρ')(jA:Inv c E jW O ad' ρ' s₅):∃ot,CI c E β κ G P ρ D' O₀ F O ot ds q s₅:=by
 refine cW (jA.weaken hw) λ ot DL ic=>?_;have g:aB c jW.W jW.G s s₅:=G7▸jA.grow;have Ef:∀i,∀a∈ot i,a∉jW.O:= λ i a ha=>(jA.small i a (ic i a ha)).2.2.2.2;have hD:D'∉jW.W:= λ h=>(hW _ h).1 (.head _);exact⟨ot,K.sub,⟨u.up DL,K.L.hF,K.L.hL,K.L.hC,λ i a ha hf=>Ef i a ha (QD a (.tail _ hf)),K.L.hW,K.L.hG,λ g' h=>ab (K.L.Gi g' h) g.dv,
  K.L.hS.step g λ a h=>⟨K.L.hN a (hW a h).2,λ hk=>(hW a h).1 (.tail _ (ao _ hk))⟩,K.L.hN,K.L.hK⟩,K.hO,K.hF,λ i h=>Ef i _ h (QD _ (.head _)),
  T.frame K.p g jA.br (λ a h hf=>(hW a h).1 (.tail _ (aF _ hf))) (λ g' h=>nomatch (hG▸h:g'∈[])),g.own (λ a h=>.inl (hW a h).2) (.refl O _) (λ a e h'=>hD (m1 e▸h')) (λ a e o h'=>.inr (m1 e▸g.get hD (K.L.I.Fc K.hO) (m1 e▸h'))) K.own⟩
theorem CI.put{q':OD}(T:nM c A tg it κ G P)(K:CI c E β κ G P ρ D' O₀ F O ad ds q s)(Tb:D'∈κ.O∨κ.s.heap.objs.size≤D')(QF:D'≠E.env.locals)(QG:∀p∈E.env.cells,p.2≠D')(Tc:BC β D')(x:aB c [D'] [] s s')(S:bF c s')(o:cS c O s'.heap (.ref D') q' [D']):CI c E β κ G P ρ D' O₀ F O ad ds q' s':=
 ⟨K.sub,⟨K.L.I.apart x S (λ a h=>.inl (m1 h▸K.hO)) (λ a h=>m1 h▸Tc) (λ z=>nn) (λ h=>QF (m1 h)) (λ p hp h=>QG p hp (m1 h).symm) (λ i z a ha h=>K.hA i (m1 h▸ha)) (λ z h=>.inl h) (λ z h=>h),K.L.hF,K.L.hL,K.L.hC,K.L.hV,K.L.hW,K.L.hG,λ g h=>ab (K.L.Gi g h) x.dv,K.L.hS.step x λ a h=>m1 h▸ ⟨Tb,λ h=>K.hF (ao _ h)⟩,K.L.hN,K.L.hK⟩,
  K.hO,K.hF,K.hA,T.frame K.p x S (λ a h hf=>K.hF (aF _ (m1 h▸hf))) (λ z=>nn),o⟩
theorem compLoop{X:Type}{q:List X→OD}{ap:List X→X→List X}{N:Nat}{ifs:List Expr}{cd:Code}{Ky:X→List Sl→Prop}{pt:(iu→ae→Prop)→ae→Prop}(Z:Vx c n E q ap N A D' tg ifs it cd Ky pt)(Xv:∀o y,(ap o y).length=o.length+1)(R:Rm A n)(T:nM c A tg it κ G P)(Tb:D'∈κ.O∨κ.s.heap.objs.size≤D')(QF:D'≠E.env.locals)(QG:∀p∈E.env.cells,p.2≠D')(Tc:BC β D'){f:D→Option X}{fin:List X}{Q:iu→ae→Prop}(hQ:∀F O ad s,(∀a∈O₀,a∈O)→LI c E β κ F G O ad ρ s→cS c O s.heap (.ref D') (q fin) [D']→Q (.ok .next) s):∀(ds:List D) (F O:List Addr) (o:List X) (ad:Nat→List Addr) (s:ae),(∀d∈ds,El c n E ρ tg ifs d (f d).isSome λ ρ'=>∀y,f d=some y→Ky y ρ')→(ds.filterMap f).foldl ap o=fin→o.length+ds.length≤N→
   CI c E β κ G P ρ D' O₀ F O ad ds (q o) s→codeAny (model c.prog c.w) A cd Q s:=by
 intro ds
 induction ds with
 |nil=>
  intro F O o ad s z e z K;refine Z.turn (wm (T.done K.L.I.br K.L.hS K.L.low K.p) λ r s' q=>?_);refine jH q ?_;clear q;intro z1 x S;subst z1;exact hQ _ _ _ _ (λ a h=>ao _ (K.sub a h)) (K.L.moved x S (.refl F s s')) ((show o=fin from e)▸K.moved x (.refl F s s'))
 |cons d ds ih=>
  intro F O o ad s hE e hN K;refine Z.turn (wm (T.next K.L.I.br K.L.hS K.L.low K.p) λ r au q=>?_);refine cW q ?_;clear q;intro v z1 q;subst z1;refine wm q λ z aH q=>?_;refine tx q ?_;clear q;intro x S F' Ha r p;have r:=K.L.rep r Ha
  replace K:=K.next x S Ha p
  clear x S p Ha;generalize F'++O=BA at K r;refine eG (K.L.I.anchor (F:=D'::(F'++κ.K)) (λ a h=>(aD.mp h).elim (λ e=>e▸K.hO) (K.L.hF a)) (λ h=>(aD.mp h).elim (λ e=>QF e.symm) K.L.hL)
   (λ p hp h=>(aD.mp h).elim (λ e=>QG p hp e) (K.L.hC p hp)) (λ i z a ha h=>(aD.mp h).elim (λ e=>K.hA i (e▸ha)) (K.L.hV i a ha))) λ jW G7 u I' zh=>b_ zh λ hW hG QD z=>?_
  refine eG ((hE d (.head _)).ex) λ ρ' ht hw hi hk=>?_;refine wm (ht A jW BA ad aH v R I' r) λ z cn q=>?_;refine ez q ?_;clear q;intro ad' z jU z;refine wm (hi A jW BA ad' cn R jU) λ b d9 q=>?_;refine jH q ?_;clear q;intro z1 wZ xU;subst z1
  replace jU:=jU.fT wZ xU
  clear I' wZ xU r ht hi;have key:= λ s₅ jA=>K.back (s₅:=s₅) (ad':=ad') T G7 u hW hG QD hw jA;have Iv:= λ d hd=>hE d (.tail _ hd);cases hf:f d with
  |none=>exact pN ew (xe (key d9 jU) λ ot G5=>ih F' BA o ot d9 Iv (eJ hf▸e) (af (ef (bq _) _) hN) G5)
  |some y=>
   refine pP rfl (Z.put (hk (by rw[hf];rfl) y hf) R jU K.hO (ab (jO (bD _)) hN) (λ s₅ jA=>xe (key s₅ jA) λ z G5=>G5.own) λ s₅ qj jA x S ow=>xe (key s₅ jA) λ ot G5=>?_);exact ih F' BA (ap o y) ot qj Iv (by rw[bA hf]at e;exact e) (by rw[Xv,eN,kh 1];exact hN) (G5.put T Tb QF QG Tc x S ow)
end
noncomputable abbrev kY(E:VE)(scope:iT)(tn:List Str)(ix:List Nat)(C:Addr):VE:=kL E (compEnvC scope (eS E.env.cells scope.names []) C E.env) tn ix
theorem aB.step{c:Cx}{s:ae}{h':Heap}{tk:Nat}(hz:s.heap.objs.size≤h'.objs.size)(hk:∀a o,s.heap.get? a=some o→h'.get? a=some o):aB c [] [] s {s with heap:=h',toks:=tk}:=
 .of_keep hz (λ a o z e=>hk a o e) λ z=>nn
theorem bF.step{c:Cx}{s:ae}{h':Heap}{tk:Nat}(S:bF c s)(hz:s.heap.objs.size≤h'.objs.size)(hk:∀a o,s.heap.get? a=some o→h'.get? a=some o):bF c {s with heap:=h',toks:=tk}:=
 S.at (O:=[]) hz (λ a o z e=>hk a o e) λ z=>nn
structure CA(c:Cx)(n:Nat)(E:VE)(scope:iT)(tn:List Str)(ix:List Nat){X:Type}(q:List X→OD)(ap:List X→X→List X)(N:Nat)(cp:Expr)(mk:Sem ag)(tg:Expr)(ifs:List Expr)(Ky:Addr→X→List Sl→Prop):Prop where
 Q2:∀A it C D',∃pt,Vx c n (kY E scope tn ix C) q ap N A D' tg ifs it (.compLoop cp 0 it (.ref D') (kY E scope tn ix C).env) (Ky C) pt
 LN:∀o y,(ap o y).length=o.length+1
 start:∀{A:aK} {it acc:ag} {env:Env} {Q:iu→ae→Prop} {s:ae},codeAny (model c.prog c.w) A (.compLoop cp 0 it acc env) Q s→wpAny (model c.prog c.w) A (pyIter it) (λ Wc s'=>codeAny (model c.prog c.w) A (.compLoop cp 0 Wc acc env) Q s') (notedBy (model c.prog c.w) A env λ x s'=>Q (.error x) s') s→codeAny (model c.prog c.w) A (.compStart cp 0 it acc env) Q s
 new:∃mV:Obj,mV.isFreed=false∧(∀{A:aK} {Q:ag→ae→Prop} {X:ag→ae→Prop} {s:ae},Q (.ref s.heap.objs.size) {s with heap:=s.heap.push mV}→wpAny (model c.prog c.w) A mk Q X s)∧∀O h a,h.get? a=some mV→cS c O h (.ref a) (q []) [a]
theorem wM{Y:Type}{q:List Y→OD}{ap:List Y→Y→List Y}{N:Nat}{cp:Expr}{mk:Sem ag}{tg:Expr}{ifs:List Expr}{Ky:Addr→Y→List Sl→Prop}(Z:CA c n E scope tn ix q ap N cp mk tg ifs Ky){A:aK}{it:ag}{aH:ae}{ds:List D}{f:D→Option Y}{fin:List Y}{RR:ag→Addr→iu→ae→Prop}{X:ag→ae→Prop}(R:Rm A n)(I:Inv c E β O ad ρ s)(k:sF E.env E.vn scope tn ix)(x:aB c [] [] s aH)(S:bF c aH)(hi:iI c n tg O [] s ds it aH)(hlen:ds.length≤N)(Gb:(ds.filterMap f).foldl ap []=fin)(hE:∀C,∀d∈ds,El c n (kY E scope tn ix C) (oR ρ tn ix) tg ifs d (f d).isSome λ ρ'=>∀y,f d=some y→Ky C y ρ')(XC:∀D' C s',s.heap.objs.size≤D'→D'<s'.heap.objs.size→s.heap.objs.size≤C→C<s'.heap.objs.size→D'≠C→aB c [] [] s s'→bF c s'→cS c (D'::C::O) s'.heap (.ref D') (q fin) [D']→(∃m,s'.heap.Ns C m)→RR (.ref D') C (.ok .next) s'):
  wpAny (model c.prog c.w) A mk (λ acc cn=>wpAny (model c.prog c.w) A (newFunctionEnv scope E.env.globals (eS E.env.cells scope.names []) [] E.env.qual none .none (some E.env)) (λ dn d9=>
   codeAny (model c.prog c.w) A (.compStart cp 0 it acc {dn with scope:=relabel scope E.env}) (RR acc dn.locals) d9) X cn) X aH:=by
 refine cH Z.new λ mV Ox zo F1=>?_;refine zo (wpAny_newFunctionEnv k.Fd (by intro y hy;simp at hy) (λ cq Bi uu=>?_) k.kind);dsimp only at Bi uu⊢;refine dj hi ?_;clear hi;intro F G hF hG hi;refine cW (hi A R) λ P T p=>?_;generalize S_:aH.heap.push mV=H2 at Bi uu⊢;have hC:H2.objs.size=aH.heap.objs.size+1:=by rw[← S_,aW]
 have vd:cq.objs.size=aH.heap.objs.size+2:=by rw[uu.1,aW,hC]
 have old:∀b o,aH.heap.get? b=some o→cq.get? b=some o:= λ b o e=>uu.extBut b o (dO (ab (aI e) (by rw[hC];exact bq _))) (aA _ (S_▸aA _ e));have SN:cS c (aH.heap.objs.size::H2.objs.size::(F++O)) cq (.ref aH.heap.objs.size) (q []) [aH.heap.objs.size]:=F1 _ _ _ (uu.extBut _ _ (by show(aH.heap.objs.size:Nat)≠H2.objs.size;lia) (aA _ (S_▸av _ Ox)));have hz:aH.heap.objs.size≤cq.objs.size:=by exact vd▸cD _ _
 have wZ:aB c [] [] aH {aH with heap:=cq,toks:=aH.toks+([]:List (Str×ag)).length}:=.step hz old;have xU:bF c {aH with heap:=cq,toks:=aH.toks+([]:List (Str×ag)).length}:=S.step hz old;generalize R5:({aH with heap:=cq,toks:=aH.toks+([]:List (Str×ag)).length}:ae)=d9 at wZ xU⊢;have hh:d9.heap=cq:=by rw[← R5]
 have N9:s.heap.objs.size≤aH.heap.objs.size:=x.size
 let O':=aH.heap.objs.size::H2.objs.size::(F++O)
 have Dx:∀a∈O',a∈O∨(s.heap.objs.size≤a∧a<d9.heap.objs.size):=by
  intro a h
  rcases mc h with rfl|h
  ·exact .inr ⟨N9,by rw[hh];exact GW vd⟩
  rcases mc h with rfl|h
  ·exact .inr ⟨by lia,by rw[hh];lia⟩
  rcases aC.mp h with h|h
  ·exact .inr ⟨(hF a h).1,ab (hF a h).2 (by rw[hh];lia)⟩
  ·exact .inl h
 have hn:d9.heap.Ns H2.objs.size (λ y=>([]:List (Str×ag)).reverse.lookup y):=by rw[hh];exact Bi
 have B:=I.block (O':=O') (W:=H2.objs.size::aH.heap.objs.size::F) (G:=G) k (x.trans wZ) xU (.comp I.ok k H2.objs.size) ⟨show(s.heap.objs.size:Nat)≤H2.objs.size by lia,show(H2.objs.size:Nat)<d9.heap.objs.size by rw[hh];lia⟩ Dx (λ a h=>.tail _ (.tail _ (ao _ h))) (.tail _ (.head _)) ⟨_,hn⟩ (.head _);have XS:aH.heap.objs.size∉F:= λ h=>ak _ (hF _ h).2;have Vd:H2.objs.size∉F:= λ h=>by have h':(H2.objs.size:Nat)<aH.heap.objs.size:=(hF _ h).2;lia
 have ux:∀q∈(kY E scope tn ix H2.objs.size).env.cells,q.2<s.heap.objs.size:=by
  intro q hq;have hq:q∈eS E.env.cells scope.names []:=hq;rw[pM]at hq
  rcases hq with hq|⟨y,hy,hf,rfl⟩
  ·exact nn hq
  ·refine xe (dF.mp (k.cells I.ok y hy hf).2.2) λ a ha=>?_;show(E.env.cells.lookup y.1).getD 0<_;rw[ha];exact I.lt _ (I.ti _ (bu ha))
 have U5:∀i,∀a∈uM ad tn ix i,a<s.heap.objs.size:=by
  intro i a ha;unfold uM at ha
  split at ha
  ·exact nn ha
  ·split at ha
   ·rename_i j _;exact(I.small j a ha).2.1
   ·exact nn ha
 have hN:nL (F++O) O' aH:= λ a h=>by
  rcases mc h with rfl|h
  ·exact .inr (az _)
  rcases mc h with rfl|h
  ·exact .inr (show(aH.heap.objs.size:Nat)≤H2.objs.size by exact hC▸bq _)
  exact .inl h
 have L:LI c (kY E scope tn ix H2.objs.size) ⟨d9,[],O',H2.objs.size::aH.heap.objs.size::F,G⟩ ⟨aH,F++O,[]⟩ F G O' (uM ad tn ix) (oR ρ tn ix) d9:=by
  refine⟨B,λ a h=>?_,λ h=>?_,λ q hq h=>?_,λ i a ha h=>?_,
   λ a h=>⟨.inl (.tail _ (.tail _ h)),.inl (aF _ h),by simp⟩,λ g h=>.inl h,λ g h=>ab (hG g h).2 wZ.dv,(cA.refl (c:=c) (k:=⟨aH,F++O,[]⟩)).step wZ (λ z=>nn),hN,λ z=>nn⟩
  all_goals rw[bK]at h
  ·exact .tail _ (.tail _ (aF _ h))
  ·exact Vd h
  ·exact ak _ (ab (ux q hq) (hF _ h).1)
  ·exact ak _ (ab (U5 i a ha) (hF _ h).1)
 have MV:P F ds d9:=T.frame p wZ xU (λ z=>nn) (λ z=>nn);refine xe (Z.Q2 A it H2.objs.size aH.heap.objs.size) λ pt Zs=>?_;have hf:codeAny (model c.prog c.w) A (.compLoop cp 0 it (.ref aH.heap.objs.size) (compEnvC scope (eS E.env.cells scope.names []) H2.objs.size E.env)) (RR (.ref aH.heap.objs.size) H2.objs.size) d9:=by
  refine compLoop Zs Z.LN R T (.inr (az _)) (show aH.heap.objs.size≠H2.objs.size by lia) (λ q hq e=>by have h:(q.2:Nat)<s.heap.objs.size:=ux q hq;rw[e]at h;exact ak _ (ab h N9)) (.inl (.tail _ (.head _))) (O₀:=O') (λ F' Bz ad' s' ic L' nC=>?_) ds F O' [] (uM ad tn ix) d9 (hE _) Gb (by rw[dp,gO];exact hlen)
   ⟨λ z h=>h,L,.head _,by rw[bK];exact XS,λ i h=>ak _ (ab (U5 i _ h) N9),MV,by rw[hh];exact SN⟩
  have g':aB c [] [] s s':=(x.trans wZ).comp L'.I.grow (λ a h=>.inr (by
   rcases mc h with rfl|h
   ·show(s.heap.objs.size:Nat)≤H2.objs.size;lia
   rcases mc h with rfl|h
   ·exact N9
   ·exact(hF a h).1)) λ g h=>.inr (hG g h).1
  refine XC _ _ s' N9 (L'.I.lt _ (ic _ (.head _))) (show(s.heap.objs.size:Nat)≤H2.objs.size by lia) (L'.I.lt _ (ic _ (.tail _ (.head _)))) (show(aH.heap.objs.size:Nat)≠H2.objs.size by lia) g' L'.I.br ?_ L'.I.ns;refine(aB.refl ..).own (W:=[]) (G:=[]) (s:=s') (λ z=>nn) (λ a h=>.inl (ic a ?_)) (λ z z h=>(nn h)) (λ z z z e=>.inr e) nC
  rcases mc h with rfl|h
  ·exact .head _
  rcases mc h with rfl|h
  ·exact .tail _ (.head _)
  ·exact .tail _ (.tail _ (ao _ h))
 exact Z.start hf (wm (T.self L.I.br MV) λ v s' q=>by
  refine xa q ?_;clear q;intro z1 z2;cases z1;cases z2;exact hf)
theorem gz.JS{Y:Type}{q:List Y→OD}{ap:List Y→Y→List Y}{N:Nat}{cp:Expr}{mk:Sem ag}{tg iter:Expr}{ifs:List Expr}{pos:Pos}{Ky:Addr→Y→List Sl→Prop}{gs:List Comprehension}(Z:CA c n E scope tn ix q ap N cp mk tg ifs Ky)(k:sA E.env E.vn scope tn ix=true){ds:List D}(f:D→Option Y){fin:List Y}(he:eval cp E.env=comprehension cp scope E.env pos mk false (eval iter E.env))(ux:clausesOf cp=⟨tg,iter,ifs,0⟩::gs)(hi:kg c n E ρ iter tg (· =ds))(hlen:ds.length≤N)(Gb:(ds.filterMap f).foldl ap []=fin)(hE:∀C,∀d∈ds,El c n (kY E scope tn ix C) (oR ρ tn ix) tg ifs d (f d).isSome λ ρ'=>∀y,f d=some y→Ky C y ρ')(hs:∀x,foldedSetIterable iter E.env x=pure x):gz c n E ρ cp (q fin):= λ A β O ad s R I=>by
 have k':=uL k;rw[he];refine wpAny_comprehension_free (use:=none) ux hs (pL λ x hx hf=>(k'.cells I.ok x hx hf).2.2) k'.kind k'.names (wm (hi A β O ad s R I) λ xv au cq=>wk cq λ it aH cM=>?_);refine nO cM ?_;clear cM;intro x S lJ z1 Dt;cases z1;refine wM Z (RR:= λ acc C=>compPost (model c.prog c.w) A aZ none _ acc C) R I k' x S Dt hlen Gb hE ?_;intro D' C s' h1 h2 h3 h4 h5 g S' r hn;refine xe hn ?_;clear hn;intro m hn;refine⟨m,hn,λ pG rG=>?_⟩;have hk:∀a o,a∉ [C]→s'.heap.get? a=some o→pG.get? a=some o:= λ a o ha e=>rG.extBut a o (λ h=>ha (h▸ .head _)) e;have hz:s'.heap.objs.size≤pG.objs.size:=by rw[rG.1];exact az _
 have g2:aB c [C] [] s' {s' with heap:=pG}:=.of_keep (tk:=s'.toks) hz hk λ a ha o e=>by
  obtain rfl:=m1 ha;refine c8 hn ?_;clear hn;intro o' es ep nh iP z;rw[e]at nh;cases nh;exact cP iP
 have S2:bF c {s' with heap:=pG}:=S'.at (tk:=s'.toks) hz hk λ a ha=>by
  obtain rfl:=m1 ha;exact af I.br.size h3
 refine⟨[D'],g.comp g2 (λ a h=>by obtain rfl:=m1 h;exact .inr h3) (λ z=>nn),S2,?_,λ a h=>by obtain rfl:=m1 h;exact⟨h1,ab h2 hz⟩⟩;exact g2.own (λ a h=>by obtain rfl:=m1 h;exact .inl (.tail _ (.head _))) (λ a h=>.inl ((aD.mp h).elim (λ h=>h▸ .head _) λ h=>.tail _ (.tail _ h))) (λ a h h'=>h5 ((m1 h).trans (m1 h').symm)) (λ a h o e=>.inr (hk a o (λ h'=>h5 ((m1 h).trans (m1 h').symm)) e)) r
theorem uB{X:Type}:∀(l o:List X),l.foldl (λ o y=>o++[y]) o=o++l:=by
 intro w
 induction w with
 |nil=>
  intro o;exact(bK o).symm
 |cons y l ih=>
  intro o;exact(ih _).trans (j6 ..)
theorem yW{elt tg iter:Expr}{ifs:List Expr}{pos:Pos}:CA c n E scope tn ix .lst (λ o y=>o++[y]) 1000 (.ListComp elt [⟨tg,iter,ifs,0⟩] scope pos) (newList []) tg ifs λ C y ρ'=>Ev c n (kY E scope tn ix C) ρ' elt y where
 Q2:= λ A it C D'=>⟨_,qJ,λ hy R I hO hl F1 hk=>hy.go R I λ QT s₅ AE jA CX=>by
  refine bL (F1 s₅ jA) λ a vs e z y1 hr=>?_;cases e;refine c9 (kn y1 (λ h' nC eO up=>?_) (cQ (by rw[a_,hr.length];exact bV hl)));have i8:∀a o,a∉ [D']→s₅.heap.get? a=some o→h'.get? a=some o:= λ a o ha e=>eO.extBut a o (λ h=>ha (h▸ .head _)) e;have lb:s₅.heap.objs.size≤h'.objs.size:=by rw[eO.1];exact az _
  have Hk:aB c [D'] [] s₅ {s₅ with heap:=h'}:=.of_keep (tk:=s₅.toks) lb i8 λ a ha o e=>by
   obtain rfl:=m1 ha;refine bL y1 ?_;clear y1;intro o' z nh z z iP;rw[e]at nh;cases nh;exact c0 iP
  have mi:tu [D'] _ s₅:= λ a h=>.inl (m1 h▸hO);exact hk s₅ _ jA Hk (jA.br.at (tk:=s₅.toks) lb i8 λ a ha=>m1 ha▸jA.low _ hO) ⟨_,vs++[QT],rfl,rfl,by simpa using nC,a7.append (Hk.fj mi (.refl _ _) hr) (Hk.rep mi (.refl _ _) CX)⟩⟩
 LN:= λ o y=>aY
 start:=codeAny_compStart_list
 new:=⟨_,rfl,λ h=>bo h,λ O h a e=>⟨a,[],rfl,rfl,⟨_,_,e,rfl,rfl,rfl⟩,trivial⟩⟩
theorem gz.comp(k:sA E.env E.vn scope tn ix=true){elt tg iter:Expr}{ifs:List Expr}{pos:Pos}{ds:List D}(f:D→Option D)(hi:kg c n E ρ iter tg (· =ds))(hlen:ds.length≤1000)(hE:∀C,∀d∈ds,El c n (kY E scope tn ix C) (oR ρ tn ix) tg ifs d (f d).isSome λ ρ'=>∀y,f d=some y→Ev c n (kY E scope tn ix C) ρ' elt y)(hs:∀x,foldedSetIterable iter E.env x=pure x:=by intro z;rfl):gz c n E ρ (.ListComp elt [⟨tg,iter,ifs,0⟩] scope pos) (.lst (ds.filterMap f)):=
 gz.JS yW k f (eval_ListComp ..) rfl hi hlen (uB _ _) hE hs
theorem ba.oF(i:Nat){x:Str}{p:Pos}(k:sA E.env E.vn scope tn ix=true){elt tg iter:Expr}{ifs:List Expr}{pos pos':Pos}{ds:List D}(f:D→Option D)(hi:kg c n E ρ iter tg (· =ds))(hlen:ds.length≤1000)(hE:∀C,∀d∈ds,El c n (kY E scope tn ix C) (oR ρ tn ix) tg ifs d (f d).isSome λ ρ'=>∀y,f d=some y→Ev c n (kY E scope tn ix C) ρ' elt y)(hx:E.vn[i]? =some x)(W3:i<E.k)(hl:i<ρ.length)(Wx:swapsWith (.ListComp elt [⟨tg,iter,ifs,0⟩] scope pos) (some (.Name x p)) pos'.line E.env=pure true)(hs:∀x,foldedSetIterable iter E.env x=pure x:=by intro z;rfl):ba c n E ρ (.Assign [.Name x p] (.ListComp elt [⟨tg,iter,ifs,0⟩] scope pos) pos') (.next (ρ.set i (.own true (.lst (ds.filterMap f))))):= λ A β s R w0=>by
 refine iz w0 ?_;clear w0;intro O ad I;have k':=uL k;rw[exec_Assign_Name_used _ _ _ _ Wx];refine aa (bQ (aa ?_));show wpAny _ A (do let _ ← comprehension (.ListComp elt [⟨tg,iter,ifs,0⟩] scope pos) scope E.env _ (newList []) false (eval iter E.env) (some (assign (.Name x p) E.env))) _ _ s;refine wb (wpAny_comprehension_free (use:=some (assign (.Name x p) E.env)) (Q:= λ z s'=>mF c E β (.next (ρ.set i (.own true (.lst (ds.filterMap f))))) .next s') rfl hs (pL λ x hx hf=>(k'.cells I.ok x hx hf).2.2) k'.kind k'.names
  (wm (hi A β O ad s R I) λ xv au cq=>wk cq λ it aH cM=>?_)) λ z s' hq=>ah (ah hq)
 obtain⟨x',S,lJ,rfl,Dt⟩:=cM;refine wM yW (RR:= λ acc C=>compPost (model c.prog c.w) A aZ (some (assign (.Name x p) E.env)) (λ z s'=>mF c E β _ .next s') acc C) R I k' x' S Dt hlen (uB _ _) hE ?_;intro D' C s' h1 h2 h3 h4 h5 g S' r hn;obtain⟨m,hn⟩:=hn;show wpAny _ A (assign (.Name x p) E.env (.ref D')) _ _ s'
 -- the list becomes the name's own, while the comprehension's names still stand
 have Ox:∀a∈[D'],s.heap.objs.size≤a∧a<s'.heap.objs.size:= λ a h=>by obtain rfl:=m1 h;exact⟨h1,h2⟩
 have bj:Inv c E β (D'::C::O) ad ρ s':=I.t5 (W:=[D',C]) g S' λ a h=>by
  rcases mc h with rfl|h
  ·exact⟨h1,h2⟩
  ·obtain rfl:=m1 h;exact⟨h3,h4⟩
 have hC:∀a∈[C],a∈D'::C::O:= λ a h=>by obtain rfl:=m1 h;exact .tail _ (.head _)
 refine wp_bind bj W3 hx hl (sl:=.own true (.lst (lJ.filterMap f))) (fp:=[D']) ⟨r,λ a ha=>?_⟩ (λ j z a ha h=>?_) λ k_ w ct iQ hw FU=>?_
 ·rw[aj]at ha;subst ha;refine⟨.head _,λ e=>?_,λ q hq e=>?_,λ z=>.inr (af I.grow.size h1),λ h=>?_,h2⟩
  ·exact ak _ (ab (I.lt _ I.uA) (e▸h1))
  ·exact ak _ (ab (I.lt _ (I.ti q hq)) (e▸h1))
  ·exact ak _ (ab (I.n7 a h) (af I.grow.size h1))
 ·rw[aj]at ha;subst ha;exact ak _ (ab (I.small j a h).2.1 h1)
 ·have Vc:C∉ [w]:= λ h=>by
   obtain rfl:=m1 h
   rcases FU with e|⟨q,hq,e⟩
   ·exact ak _ (ab (I.lt _ I.uA) (e▸h3))
   ·exact ak _ (ab (I.lt _ (I.ti q hq)) (e▸h3))
  refine⟨_,iQ.ns Vc hn,λ pG rG=>?_⟩;have hk:∀a o,a∉ [C]→k_.heap.get? a=some o→pG.get? a=some o:= λ a o ha e=>rG.extBut a o (λ h=>ha (by simp[h])) e;have hz:k_.heap.objs.size≤pG.objs.size:=by rw[rG.1];exact az _
  have g3:aB c [C] [] k_ {k_ with heap:=pG}:=.of_keep (tk:=k_.toks) hz hk λ a ha o e=>by
   obtain rfl:=m1 ha;refine c8 (iQ.ns Vc hn) λ o' es ep nh iP z=>?_;rw[e]at nh;cases nh;exact cP iP
  have S3:bF c {k_ with heap:=pG}:=ct.br.at (tk:=k_.toks) hz hk λ a ha=>by
   obtain rfl:=m1 ha;exact af I.br.size h3
  refine⟨rfl,_,_,ct.apart g3 S3 (λ a h=>.inl (hC a h)) (λ a h=>?_) (λ z=>nn) (λ h=>?_) (λ q hq h=>?_) (λ j z a ha h=>?_) (λ z h=>.inl h) λ z h=>h⟩
  ·obtain rfl:=m1 h;exact .inr (af I.grow.size h3)
  ·rw[aj]at h;exact ak _ (ab (I.lt _ I.uA) (h▸h3))
  ·rw[aj]at h;exact ak _ (ab (I.lt _ (I.ti q hq)) (h▸h3))
  ·rw[aj]at h;subst h;have ha:a∈(if j=i then [D']else ad j):=ha
   split at ha
   ·rw[aj]at ha;exact h5 ha.symm
   ·exact ak _ (ab (I.small j a ha).2.1 h3)
end
section
variable {c:Cx}{n:Nat}{E:VE}{ρ ρ':List Sl}{β:dH}{O O':List Addr}{ad:Nat→List Addr}{s s':ae}
set_option tactic.hygienic true in
theorem hY{M:qS}{A:aK}{tg:Expr}{I:Addr}{v:ag}{o:Obj}{T:String}{Q:Unit→ae→Prop}{X:ag→ae→Prop}(ho:s.heap.get? I=some o)(hc:o.cls=.type T)(hT:["enumerate","zip","dict_itemiterator","dict_reverseitemiterator","odict_iterator","itertools.zip_longest","itertools.pairwise"].contains T=false)(h:Q () s):wpAny M A (letOwnedTupleGo tg (.ref I) v) Q X s:=by
 have key:wpAny M A (do
   let(.ref r,.ref a):=((dR I,v):ag×ag)|(return:Sem Unit)
   let o ← load r
   match o.cls,o.data with
   |.type n,.fields vs=>
    if ["enumerate","zip","dict_itemiterator","dict_reverseitemiterator","odict_iterator","itertools.zip_longest","itertools.pairwise"].contains n&&vs[0]? ==some (rawInt a)then
     rule "for.unpacks-the-owned-tuple"
     updateField r 0 .none
   |_,_=>pure ()) Q X s:=by
  cases v<;>first|exact ah h|skip
  refine aa (wpAny_load ho ?_);rw[hc];cases o.data<;>first|exact ah h|skip
  rename_i vs;simp only[hT,Bool.false_and,aR,if_false];exact ah h
 unfold letOwnedTupleGo;cases tg<;>first|exact ah h|exact key
theorem cA.JI{k:Snap}(h:cA c k s)(x:aB c [] [] s s'):cA c k s':=h.step x λ z=>nn
theorem cA.rep{k:Snap}{v:ag}{d:D}(h:cA c k s)(r:bh c.w k.O k.s.heap v d)(hO:nL k.O O k.s):bh c.w O s.heap v d:=by
 refine ez h ?_;clear h;intro V G' g hV;exact g.rep (λ a h=>(hV a h).1) hO r
theorem cA.isList{k:Snap}{a:Addr}{vs}(h:cA c k s)(ha:a∉k.O)(hl:k.s.heap.IsList a vs):s.heap.IsList a vs:=by
 refine ez h ?_;clear h;intro V G' g hV;refine g.isList (λ hm=>(hV a hm).1.elim ha λ hle=>?_) hl;refine cW hl ?_;clear hl;intro o ho z;exact ak _ (ab (aI ho) hle)
theorem cA.isTup{k:Snap}{a:Addr}{vs}(h:cA c k s)(ha:a∉k.O)(hl:lP k.s.heap a vs):lP s.heap a vs:=by
 refine ez h ?_;clear h;intro V G' g hV;refine g.isTup (λ hm=>(hV a hm).1.elim ha λ hle=>?_) hl;refine cW hl ?_;clear hl;intro o ho z;exact ak _ (ab (aI ho) hle)
theorem cA.nice{k:Snap}{F:List Addr}{s₀:ae}{v:ag}{d:D}(h:cA c k s)(r:bh c.w k.O k.s.heap v d):uU c k F s₀ s v d:= λ O hO z=>h.rep r hO
theorem a7.at{w:a0}{h:Heap}{vs:List ag}{ds:List D}(r:a7 w O h vs ds){i:Nat}{d:D}:ds[i]? =some d→∃v,vs[i]? =some v∧bh w O h v d:=
 a7.ind (M:= λ vs ds=>∀i,ds[i]? =some d→∃v,vs[i]? =some v∧bh w O h v d) r (λ i e=>by cases e) (λ v z d' z q z ih i e=>by
  cases i with
  |zero=>exact⟨v,rfl,cF e▸q⟩
  |succ i=>exact ih i e) i
theorem SameBut.grow{h':Heap}{tk:Nat}{I:Addr}{o:Obj}(hs:c7 I s.heap h')(ho:s.heap.get? I=some o)(ht:qB o=false):aB c [I] [] s {s with heap:=h',toks:=tk}:=
 .of_keep (by rw[hs.1];exact az _) (λ a o' ha e=>hs.extBut a o' (λ h=>ha (by simp[h])) e) λ a ha o' e=>by
  rw[aj]at ha;subst ha;rw[ho]at e;cases e;exact ht
theorem SameBut.br{h':Heap}{tk:Nat}{I:Addr}(S:bF c s)(hs:c7 I s.heap h')(hl:c.B≤I):bF c {s with heap:=h',toks:=tk}:=
 S.at (O:=[I]) (by rw[hs.1];exact az _) (λ a o' ha e=>hs.extBut a o' (λ h=>ha (by simp[h])) e) λ a ha=>by rw[aj]at ha;subst ha;exact hl
theorem ExtBut.grow{h':Heap}{tk:Nat}{I:Addr}{o:Obj}(hz:s.heap.objs.size≤h'.objs.size)(hs:pW I s.heap h')(ho:s.heap.get? I=some o)(ht:qB o=false):aB c [I] [] s {s with heap:=h',toks:=tk}:=
 .of_keep hz (λ a o' ha e=>hs a o' (λ h=>ha (by simp[h])) e) λ a ha o' e=>by
  rw[aj]at ha;subst ha;rw[ho]at e;cases e;exact ht
theorem ExtBut.br{h':Heap}{tk:Nat}{I:Addr}(S:bF c s)(hz:s.heap.objs.size≤h'.objs.size)(hs:pW I s.heap h')(hl:c.B≤I):bF c {s with heap:=h',toks:=tk}:=
 S.at (O:=[I]) hz (λ a o' ha e=>hs a o' (λ h=>ha (by simp[h])) e) λ a ha=>by rw[aj]at ha;subst ha;exact hl
theorem nM.list{A:aK}{tg:Expr}{I ax:Addr}{k:Snap}{vs:List ag}{ds₀:List D}(hh:A.handled=none)(hl:k.s.heap.IsList ax vs.toArray)(hx:ax∉k.O)(hr:a7 c.w k.O k.s.heap vs ds₀)(hI:I∈k.O)(hK:I∉k.K):
  nM c A tg (.ref I) k [] (λ F ds s=>F=[I]∧∃i,s.heap.IsListIter I ax i∧ds=ds₀.drop i) where
 det:= λ h h'=>h.1.trans h'.1.symm
 frame:=by
  rintro F V G' ds s s' ⟨rfl,i,⟨o,ho,hc,hd⟩,e⟩ x S hV _
  exact⟨rfl,i,⟨o,x.keep _ _ (λ h=>hV _ h (.head _)) ho (bU (by rw[hc];trivial)),hc,hd⟩,e⟩
 next:= λ {F ds d s} S hs hB w0=>by
  refine mn w0 ?_;clear w0;intro hF i fU e;subst hF;have e':ds₀[i]? =some d:=by
   have:(ds₀.drop i)[0]? =some d:=by rw[← e];rfl
   simpa using this
  refine cW (hr.at e') λ v hv r=>?_;refine cH (id fU) λ o ho hc hd=>?_;refine wpAny_pyNext_list_item fU (hs.isList hx hl) (by simpa using hv) λ h' mX eO=>⟨v,rfl,?_⟩;refine cH (id mX) λ o' nh Hb iP=>?_;have g:aB c [I] [] s {s with heap:=h'}:=SameBut.grow (tk:=s.toks) eO ho (bU (by rw[hc];trivial));refine hY nh Hb (by decide) ⟨g,SameBut.br (tk:=s.toks) S eO (hB I (.head _)),[I],rU.refl _ _ _,(hs.step g λ a h=>by obtain rfl:=m1 h;exact⟨.inl hI,hK⟩).nice r,rfl,i+1,mX,?_⟩;have:ds=(ds₀.drop i).tail:=by rw[← e];rfl
  rw[this,pX]
 done:= λ {F s} S hs hB w0=>by
  refine mn w0 ?_;clear w0;intro hF i fU e;subst hF;refine cH (id fU) λ o ho hc hd=>?_;have hle:ds₀.length≤i:=by simpa using e.symm
  refine c9 (wpAny_pyNext_list_end hh fU (hs.isList hx hl) (by rw[← hr.length]at hle;simpa using hle) λ h' he up=>⟨rfl,ExtBut.grow (tk:=s.toks) up.heap he ho (bU (by rw[hc];trivial)),ExtBut.br (tk:=s.toks) S up.heap he (hB I (.head _))⟩)
 self:= λ {A' F ds s} S w0=>by refine mn w0 ?_;clear w0;intro z i fU z;exact wpAny_pyIter_listiter fU ⟨rfl,rfl⟩
theorem Ib.list{tg:Expr}{ds:List D}:Ib c n tg (.lst ds) (· =ds):= λ A O s v R K r=>by
 refine bh.n6 r ?_;clear r;intro a vs ha hl r;have hl:=hl.isList;refine wpAny_pyIter_list hl ?_;have g:aB c [] [] s {s with heap:=s.heap.push {cls:=.type "list_iterator",data:=.fields #[.ref a,.int 0 0]}}:=aB.push (tk:=s.toks);have zx:a≠s.heap.objs.size:=let⟨o,ho,_⟩:=hl;dO (aI ho)
 refine⟨g,K.br.push (tk:=s.toks),ds,rfl,[s.heap.objs.size],[],λ b h=>?_,λ z=>nn,λ A' R'=>⟨_,nM.list (vs:=vs) (ds₀:=ds) (ax:=a) R'.handled (hl.push _) (λ h=>?_) ?_ (.head _) (by simp),rfl,0,⟨_,av _ rfl,rfl,rfl⟩,rfl⟩⟩
 ·rw[aj]at h;subst h;exact⟨az _,by rw[aW];exact aS _⟩
 ·rcases aC.mp h with h|h
  ·exact zx (aj.mp h)
  ·exact ha h
 ·exact g.fj (λ z=>nn) (λ b h=>(aC.mp h).elim (λ h=>.inr (by rw[aj]at h;exact h▸az _)) .inl) r
theorem nM.tuple{A:aK}{tg:Expr}{I ax:Addr}{k:Snap}{vs:List ag}{ds₀:List D}(hh:A.handled=none)(hl:lP k.s.heap ax vs.toArray)(hx:ax∉k.O)(hr:a7 c.w k.O k.s.heap vs ds₀)(hI:I∈k.O)(hK:I∉k.K):
  nM c A tg (.ref I) k [] (λ F ds s=>F=[I]∧∃i,s.heap.IsTupleIter I ax i∧ds=ds₀.drop i) where
 det:= λ h h'=>h.1.trans h'.1.symm
 frame:=by
  rintro F V G' ds s s' ⟨rfl,i,⟨o,ho,hc,hd⟩,e⟩ x S hV _
  exact⟨rfl,i,⟨o,x.keep _ _ (λ h=>hV _ h (.head _)) ho (bU (by rw[hc];trivial)),hc,hd⟩,e⟩
 next:= λ {F ds d s} S hs hB w0=>by
  refine mn w0 ?_;clear w0;intro hF i fU e;subst hF;have e':ds₀[i]? =some d:=by
   have:(ds₀.drop i)[0]? =some d:=by rw[← e];rfl
   simpa using this
  refine cW (hr.at e') λ v hv r=>?_;refine cH (id fU) λ o ho hc hd=>?_;refine wpAny_pyNext_tuple_item fU (hs.isTup hx hl) (by simpa using hv) λ h' mX eO=>⟨v,rfl,?_⟩;refine cH (id mX) λ o' nh Hb iP=>?_;have g:aB c [I] [] s {s with heap:=h'}:=SameBut.grow (tk:=s.toks) eO ho (bU (by rw[hc];trivial));refine hY nh Hb (by decide) ⟨g,SameBut.br (tk:=s.toks) S eO (hB I (.head _)),[I],rU.refl _ _ _,(hs.step g λ a h=>by obtain rfl:=m1 h;exact⟨.inl hI,hK⟩).nice r,rfl,i+1,mX,?_⟩;have:ds=(ds₀.drop i).tail:=by rw[← e];rfl
  rw[this,pX]
 done:= λ {F s} S hs hB w0=>by
  refine mn w0 ?_;clear w0;intro hF i fU e;subst hF;refine cH (id fU) λ o ho hc hd=>?_;have hle:ds₀.length≤i:=by simpa using e.symm
  refine c9 (wpAny_pyNext_tuple_end hh fU (hs.isTup hx hl) (by rw[← hr.length]at hle;simpa using hle) λ h' he up=>⟨rfl,ExtBut.grow (tk:=s.toks) up.heap he ho (bU (by rw[hc];trivial)),ExtBut.br (tk:=s.toks) S up.heap he (hB I (.head _))⟩)
 self:= λ {A' F ds s} S w0=>by refine mn w0 ?_;clear w0;intro z i fU z;exact wpAny_pyIter_tupleiter fU ⟨rfl,rfl⟩
theorem Ib.tuple{tg:Expr}{ds:List D}:Ib c n tg (.tup ds) (· =ds):= λ A O s v R K r=>by
 refine bh.qh r ?_;clear r;intro a vs ha hl r;refine wpAny_pyIter_tuple hl ?_;have g:aB c [] [] s {s with heap:=s.heap.push {cls:=.type "tuple_iterator",data:=.fields #[.ref a,.int 0 0]}}:=aB.push (tk:=s.toks);have zx:a≠s.heap.objs.size:=let⟨o,ho,_⟩:=hl;dO (aI ho)
 refine⟨g,K.br.push (tk:=s.toks),ds,rfl,[s.heap.objs.size],[],λ b h=>?_,λ z=>nn,λ A' R'=>⟨_,nM.tuple (vs:=vs) (ds₀:=ds) (ax:=a) R'.handled (hl.push _) (λ h=>?_) ?_ (.head _) (by simp),rfl,0,⟨_,av _ rfl,rfl,rfl⟩,rfl⟩⟩
 ·rw[aj]at h;subst h;exact⟨az _,by rw[aW];exact aS _⟩
 ·rcases aC.mp h with h|h
  ·exact zx (aj.mp h)
  ·exact ha h
 ·exact g.fj (λ z=>nn) (λ b h=>(aC.mp h).elim (λ h=>.inr (by rw[aj]at h;exact h▸az _)) .inl) r
noncomputable def qp(a b:Int):List Int:=(aw (b-a).toNat).map λ (i:Nat)=>a+(i:Int)
theorem v9{a b:Int}(h:a<b):qp a b=a::qp (a+1) b:=by
 obtain⟨m,rfl⟩:=Int.le.dest h;unfold qp;rw[show a+1+(m:Int) -a=((m+1:Nat):Int) by lia,show a+1+(m:Int) -(a+1)=m by lia,eU,eU,List.range_succ_eq_map,a9,bI];refine congr (congrArg _ (Int.add_zero a)) (cj λ i z=>?_);show a+((i+1:Nat):Int)=a+1+(i:Int);rw[x6,Int.add_assoc,oX 1];rfl
theorem EV{a b:Int}(h:b≤a):qp a b=[]:=by
 unfold qp;rw[Int.toNat_of_nonpos (Int.sub_nonpos_of_le h)];rfl
theorem v8{x b left:Int}(hl:left=b-x∨(left≤0∧b≤x))(h:x<b):left=b-x:=hl.elim id λ q=>absurd h (sW.mpr q.2)
theorem nM.range{A:aK}{tg:Expr}{I:Addr}{k:Snap}{b:Int}(hh:A.handled=none)(hI:I∈k.O)(hK:I∉k.K):
  nM c A tg (.ref I) k [] (λ F ds s=>F=[I]∧∃x left,IsRangeIter s.heap I x left 1∧(left=b-x∨(left≤0∧b≤x))∧ds=(qp x b).map D.int) where
 det:= λ h h'=>h.1.trans h'.1.symm
 frame:=by
  rintro F V G' ds s s' ⟨rfl,x,left,fU,hl,e⟩ g S hV _
  exact⟨rfl,x,left,g.keep _ _ (λ h=>hV _ h (.head _)) fU (bU (by simp)),hl,e⟩
 next:= λ {F ds d s} S hs hB w0=>by
  obtain⟨hF,x,left,fU,hl,e⟩:=w0;subst hF;have gy:x<b:=by
   rcases uZ x b with h|h
   ·exact h
   ·rw[EV h]at e;cases e
  rw[v9 gy,a9]at e;injection e with e1 e2
  subst e1;refine wpAny_pyNext_range_item fU (v8 hl gy▸Int.sub_pos_of_lt gy) λ h' mX eO=>⟨_,rfl,?_⟩;have g:aB c [I] [] s {s with heap:=h',toks:=s.toks+1}:=SameBut.grow eO fU (bU (by simp));refine hY mX rfl (by decide) ⟨g,SameBut.br S eO (hB I (.head _)),[I],rU.refl _ _ _,λ O z z=>by exact⟨_,rfl⟩,rfl,x+1,left-1,mX,.inl (by rw[v8 hl gy,Int.sub_sub]),e2⟩
 done:= λ {F s} S hs hB w0=>by
  obtain⟨hF,x,left,fU,hl,e⟩:=w0;subst hF;have hle:b≤x:=by
   rcases uZ x b with h|h
   ·rw[v9 h]at e;cases e
   ·exact h
  refine c9 (wpAny_pyNext_range_end hh fU (hl.elim (λ e=>e▸Int.sub_nonpos_of_le hle) And.left) λ h' he up=>⟨rfl,ExtBut.grow (tk:=s.toks) up.heap he fU (bU (by simp)),ExtBut.br (tk:=s.toks) S up.heap he (hB I (.head _))⟩)
 self:= λ {A' F ds s} S w0=>by obtain⟨_,x,left,fU,_⟩:=w0;exact wpAny_pyIter_rangeiter fU ⟨rfl,rfl⟩
theorem sd{a b:Int}(ha: -1000≤a)(Hc:a≤1000)(hb: -1000≤b)(wA:b≤1000):wY a b 1=true:=by
 have h1:∀x:Int,-4000≤x→x≤4000→q_ x=true:= λ x h1 h2=>by
  unfold q_;simp;lia
 have h2: -4000≤fF a b 1∧fF a b 1≤4000:=by
  unfold fF;simp
  split<;>lia
 unfold wY;simp only[h1 a (by lia) (by lia),h1 b (by lia) (by lia),h1 1 (by trivial) (by trivial),h1 _ h2.1 h2.2,h1 (b+(1-1)) (by lia) (by lia)];simp
theorem Ib.range{tg:Expr}{a b:Int}(ha: -1000≤a)(Hc:a≤1000)(hb: -1000≤b)(wA:b≤1000):Ib c n tg (.D7 a b) (· =(qp a b).map D.int):= λ A O s v R K r=>by
 refine bh.EW r ?_;clear r;intro r t u t' hr ho;refine wpAny_pyIter_range ho (sd ha Hc hb wA) ?_;refine⟨aB.push (tk:=s.toks),K.br.push (tk:=s.toks),_,rfl,[s.heap.objs.size],[],λ b h=>?_,λ z=>nn,λ A' R'=>⟨_,nM.range (b:=b) R'.handled (.head _) (by simp),rfl,a,_,av _ rfl,?_,rfl⟩⟩
 ·rw[aj]at h;subst h;exact⟨az _,by rw[aW];exact aS _⟩
 ·unfold fF;simp
  split<;>omega
end
section
set_option backward.match.sparseCases false
noncomputable def xV(c:Cx)(n:Nat)(E:VE)(ρ:List Sl)(e:Expr)(d:D):Prop:=
 ∀(A:aK) (β:dH) (O:List Addr) (ad:Nat→List Addr) (s:ae),Rm A n→Inv c E β O ad ρ s→wpAny (model c.prog c.w) A (eval e E.env)
  (λ v s'=>aB c [] [] s s'∧bF c s'∧∀O',(∀a∈O',a<s.heap.objs.size)→bh c.w O' s'.heap v d) aZ s
section
variable {c:Cx}{n:Nat}{E:VE}{ρ ρ':List Sl}{scope:iT}{tn:List Str}{ix:List Nat}{β:dH}{O O':List Addr}{ad:Nat→List Addr}{s s':ae}
theorem xV.ev{e:Expr}{d:D}(h:xV c n E ρ e d):Ev c n E ρ e d:= λ A β O ad s R I=>
 wm (h A β O ad s R I) λ v s' q=>⟨q.1,q.2.1,q.2.2 O I.lt⟩
noncomputable def D.flat:D→Bool
 |.none|.bool _|.int _|.str _=>true
 |_=>false
theorem bh.flat{w:a0}{O O':List Addr}{h:Heap}{v:ag}{d:D}(hd:d.flat=true)(r:bh w O h v d):bh w O' h v d:=by
 cases d<;>first|(exact r)|cases hd
theorem Ev.flat{e:Expr}{d:D}(h:Ev c n E ρ e d)(hd:d.flat=true):xV c n E ρ e d:= λ A β O ad s R I=>
 wm (h A β O ad s R I) λ v s' q=>⟨q.1,q.2.1,λ O' z=>q.2.2.flat hd⟩
theorem bF.gen{g:Nat}{x:mh}(S:bF c s)(hx:x.bare=true):bF c (s.setGen g x):=by
 refine⟨S.ok,S.fY,S.nolimit,S.g,S.b,S.mod,S.tab,λ y hy=>?_,S.size⟩;have hy:y∈s.gens.setIfInBounds g x:=hy
 rcases Array.mem_or_eq_of_mem_setIfInBounds hy with h|h
 ·exact S.bare y h
 ·subst h;exact hx
theorem aB.gen{g:Nat}{x:mh}:aB c [] [g] s (s.setGen g x):=
 ⟨az _,λ z z z e z=>e,λ z z e z=>.inl e,λ g' y hg e=>by
  have:g≠g':= λ h=>hg (by simp[h]);show(s.gens.setIfInBounds g x)[g']? =some y;rw[lO,if_neg this];exact e,by show s.gens.size≤(s.gens.setIfInBounds g x).size;simp,rfl⟩
structure Gx where
 elt:Expr
 tg:Expr
 iter:Expr
 ifs:List Expr
 scope:iT
 pos:Pos
noncomputable abbrev Gx.e(x:Gx):Expr:=.GeneratorExp x.elt [⟨x.tg,x.iter,x.ifs,0⟩] x.scope x.pos
noncomputable def x9(k:Snap)(er F:List Addr)(t:ae):Prop:=∀a∈F,(a∈er∨k.s.heap.objs.size≤a)∧a<t.heap.objs.size
noncomputable def gR(c:Cx)(C:Addr)(fE:List Addr→List D→ae→Prop)(g:Nat)(eB:List Nat):GenEnd:= λ n s₀ r au=>r=.ok .next∧(n=0∧(∀F ds,fE F ds s₀→aB c (C::F) (g::eB) s₀ au)∧bF c au)
noncomputable def I1(c:Cx)(k:Snap)(C:Addr)(F:List Addr)(eB:List Nat)(s k_:ae):Prop:=
 bF c k_∧cA c k k_∧∃V G',aB c V G' s k_∧(∀a∈V,a≠C∧a∉F)∧∀g'∈G',g'∉eB∧g'<s.gens.size∨s.gens.size≤g'
noncomputable def gY(c:Cx)(k:Snap)(C:Addr)(er:List Addr)(fE:List Addr→List D→ae→Prop)(g:Nat)(eB:List Nat)(eL:List D):Protocol:= λ m s₀ v au Wb=>
 ∃d F',eL.reverse[m]? =some d∧(∃ds,fE F' ds au)∧x9 k er F' au∧uU c k (C::F') s₀ au v d∧(∀F ds,fE F ds s₀→aB c (C::F) (g::eB) s₀ au∧rU F F' s₀ au)∧bF c au∧∀k_,I1 c k C F' eB au k_→Wb (.send .none) k_
structure pR(c:Cx)(n:Nat)(A:aK)(E:VE)(ρ:List Sl)(β:dH)(O:List Addr)(ad:Nat→List Addr)(s:ae)(x:Gx)(tn:List Str)(ix:List Nat)(dn:Env)(C:Addr)(it:ag)(k κ:Snap)(er:List Addr)(eB:List Nat)
  (fE:List Addr→List D→ae→Prop)(f:D→Option D)(ds:List D):Prop where
 I:Inv c E β O ad ρ s
 Vv:sF E.env E.vn x.scope tn ix
 env:DN E.env dn x.scope C
 R:Rm A (n+1)
 co:dn.scope.isCoroutine=false
 up:aB c [] [] s κ.s
 J7:aB c [] [] κ.s k.s
 hC:κ.s.heap.objs.size≤C∧C<k.s.heap.objs.size
 kO:∀a∈O,a∈k.O
 kF:∀a∈er,a∈k.O
 kC:C∈k.O
 kK:k.K=O
 kN:∀a∈k.O,a∈er++O∨(κ.s.heap.objs.size≤a∧a<k.s.heap.objs.size)
 QO:κ.O=er++O
 T2:κ.K=[]
 T:nM c (A.over (.compLoop x.e 0 it .none dn) []) x.tg it κ eB fE
 hF:∀a∈er,s.heap.objs.size≤a∧a<κ.s.heap.objs.size
 E:∀d∈ds,El c n (kL E dn tn ix) (oR ρ tn ix) x.tg x.ifs d (f d).isSome λ ρ'=>∀y,f d=some y→xV c n (kL E dn tn ix) ρ' x.elt y
theorem Rm.over{A:aK}{e:Expr}{it:ag}{dn:Env}{gens:List Comprehension}{pos:Pos}{n:Nat}(R:Rm A (n+1)):Rm (A.over (.compLoop (.GeneratorExp e gens scope pos) 0 it .none dn) []) n:=
 ⟨R.handled,by have:=R.depth;show A.depth+1+n<_;exact GX this,uj (j:=3) (by decide) R.units⟩
section
variable {A:aK}{x:Gx}{dn:Env}{C:Addr}{it:ag}{k κ:Snap}{er F F':List Addr}{eB:List Nat}{fE:List Addr→List D→ae→Prop}{f:D→Option D}{ds:List D}{g:Nat}
theorem pR.since(H:pR c n A E ρ β O ad s x tn ix dn C it k κ er eB fE f ds){t:ae}(h:cA c k t):cA c κ t:=by
 refine ez h ?_;clear h;intro V G' y hV;refine⟨V,G',(H.J7.mono (λ z=>nn) λ z=>nn).trans y,λ a h=>⟨?_,by rw[H.T2];exact nn⟩⟩;rw[H.QO]
 rcases(hV a h).1 with h1|h1
 ·exact(H.kN a h1).imp id And.left
 ·exact .inr (af H.J7.size h1)
theorem pR.zs(H:pR c n A E ρ β O ad s x tn ix dn C it k κ er eB fE f ds):s.heap.objs.size≤k.s.heap.objs.size:=af H.up.size H.J7.size
theorem pR.low(H:pR c n A E ρ β O ad s x tn ix dn C it k κ er eB fE f ds){t:ae}(hF:x9 k er F t):∀a∈F,c.B≤a:= λ a h=>af H.I.br.size ((hF a h).1.elim (λ h=>(H.hF a h).1) λ h=>af H.zs h)
theorem pR.M9(H:pR c n A E ρ β O ad s x tn ix dn C it k κ er eB fE f ds){t:ae}(hF:x9 k er F t):C∉F:= λ h=>(hF C h).1.elim (λ h=>ak _ (ab (H.hF _ h).2 H.hC.1)) λ h=>ak _ (ab H.hC.2 h)
theorem pR.KM(H:pR c n A E ρ β O ad s x tn ix dn C it k κ er eB fE f ds){t:ae}(hF:x9 k er F t):∀a∈C::F,(a∈k.O∨k.s.heap.objs.size≤a)∧a∉k.K:= λ a h=>by
 rw[H.kK]
 rcases mc h with rfl|h
 ·exact⟨.inl H.kC,λ ho=>ak _ (ab (H.I.lt _ ho) (af H.up.size H.hC.1))⟩
 ·rcases(hF a h).1 with h|h
  ·exact⟨.inl (H.kF a h),λ ho=>ak _ (ab (H.I.lt _ ho) (H.hF a h).1)⟩
  ·exact⟨.inr h,λ ho=>ak _ (ab (H.I.lt _ ho) (af H.zs h))⟩
theorem x9.step{t ma:ae}(h:x9 k er F t)(hu:rU F F' t ma)(hk:k.s.heap.objs.size≤t.heap.objs.size)(hz:t.heap.objs.size≤ma.heap.objs.size):x9 k er F' ma:= λ a ha=>(hu a ha).elim (λ ha=>⟨(h a ha).1,ab (h a ha).2 hz⟩) λ ha=>⟨.inr (af hk ha.1),ha.2⟩
theorem x9.later{t ma:ae}(h:x9 k er F t)(hz:t.heap.objs.size≤ma.heap.objs.size):x9 k er F ma:= λ a ha=>⟨(h a ha).1,ab (h a ha).2 hz⟩
theorem pR.block(H:pR c n A E ρ β O ad s x tn ix dn C it k κ er eB fE f ds){t:ae}(h:cA c k t)(S:bF c t)(hn:∃m,t.heap.Ns C m)(Iu:x9 k er F t):
  ∃ad',Inv c (kL E dn tn ix) ⟨t,[],C::(F++O),[C],[]⟩ (C::(F++O)) ad' (oR ρ tn ix) t:=by
 refine ez h ?_;clear h;intro V G' y hV;have gy:k.s.heap.objs.size≤t.heap.objs.size:=y.size;have vf:s.heap.objs.size≤κ.s.heap.objs.size:=H.up.size;have R1:κ.s.heap.objs.size≤k.s.heap.objs.size:=H.J7.size;have g:aB c [] G' s t:=by
  refine(((H.up.trans H.J7).mono (O':=[]) (G':=G') (λ z=>nn) λ z=>nn)).comp y (λ a h=>.inr ?_) (λ g h=>.inl h)
  rcases(hV a h).1 with h1|h1
  ·rcases H.kN a h1 with h2|h2
   ·rcases aC.mp h2 with h2|h2
    ·exact(H.hF a h2).1
    ·exact absurd (H.kK▸h2) (hV a h).2
   ·exact af vf h2.1
  ·exact af vf (af R1 h1)
 exact⟨_,H.I.block H.Vv g S H.env ⟨af vf H.hC.1,ab H.hC.2 gy⟩ (λ a h=>by
  rcases mc h with rfl|h
  ·exact .inr ⟨af vf H.hC.1,ab H.hC.2 gy⟩
  rcases aC.mp h with h|h
  ·exact .inr ⟨(Iu a h).1.elim (λ h=>(H.hF a h).1) λ h=>af H.zs h,(Iu a h).2⟩
  ·exact .inl h) (λ a h=>.tail _ (ao _ h)) (.head _) hn (.head _)⟩
theorem uU.of{k:Snap}{F:List Addr}{s₀ au:ae}{v:ag}{d:D}{t:ae}(hz:s₀.heap.objs.size≤t.heap.objs.size)(hF:∀a∈F,a<t.heap.objs.size)(h:∀O',(∀a∈O',a<t.heap.objs.size)→bh c.w O' au.heap v d):uU c k F s₀ au v d:=
 λ O z h2=>h O λ a ha=>(h2 a ha).elim (λ h=>ab h hz) (hF a)
theorem EO(H:pR c n A E ρ β O ad s x tn ix dn C it k κ er eB fE f ds)(hg:g∉eB):∀(oo pre zL:List D) (lV F:List Addr) (s₀ t:ae),zL++oo=ds→pre++oo.filterMap f=ds.filterMap f→bF c t→cA c k t→(∃m,t.heap.Ns C m)→fE F oo t→x9 k er F t→(∃lJ,fE lV lJ s₀)→rU lV F s₀ t→aB c (C::lV) (g::eB) s₀ t→g<t.gens.size→
  Seg (model c.prog c.w) A (gR c C fE g eB) (gY c k C er fE g eB (ds.filterMap f)) (oo.filterMap f).length s₀ (.compLoop x.e 0 it .none dn) ((model c.prog c.w).den (.compLoop x.e 0 it .none dn)) [] t:=by
 have XV:dn.locals=C:=H.env.locals;intro oo
 induction oo with
 |nil=>
  intro pre zL lV F s₀ t hd Bg S hs hn p Iu Bh Ha hG Lb;show Seg _ A _ _ _ s₀ _ ((compTurn (.GeneratorExp x.elt [⟨x.tg,x.iter,x.ifs,0⟩] x.scope x.pos) 0 it .none dn).onRaise (leaving dn)) [] t;rw[compTurn_gen,gb];refine dD (bQ ?_);refine dD (wm (H.T.done S (H.since hs) (H.low Iu) p) λ r t' q=>?_);refine jH q ?_;clear q;intro z1 y S';subst z1;refine seg_end (.ok .next) ⟨rfl,rfl,λ P4 JL FZ=>?_,S'⟩;refine xe Bh ?_;clear Bh;intro lJ Bh;rw[H.T.det FZ Bh];exact hG.comp y (λ a h=>(Ha a h).imp (λ h=>.tail _ h) And.left) λ g h=>.inl (.tail _ h)
 |cons d oo ih=>
  intro pre zL lV F s₀ t hd Bg S hs hn p Iu Bh Ha hG Lb;show Seg _ A _ _ _ s₀ _ ((compTurn (.GeneratorExp x.elt [⟨x.tg,x.iter,x.ifs,0⟩] x.scope x.pos) 0 it .none dn).onRaise (leaving dn)) [] t;rw[compTurn_gen,gb];refine dD (bQ ?_);refine dD (wm (H.T.next S (H.since hs) (H.low Iu) p) λ r eu q=>?_);refine cW q ?_;clear q;intro v z1 q;subst z1;refine dD (wm q λ j ma q=>?_);refine tx q ?_;clear q;intro y jy F' hu hv rp;have zD:x9 k er F' ma:=Iu.step hu hs.size y.size;have mD:=hs.step y λ a h=>H.KM Iu a (.tail _ h);refine xe hn ?_;clear hn;intro m hn;have Cf:ma.heap.Ns C m:=y.ns (H.M9 Iu) hn;refine xe (H.block mD jy ⟨m,Cf⟩ zD) λ ad' ct=>?_;have Xe:d∈ds:=by rw[← hd];exact ao _ (.head _)
  refine eG ((H.E d Xe).ex) λ ρ' ht hw hi hk=>?_;have R6:bh c.w (C::(F'++O)) ma.heap v d:=by
   refine hv _ (λ a h=>?_) λ a h=>?_
   ·rw[H.QO]
    rcases mc h with rfl|h
    ·exact .inr H.hC.1
    rcases aC.mp h with h|h
    ·exact(zD a h).1.imp (λ h=>aF _ h) λ h=>af H.J7.size h
    ·exact .inl (ao _ h)
   ·have hz:=hs.size
    rcases mc h with rfl|h
    ·exact .inl (ab H.hC.2 hz)
    ·rcases aC.mp h with h|h
     ·exact .inr h
     ·exact .inl (ab (H.I.lt a h) (af H.zs hz))
  have R':Rm (A.over (.compLoop x.e 0 it .none dn) []) n:=H.R.over;refine dD (wm (ht _ _ _ _ ma v R' ct R6) λ j QW q=>?_);refine dj q ?_;clear q;intro zW W jU VA hW;refine dD (wm (hi _ _ _ _ QW R' jU) λ b Hr q=>?_);refine jH q ?_;clear q;intro z1 QR xU;subst z1;have i4:=jU.fT QR xU;have F7:∀sL ot,Inv c (kL E dn tn ix) ⟨ma,[],C::(F'++O),[C],[]⟩ (C::(F'++O)) ot ρ' sL→cA c k sL∧(∃m,sL.heap.Ns C m)∧fE F' oo sL∧aB c (C::lV) (g::eB) s₀ sL∧g<sL.gens.size∧rU lV F' s₀ sL∧x9 k er F' sL:=by
   intro sL ot jA;have Ik:s₀.heap.objs.size≤t.heap.objs.size:=hG.size;have RO:ma.heap.objs.size≤sL.heap.objs.size:=jA.grow.size;refine⟨mD.step jA.grow λ a h=>H.KM zD a (by obtain rfl:=m1 h;exact .head _),?_,H.T.frame rp jA.grow jA.br (λ a h=>by obtain rfl:=m1 h;exact H.M9 zD) (λ j=>nn),
    (hG.comp y (λ a h=>(Ha a h).imp (λ h=>.tail _ h) And.left) λ g h=>.inl (.tail _ h)).trans (jA.grow.mono (λ a h=>.inl (by obtain rfl:=m1 h;exact .head _)) λ j=>nn),ab Lb (af y.dv jA.grow.dv),λ a h=>?_,zD.later RO⟩
   ·have:=jA.ns;rw[show(kL E dn tn ix).env.locals=C from XV]at this;exact this
   ·rcases hu a h with h|h
    ·exact(Ha a h).imp id λ h=>⟨h.1,ab h.2 (af y.size RO)⟩
    ·exact .inr ⟨af Ik h.1,ab h.2 RO⟩
  cases hf:f d with
  |none=>
   rw[eJ hf];simp only[Option.isSome_none,aR,if_false];refine b_ (F7 Hr zW i4) λ h1 h2 h3 zh=>b_ zh λ h4 h5 h6 h7=>?_;exact seg_again rfl (ih pre (zL++[d]) lV F' s₀ Hr (by rw[← hd];simp) (by rw[← Bg,eJ hf]) xU h1 h2 h3 h7 Bh h6 h4 h5)
  |some yd=>
   rw[bA hf,aJ];simp only[Option.isSome_some,if_true];have SH:dn.scope.isCoroutine=false:=H.co;have hy:∀v,yieldOut dn v=yieldValue v:= λ v=>by simp only[yieldOut,SH,aR,if_false]
   simp only[hy];rw[fQ,fQ,il,il];refine seg_wrap (wm (hk (by rw[hf];rfl) yd hf _ _ _ _ Hr R' i4) λ u sL q=>?_);refine jH q ?_;clear q;intro QQ By NV;refine b_ (F7 sL zW (i4.fT QQ By)) λ h1 h2 h3 zh=>b_ zh λ h4 h5 h6 h7=>?_;refine b_ (F7 Hr zW i4) λ j j j zh=>b_ zh λ XY j j XX=>?_;refine seg_at (seg_yield rfl rfl rfl ⟨yd,F',?_,⟨_,h3⟩,h7,.of XY.size (λ a h=>?_) NV,λ P4 JL FZ=>?_,By,λ k_ ni=>?_⟩)
   ·have hlen:(ds.filterMap f).length=pre.length+((oo.filterMap f).length+1):=by rw[← Bg,bA hf];simp
    rw[D5 (by lia),← Bg,bA hf];rw[d8 (by simp only[aY,aJ];exact Nk _ _)];simp
   ·rcases mc h with rfl|h
    ·exact ab H.hC.2 (af hs.size (af y.size i4.grow.size))
    ·exact(XX a h).2
   ·refine xe Bh ?_;clear Bh;intro lJ Bh;rw[H.T.det FZ Bh];exact⟨h4,h6⟩
   ·refine jH ni ?_;clear ni;intro Hg rG zh;refine dj zh ?_;clear zh;intro V G' z hV Gi;have QH:=H.T.frame h3 z Hg (λ a h=>(hV a h).2) Gi;refine seg_again rfl (ih (pre++[yd]) (zL++[d]) F' F' k_ k_ (by rw[← hd];simp) (by rw[← Bg,bA hf];simp) Hg rG ?_ QH (h7.later z.size) ⟨_,QH⟩ (rU.refl _ _ _) (.refl ..) (ab h5 z.dv));refine xe h2 ?_;clear h2;intro m hn;exact⟨m,z.ns (λ h=>(hV _ h).1 rfl) hn⟩
end
end
end
section
variable {c:Cx}{n:Nat}{E:VE}{ρ ρ':List Sl}{scope:iT}{tn:List Str}{ix:List Nat}{β:dH}{O O':List Addr}{ad:Nat→List Addr}{s s':ae}
section
variable {A:aK}{x:Gx}{dn:Env}{C:Addr}{it:ag}{k κ:Snap}{er:List Addr}{eB:List Nat}{fE:List Addr→List D→ae→Prop}{f:D→Option D}{ds:List D}{g:Nat}{a:Addr}
theorem CW(H:pR c n A E ρ β O ad s x tn ix dn C it k κ er eB fE f ds)(hg:g∉eB){F:List Addr}{t:ae}(S:bF c t)(hs:cA c k t)(hn:∃m,t.heap.Ns C m)(p:fE F ds t)(hF:x9 k er F t)(Lb:g<t.gens.size):
  Seg (model c.prog c.w) A (gR c C fE g eB) (gY c k C er fE g eB (ds.filterMap f)) (ds.filterMap f).length t (.compStart x.e 0 it .none dn) ((model c.prog c.w).den (.compStart x.e 0 it .none dn)) [] t:=by
 have loop:=EO H hg ds [] [] F F t t rfl rfl S hs hn p hF ⟨_,p⟩ (rU.refl _ _ _) (.refl ..) Lb;show Seg _ A _ _ _ t _ ((compStart (.GeneratorExp x.elt [⟨x.tg,x.iter,x.ifs,0⟩] x.scope x.pos) 0 it .none dn).onRaise (leaving dn)) [] t;rw[gb];show Seg _ A _ _ _ t _ ((ask>>=_).wrap _ _ _ _) [] t;refine dD (df ?_);have self:wpAny (model c.prog c.w) (A.over (.compStart x.e 0 it .none dn) []) (pyIter it) (λ v s'=>v=it∧s'=t) aZ t:=H.T.self S p
 split
 ·exact seg_again rfl loop
 ·have fin:∀v s',v=it∧s'=t→Seg (model c.prog c.w) A (gR c C fE g eB) (gY c k C er fE g eB (ds.filterMap f)) (ds.filterMap f).length t (.compStart x.e 0 it .none dn) (.pure (.again (.compLoop x.e 0 v .none dn))) [] s':=by
   rintro v s' ⟨rfl,rfl⟩
   exact seg_again rfl loop
  first
   |exact dD (gm (dD (bQ (dD (wm self fin)))))
   |(refine dD (gm ?_);show Seg _ A _ _ _ t _ ((standAt x.iter.pos>>=_).wrap _ _ _ _) [] t;exact dD (bQ (dD (wm self fin))))
theorem aB.after{W:List Addr}{G:List Nat}{t ma:ae}{h':Heap}(y:aB c W G t ma)(hz:t.heap.objs.size≤h'.objs.size)(hk:∀b o,ma.heap.get? b=some o→h'.get? b=some o):aB c W G t {ma with heap:=h'}:=
 ⟨hz,λ b o hb e ht=>hk b o (y.keep b o hb e ht),λ b o e ht=>(y.tab b o e ht).imp (λ h=>hk b o h) λ w0=>by obtain⟨h1,vs,more,h2,h3⟩:=w0;exact⟨h1,vs,more,h2,hk _ _ h3⟩,y.gens,y.dv,y.os⟩
theorem bF.keep{ma:ae}{h':Heap}(S:bF c ma)(hz:c.B≤h'.objs.size)(hk:∀b o,ma.heap.get? b=some o→h'.get? b=some o):bF c {ma with heap:=h'}:=
 ⟨S.ok,λ a o e=>hk _ _ (S.fY a o e),let⟨mc,hn,h0⟩:=S.nolimit; ⟨mc,hn.keeps hk,h0⟩,S.g.keeps hk,S.b.keeps hk,hk _ _ S.mod,λ p hp=>let⟨ps,h1,h2⟩:=S.tab p hp; ⟨ps,h1.keeps hk,h2.keeps hk⟩,S.bare,hz⟩
noncomputable def gP(c:Cx)(A:aK)(k:Snap)(C:Addr)(er:List Addr)(fE:List Addr→List D→ae→Prop)(g:Nat)(eB:List Nat)(a:Addr)(eL:List D):List Addr→List D→ae→Prop:= λ Fo ds t=>
 ∃F oo,Fo=a::C::F∧fE F oo t∧x9 k er F t∧t.heap.IsGen a g∧(∃pre,eL=pre++ds)∧g<t.gens.size∧∃gs,t.gens[g]? =some gs∧∀t',I1 c k C F eB t t'→gs.Goes (model c.prog c.w) A.in1 (gR c C fE g eB) (gY c k C er fE g eB eL) ds.length (.send .none) t'
theorem I1.refl{F:List Addr}{t:ae}(S:bF c t)(h:cA c k t):I1 c k C F eB t t:=⟨S,h,[],[],.refl ..,λ z=>nn,λ z=>nn⟩
theorem IsGen.grow{W:List Addr}{G:List Nat}{t t':ae}(x:aB c W G t t')(ha:a∉W)(h:t.heap.IsGen a g):t'.heap.IsGen a g:=by
 refine c8 h ?_;clear h;intro o nm qn ho hc r;exact⟨o,nm,qn,x.keep a o ha ho (bU (by rw[hc];trivial)),hc,r⟩
structure Yf(c:Cx)(fE:List Addr→List D→ae→Prop)(eB:List Nat):Prop where
 det:∀{F F':List Addr} {ds lJ:List D} {s:ae},fE F ds s→fE F' lJ s→F=F'
 frame:∀{F V:List Addr} {G':List Nat} {ds:List D} {s s':ae},fE F ds s→aB c V G' s s'→bF c s'→(∀a∈V,a∉F)→(∀g∈G',g∉eB∧g<s.gens.size∨s.gens.size≤g)→fE F ds s'
theorem nM.gen{tg:Expr}{eL:List D}(N:Yf c fE eB)(R:Rm A 1)(hg:g∉eB)(SR:a≠C)(SQ:a∉er)(Lm:a<k.s.heap.objs.size)(hk:∀{F:List Addr} {t:ae},x9 k er F t→∀b∈C::F,(b∈k.O∨k.s.heap.objs.size≤b)∧b∉k.K):
  nM c A tg (.ref a) k (g::eB) (gP c A k C er fE g eB a eL) where
 det:= λ w0 w1=>by refine dj w0 ?_;clear w0;intro F oo h1 h2 j;refine dj w1 ?_;clear w1;intro F' Vr Cn wB j;rw[h1,Cn,N.det h2 wB]
 frame:= λ {Fo V G' ds t t'} w0 y S hV hG=>by
  obtain⟨F,oo,Mp,hp,Ef,h1,h2,h3,gs,h4,h5⟩:=w0;subst Mp;have Qw:g∉G':= λ h=>(hG g h).elim (λ h=>h.1 (.head _)) λ h=>ak _ (ab h3 h);refine⟨F,oo,rfl,N.frame hp y S (λ b h hf=>hV b h (.tail _ (.tail _ hf))) (λ g' h=>(hG g' h).imp (λ h=>⟨λ hm=>h.1 (.tail _ hm),h.2⟩) id),Ef.later y.size,IsGen.grow y (λ h=>hV _ h (.head _)) h1,h2,ab h3 y.dv,gs,y.gens g gs Qw h4,λ Q0 ni=>jH ni λ Hg hs zh=>dj zh λ V2 G2 z Xy XO=>h5 Q0 ⟨Hg,hs,V++V2,G'++G2,?_,λ b h=>?_,λ g' h=>?_⟩⟩
  ·exact(y.mono (λ b h=>.inl (aF _ h)) λ b h=>.inl (aF _ h)).trans (z.mono (λ b h=>.inl (ao _ h)) λ b h=>.inl (ao _ h))
  ·exact(aC.mp h).elim (λ h=>⟨λ e=>hV b h (e▸ .tail _ (.head _)),λ hf=>hV b h (.tail _ (.tail _ hf))⟩) (Xy b)
  ·rcases aC.mp h with h|h
   ·exact(hG g' h).imp (λ h=>⟨λ hm=>h.1 (.tail _ hm),h.2⟩) id
   ·rcases XO g' h with⟨h6,h7⟩|h6
    ·by_cases h8:g'<t.gens.size
     ·exact .inl ⟨h6,h8⟩
     ·exact .inr (cu h8)
    ·exact .inr (af y.dv h6)
 next:= λ {Fo ds d t} S hs hB w0=>by
  obtain⟨F,oo,Mp,hp,Ef,h1,⟨pre,h2⟩,h3,gs,h4,h5⟩:=w0;subst Mp;have SP:a∉F:= λ h=>(Ef a h).1.elim SQ λ h=>ak _ (ab Lm h);have Xw:a∉C::F:= λ h=>(aD.mp h).elim SR SP;have g0:aB c [] [g] t (t.setGen g .running):=aB.gen;have OO:∀g'∈[g],g'∉eB∧g'<t.gens.size∨t.gens.size≤g':= λ g' h=>by obtain rfl:=m1 h;exact .inl ⟨hg,h3⟩
  have Bh:=N.frame hp g0 (S.gen rfl) (λ j=>nn) OO;have go:=h5 (t.setGen g .running) ⟨S.gen rfl,hs.step g0 λ j=>nn,[],[g],g0,λ j=>nn,OO⟩;refine wpAny_pyNext_genexpQ (P:= λ n s₀ au=>n=0∧(∀F ds,fE F ds s₀→aB c (C::F) (g::eB) s₀ au)∧bF c au) R.handled S.nolimit R.d0 h1 h4 go (λ v eu IC hb hv=>?_) (λ eu hp h' vG=>?_)
  ·refine bL hv ?_;clear hv;intro d' F' iP y1 Oy zh;refine b_ zh ?_;clear zh;intro FW Ow S1 La;refine xe y1 ?_;clear y1;intro lJ Ao;refine xa (Ow _ _ Bh) λ g1 Ha=>?_;have:d'=d:=by
    subst h2;rw[aJ,jD,D5 (by simp only[aY,aJ];exact aG _ _),d8 (by simp only[aY,aJ];exact Nk _ _)]at iP;simp only[aY,aJ]at iP;rw[QP]at iP;simpa using iP.symm
   subst this;have Ls:g<eu.gens.size:=ab (ab h3 g0.dv) g1.dv;have g2:aB c [] [g] eu (eu.setGen g IC):=aB.gen;have lH:aB c (C::F) (g::eB) t (eu.setGen g IC):=((g0.mono (λ j=>nn) λ j h=>.inl (by rw[aj]at h;exact h▸ .head _)).trans g1).trans (g2.mono (λ j=>nn) λ j h=>.inl (by rw[aj]at h;exact h▸ .head _));have ie:(eu.setGen g IC).heap.IsGen a g:=IsGen.grow lH Xw h1;refine c8 (id ie) λ o nm qn ho hc r=>?_;have XQ:∀g'∈[g],g'∉eB∧g'<eu.gens.size∨eu.gens.size≤g':= λ g' h=>by obtain rfl:=m1 h;exact .inl ⟨hg,Ls⟩
   refine⟨v,rfl,hY ho hc (by decide) ⟨lH.mono (λ b h=>.inl (.tail _ h)) (λ j h=>.inl h),S1.gen hb,a::C::F',λ b h=>?_,λ O' Cn wB=>FW O' Cn λ b hb=>?_,F',lJ,rfl,N.frame Ao g2 (S1.gen hb) (λ j=>nn) XQ,Oy,ie,⟨pre++[d'],by rw[h2];simp⟩,ab Ls g2.dv,IC,?_,λ Q0 ni=>La Q0 ?_⟩⟩
   ·rcases mc h with rfl|h
    ·exact .inl (.head _)
    rcases mc h with rfl|h
    ·exact .inl (.tail _ (.head _))
    ·exact(Ha b h).imp (λ h=>.tail _ (.tail _ h)) id
   ·rcases wB b hb with h|h
    ·exact .inl h
    ·rcases mc h with rfl|h
     ·exact .inl (ab Lm hs.size)
     ·exact .inr h
   ·show(eu.gens.setIfInBounds g IC)[g]? =some IC;rw[lO,if_pos rfl,if_pos Ls]
   ·refine jH ni ?_;clear ni;intro Hg rG zh;refine dj zh ?_;clear zh;intro V G' z hV Gi;have Eb:(eu.setGen g IC).gens.size=eu.gens.size:=by show(eu.gens.setIfInBounds g IC).size=_;simp
    refine⟨Hg,rG,V,g::G',(g2.mono (λ j=>nn) λ j h=>.inl (by rw[aj]at h;exact h▸ .head _)).trans (z.mono (λ j h=>.inl h) λ j h=>.inl (.tail _ h)),hV,λ g' h=>?_⟩
    rcases mc h with rfl|h
    ·exact .inl ⟨hg,Ls⟩
    ·rw[← Eb];exact Gi g' h
  ·exact absurd hp.1 (by simp)
 done:= λ {Fo t} S hs hB w0=>by
  obtain⟨F,oo,Mp,hp,Ef,h1,⟨pre,h2⟩,h3,gs,h4,h5⟩:=w0;subst Mp;have g0:aB c [] [g] t (t.setGen g .running):=aB.gen;have JC:cA c k (t.setGen g .running):=hs.step g0 λ j=>nn;have OO:∀g'∈[g],g'∉eB∧g'<t.gens.size∨t.gens.size≤g':= λ g' h=>by obtain rfl:=m1 h;exact .inl ⟨hg,h3⟩
  have Bh:=N.frame hp g0 (S.gen rfl) (λ j=>nn) OO;have go:=h5 (t.setGen g .running) ⟨S.gen rfl,JC,[],[g],g0,λ j=>nn,OO⟩;refine c9 (wpAny_pyNext_genexpQ (P:= λ n s₀ au=>n=0∧(∀F ds,fE F ds s₀→aB c (C::F) (g::eB) s₀ au)∧bF c au) R.handled S.nolimit R.d0 h1 h4 go (λ v eu IC hb hv=>?_) (λ eu hp h' vG up=>?_))
  ·refine bL hv ?_;clear hv;intro d' F' iP j Oy zh;refine b_ zh ?_;clear zh;intro FW Ow S1 La;exact(La eu (.refl S1 (JC.step (Ow _ _ Bh).1 (hk Ef)))).elim
  ·refine jH hp ?_;clear hp;intro j Ow S1;have g1:=Ow _ _ Bh;have g2:aB c [] [g] eu (eu.setGen g .finished):=aB.gen;have S2:bF c (eu.setGen g .finished):=S1.gen rfl;have lH:aB c (C::F) (g::eB) t (eu.setGen g .finished):=((g0.mono (λ j=>nn) λ j h=>.inl (by rw[aj]at h;exact h▸ .head _)).trans g1).trans (g2.mono (λ j=>nn) λ j h=>.inl (by rw[aj]at h;exact h▸ .head _));exact⟨rfl,(lH.mono (O':=a::C::F) (G':=g::eB) (λ b h=>.inl (.tail _ h)) (λ j h=>.inl h)).after up.heap vG,S2.keep (af S.size up.heap) vG⟩
 self:= λ {A' Fo ds t} S w0=>ez w0 λ F oo Mp zh=>b_ zh λ hp Ef h1 j=>wpAny_pyIter_gen h1 ⟨rfl,rfl⟩
end
theorem bF.row{h':Heap}{tk:Nat}{cd P:Addr}{ps C7:Array ag}(S:bF c s)(hp:(cd,P)∈c.tabs)(ht:s.heap.TableAt cd P ps)(hz:s.heap.objs.size≤h'.objs.size)(hk:∀b o,b≠P→s.heap.get? b=some o→h'.get? b=some o)(hn:h'.get? P=some (tabObj (ps++C7)))(Wt:TriplesOk (ps++C7).toList):bF c {s with heap:=h',toks:=tk}∧aB c [] [] s {s with heap:=h',toks:=tk}:=by
 have i8:∀a o,qB o=false→s.heap.get? a=some o→h'.get? a=some o:= λ a o hT e=>hk a o (λ h=>by
  subst h;rw[ht.2]at e;cases e;cases hT) e
 have Of:∀a m,s.heap.Ns a m→h'.Ns a m:= λ a m w0=>c8 w0 λ o es ep ho hd r=>⟨o,es,ep,i8 a o (cP hd) ho,hd,r⟩;refine⟨⟨S.ok,λ a o e=>i8 a o (S.ok.V0 a o e) (S.fY a o e),let⟨mc,hn,h0⟩:=S.nolimit; ⟨mc,Of _ _ hn,h0⟩,Of _ _ S.g,Of _ _ S.b,i8 _ _ (bU (by rw[S.ok.M8];trivial)) S.mod,λ p Ao=>?_,S.bare,af S.size hz⟩,hz,
  λ a o z e hT=>i8 a o hT e,λ a o e hT=>?_,λ z z z e=>e,az _,rfl⟩
 ·refine cH (S.tab p Ao) λ BY y1 y2 f5=>?_;refine xe y1 ?_;clear y1;intro o zh;refine iq zh ?_;clear zh;intro vs file tf zh;refine iq zh ?_;clear zh;intro flags tg NJ zh;refine lB zh ?_;clear zh;intro text tt op e1 zh;refine b_ zh ?_;clear zh;intro e2 e3 e4 zh;refine b_ zh ?_;clear zh;intro e5 e6 e7 zh;refine b_ zh ?_;clear zh;intro e8 e9 TA Tz;refine bL y2 ?_;clear y2;intro o' i6 f1 f2 f3 f4;have k1:h'.get? p.1=some o':=i8 _ _ (bU (by rw[f2];trivial)) f1;have X9:o=o':=by rw[f1]at e1;cases e1;rfl
  subst X9
  by_cases hP:p.2=P
  ·have:BY=ps:=by
    rw[hP,ht.2]at f5;injection f5 with f5;injection f5 with _ _ f5;injection f5 with f5;exact f5.symm
   subst this;refine⟨BY++C7,⟨o,vs,file,tf,flags,tg,NJ,text,tt,tabObj (BY++C7),k1,e2,e3,e4,e5,e6,e7,?_,rfl,Wt,Tz⟩,⟨⟨o,i6,k1,f2,f3,f4⟩,?_⟩⟩
   ·rw[hP];exact hn
   ·rw[hP];exact hn
  ·exact⟨BY,⟨o,vs,file,tf,flags,tg,NJ,text,tt,op,k1,e2,e3,e4,e5,e6,e7,hk _ _ hP e8,e9,TA,Tz⟩,⟨⟨o,i6,k1,f2,f3,f4⟩,hk _ _ hP f5⟩⟩
 ·by_cases hP:a=P
  ·subst hP;rw[ht.2]at e;cases e;exact .inr ⟨⟨_,hp,rfl⟩,ps,C7,rfl,hn⟩
  ·exact .inl (hk a o hP e)
theorem tF{A:aK}{env:Env}{pos:Pos}{q:Str}{p:Addr×Addr}(S:bF c s)(hp:p∈c.tabs)(hc:env.code=.ref p.1):
  wpAny (model c.prog c.w) A (genexprCode env pos q scope) (λ code s'=>aB c [] [] s s'∧bF c s') aZ s:=by
 refine cW (S.tab p hp) λ ps h1 h2=>?_;cases hf:codeAmong pos ps.toList with
 |some c'=>exact wpAny_genexprCode_hit hc h1 hf ⟨.refl ..,S⟩
 |none=>
  refine c9 (wpAny_genexprCodeX hc h1 h2 hf λ c' h' tk hs z z UU z Wv z up=>?_);refine xe UU ?_;clear UU;intro o zh;refine iq zh ?_;clear zh;intro vs file tf zh;refine iq zh ?_;clear zh;intro flags tg NJ zh;refine lB zh ?_;clear zh;intro text tt op e1 zh;refine b_ zh ?_;clear zh;intro e2 e3 e4 zh;refine b_ zh ?_;clear zh;intro e5 e6 e7 zh;refine b_ zh ?_;clear zh;intro e8 e9 TA Tz;exact(S.row (tk:=tk) (ps:=ps) hp h2 up.heap (λ b o hb e=>hs b o hb e) Wv.2 TA).symm
noncomputable def Hi(c:Cx)(n:Nat)(E:VE)(ρ:List Sl)(e:Expr)(tg:Expr)(Ds:List D→Prop):Prop:=
 ∀(A:aK) (β:dH) (O:List Addr) (ad:Nat→List Addr) (s:ae),Rm A n→Inv c E β O ad ρ s→wpAny (model c.prog c.w) A (eval e E.env)
  (λ v s'=>aB c [] [] s s'∧bF c s'∧(∃a,v=.ref a∧∃g,s'.heap.IsGen a g)∧∃ds,Ds ds∧iI c n tg O O s ds v s') aZ s
noncomputable abbrev P2(E:VE)(scope:iT)(tn:List Str)(ix:List Nat)(C:Addr)(code:ag):VE:=kL E (genEnv scope (eS E.env.cells scope.names []) C code builtinsNs E.env) tn ix
theorem Hi.mk(k:sA E.env E.vn scope tn ix=true)(h0:scope.names.lookup (".0":Str)=some NameKind.local){elt tg iter EG:Expr}{ifs:List Expr}{pos:Pos}{p:Addr×Addr}(f:D→Option D){Ds:List D→Prop}(hi:kg c n E ρ iter tg Ds)(hp:p∈c.tabs)(hc:E.env.code=.ref p.1)(hE:∀ds,Ds ds→∀C code,∀d∈ds,El c n (P2 E scope tn ix C code) (oR ρ tn ix) tg ifs d (f d).isSome λ ρ'=>∀y,f d=some y→xV c n (P2 E scope tn ix C code) ρ' elt y)(hs:∀x,genFold iter E.env x=pure x:=by intro j;rfl):Hi c (n+2) E ρ (.GeneratorExp elt [⟨tg,iter,ifs,0⟩] scope pos) EG (λ eL=>∃ds,Ds ds∧eL=ds.filterMap f):= λ A β O ad s R I=>by
 have k':=uL k;refine wpAny_GeneratorExp_make k'.co (pL λ x hx hf=>(k'.cells I.ok x hx hf).2.2) k'.Fd h0 k'.kind R.d0 (wm (hi A β O ad s (R.le (by exact cD _ _)) I) λ xv au cq=>wk cq λ it aH cM=>?_) hs;refine nO cM ?_;clear cM;intro cE jy ds Mj zh;refine dj zh ?_;clear zh;intro er eB hF hG fU;refine⟨jy.nolimit,wm (tF jy hp hc) λ code cn q=>?_⟩;refine xa q ?_;clear q;intro qa m6;rw[I.ok.glob];refine wpAny_builtinsFor m6.g m6.ok.bm m6.ok.bne m6.mod m6.ok.M8 m6.ok.M6 m6.ok.M7 ?_;intro h' K5 eO;have lb:h'.objs.size=cn.heap.objs.size+1:=by rw[eO.1,aW]
 have Nw:∀b o,cn.heap.get? b=some o→h'.get? b=some o:= λ b o e=>eO.extBut b o (dO (aI e)) (aA _ e);generalize Sv:({cn with
   gens:=cn.gens.push (.fresh (.compStart (.GeneratorExp elt [⟨tg,iter,ifs,0⟩] scope pos) 0 it .none (genEnv scope (eS E.env.cells scope.names []) cn.heap.objs.size code builtinsNs E.env))),
   toks:=cn.toks+1+1+1,
   heap:=h'.push {cls:=.type "generator",data:=.fields #[.int cn.gens.size 0,.str "<genexpr>" (cn.toks+1),.str (E.env.qual++"<genexpr>") (cn.toks+1+1)]}}:ae)=s₅
 have JG:s₅.heap=h'.push {cls:=.type "generator",data:=.fields #[.int cn.gens.size 0,.str "<genexpr>" (cn.toks+1),.str (E.env.qual++"<genexpr>") (cn.toks+1+1)]}:=by rw[← Sv]
 have He:s₅.gens=cn.gens.push (.fresh (.compStart (.GeneratorExp elt [⟨tg,iter,ifs,0⟩] scope pos) 0 it .none (genEnv scope (eS E.env.cells scope.names []) cn.heap.objs.size code builtinsNs E.env))):=by rw[← Sv]
 have eH:∀b o,cn.heap.get? b=some o→s₅.heap.get? b=some o:= λ b o e=>by rw[JG];exact aA _ (Nw b o e)
 have iH:s₅.heap.objs.size=cn.heap.objs.size+2:=by rw[JG,aW,lb]
 have AE:aB c [] [] cn s₅:=⟨by exact iH▸cD _ _,λ a o j e j=>eH a o e,λ a o e j=>.inl (eH a o e),λ g y j e=>by
  rw[He,BL (rJ e)];rw[mK (rJ e)]at e;exact e,by rw[He,gZ];exact bq _,by rw[← Sv]⟩
 have By:bF c s₅:=by
  refine⟨m6.ok,λ a o e=>eH _ _ (m6.fY a o e),let⟨mc,hn,h0⟩:=m6.nolimit; ⟨mc,hn.keeps eH,h0⟩,m6.g.keeps eH,m6.b.keeps eH,eH _ _ m6.mod,λ p hp=>let⟨ps,h1,h2⟩:=m6.tab p hp; ⟨ps,h1.keeps eH,h2.keeps eH⟩,?_,by have:=m6.size;lia⟩;rw[He];exact m6.bare.push rfl
 have hx:s.heap.objs.size≤aH.heap.objs.size:=cE.size;have Mb:aH.heap.objs.size≤cn.heap.objs.size:=qa.size;have ie:s₅.heap.IsGen h'.objs.size cn.gens.size:=by rw[JG];exact⟨_,_,_,av _ rfl,rfl,rfl,rfl⟩
 have WR:s₅.heap.Ns cn.heap.objs.size (λ y=>if y=".0" then some it else none):=by rw[JG];exact K5.push _
 have zq:s₅.gens.size=cn.gens.size+1:=by rw[He,gZ]
 have JE:cn.gens.size∉eB:= λ h=>ak _ (ab (hG _ h).2 qa.dv);have SR:h'.objs.size≠cn.heap.objs.size:=by rw[lb];exact vQ _
 have QE:∀b∈er,b<cn.heap.objs.size:= λ b h=>ab (hF b h).2 Mb;have SQ:h'.objs.size∉er:= λ h=>by have:=QE _ h;rw[lb]at this;exact ak _ (kr this)
 have Vd:cn.heap.objs.size∉er:= λ h=>ak _ (QE _ h);refine⟨(cE.trans qa).trans AE,By,⟨_,rfl,_,ie⟩,_,⟨ds,Mj,rfl⟩,h'.objs.size::cn.heap.objs.size::er,cn.gens.size::eB,λ b h=>?_,λ g h=>?_,λ A' R'=>?_⟩
 ·rcases mc h with rfl|h
  ·exact⟨by rw[lb];exact af hx (af Mb (bq _)),by rw[lb,iH];exact aS _⟩
  rcases mc h with rfl|h
  ·exact⟨af hx Mb,by rw[iH];exact cw (aS _)⟩
  ·exact⟨(hF b h).1,by rw[iH];exact cw (cw (QE b h))⟩
 ·rcases mc h with rfl|h
  ·exact⟨af cE.dv qa.dv,by rw[zq];exact aS _⟩
  ·exact⟨(hG g h).1,by rw[zq];exact cw (ab (hG g h).2 qa.dv)⟩
 have Vy:Rm A'.in1 (n+1):=Rm.in1 (A:=A') (n:=n+1) R';refine cW (fU (A'.in1.over (.compLoop (.GeneratorExp elt [⟨tg,iter,ifs,0⟩] scope pos) 0 it .none (genEnv scope (eS E.env.cells scope.names []) cn.heap.objs.size code builtinsNs E.env)) []) Vy.over) λ fE T Kv=>?_;have H:pR c n A'.in1 E ρ β O ad s ⟨elt,tg,iter,ifs,scope,pos⟩ tn ix (genEnv scope (eS E.env.cells scope.names []) cn.heap.objs.size code builtinsNs E.env) cn.heap.objs.size it
   ⟨s₅,(h'.objs.size::cn.heap.objs.size::er)++O,O⟩ ⟨aH,er++O,[]⟩ er eB fE f ds:=
  {I:=I,Vv:=k',env:=.gen I.ok k' _ _,R:=Vy,co:=k'.co,up:=cE,J7:=qa.trans AE
   hC:=⟨Mb,by rw[iH];exact cw (aS _)⟩
   kO:= λ b h=>ao _ h
   kF:= λ b h=>aF _ (.tail _ (.tail _ h))
   kC:=.tail _ (.head _)
   kK:=rfl
   kN:= λ b h=>by
    rcases aC.mp h with h|h
    ·rcases mc h with rfl|h
     ·exact .inr ⟨by rw[lb];exact eT Mb,by rw[lb,iH];exact aS _⟩
     rcases mc h with rfl|h
     ·exact .inr ⟨Mb,by rw[iH];exact cw (aS _)⟩
     ·exact .inl (aF _ h)
    ·exact .inl (ao _ h)
   QO:=rfl
   T2:=rfl
   T:=T
   hF:=hF
   E:= λ d hd=>hE ds Mj _ _ d hd}
 have p5:fE er ds s₅:=T.frame (T.frame Kv qa m6 (λ j=>nn) λ j=>nn) AE By (λ j=>nn) λ j=>nn;have Ef:x9 ⟨s₅,(h'.objs.size::cn.heap.objs.size::er)++O,O⟩ er er s₅:= λ b h=>⟨.inl h,by rw[iH];exact cw (cw (QE b h))⟩;refine⟨gP c A' ⟨s₅,(h'.objs.size::cn.heap.objs.size::er)++O,O⟩ cn.heap.objs.size er fE cn.gens.size eB h'.objs.size (ds.filterMap f),nM.gen ⟨T.det,T.frame⟩ (R'.le (by exact bD _)) JE SR SQ (by rw[lb,iH];exact aS _) H.KM,er,ds,rfl,p5,Ef,ie,⟨[],rfl⟩,by rw[zq];exact aS _,_,by rw[He];exact Aj ..,λ t' ni=>?_⟩;refine jH ni ?_;clear ni;intro S' eO zh;refine dj zh ?_;clear zh;intro V G' z hV Gi;refine⟨rfl,CW H JE S' eO ⟨_,z.ns (λ h=>(hV _ h).1 rfl) WR⟩ (T.frame p5 z S' (λ b h=>(hV b h).2) Gi) (Ef.later z.size) (ab (by rw[zq];exact aS _) z.dv)⟩
end
structure nE(c:Cx)(a:Addr)(fd:FuncData)(body:List Stmt):Prop where
 at_:∃o,c.K.lookup a=some o∧o.data=.func fd
 code:∃q o vs t,fd.code=.ref q∧c.K.lookup q=some o∧o.data=.fields vs∧vs[1]? =some (.str fd.qualname t)
 body:fd.body=.stmts body
 glob:fd.globals=mainGlobals
 blt:fd.builtins=builtinsNs
 Vu:fd.closure=[]
 kind:fd.scope.kind=.function
 co:fd.scope.isCoroutine=false
noncomputable def rL(fd:FuncData)(vn:List Str)(np:Nat):Bool:=
 t8 vn&&t8 ((fd.scope.names.filter λ x=>x.2==.cell).map (·.1))&&vn.all (λ x=>(fd.scope.names.lookup x==some .local||fd.scope.names.lookup x==some .cell)&& !(x==("__debug__":Str))&& !(x==("__classdict__":Str)))&&decide (np≤vn.length)
structure P5(fd:FuncData)(vn:List Str)(np:Nat):Prop where
 nodup:vn.Nodup
 kinds:∀x∈vn,(fd.scope.names.lookup x=some .local∨fd.scope.names.lookup x=some .cell)∧(x==("__debug__":Str))=false∧(x==("__classdict__":Str))=false
 np:np≤vn.length
 Yb:((fd.scope.names.filter λ x=>x.2==.cell).map (·.1)).Nodup
theorem IE{fd:FuncData}{vn:List Str}{np:Nat}(h:rL fd vn np=true):P5 fd vn np:=by
 simp only[rL,bg,bf,Bool.or_eq_true,decide_eq_true_eq,j7]at h;refine⟨rt h.1.1.1,λ x hx=>?_,h.2,rt h.1.1.2⟩;have:=h.1.2 x hx;exact⟨by simpa using this.1.1,this.1.2,this.2⟩
noncomputable abbrev mM(fd:FuncData)(L a:Addr)(vn:List Str):VE:=⟨callEnvC fd L a,vn,vn.length⟩
theorem jY:∀{names:List (Str×gL)} {n:Nat} {acc:List (Str×Addr)} {x:Str},(x∈acc.map (·.1)∨(x,kl)∈names)→x∈(cellsFrom n names acc).map (·.1)
 |[],n,acc,x,h=>by
  rcases h with h|h
  ·exact h
  ·exact nn h
 |(y,k)::r,n,acc,x,h=>by
  unfold cellsFrom
  split
  ·rename_i hk;refine jY ?_
   rcases h with h|h
   ·exact .inl (by simp only[a9,aD];exact .inr h)
   ·rcases aD.mp h with e|h
    ·cases e;exact .inl (by exact .head _)
    ·exact .inr h
  ·rename_i hk;refine jY ?_
   rcases h with h|h
   ·exact .inl h
   ·rcases aD.mp h with e|h
    ·cases e;trivial
    ·exact .inr h
theorem lK:∀{names:List (Str×gL)} {n:Nat} {acc:List (Str×Addr)},(cellsFrom n names acc).map (·.1)=((names.filter λ x=>x.2==.cell).map (·.1)).reverse++acc.map (·.1)
 |[],n,acc=>by rfl
 |(y,k)::r,n,acc=>by
  unfold cellsFrom;cases hk:k==kl with
  |true=>rw[if_pos rfl,lK];simp[List.filter_cons,hk]
  |false=>rw[if_neg (by decide),lK];simp[List.filter_cons,hk]
theorem nf:∀{l:List (Str×Addr)},(l.map (·.1)).Nodup→∀p∈l,l.lookup p.1=some p.2
 |q::l,h,p,hp=>by
  simp only[a9,el]at h
  rcases aD.mp hp with rfl|hp
  ·rw[show(p::l)=(p.1,p.2)::l from rfl,aX];simp
  ·have ku:¬p.1=q.1:= λ e=>h.1 (e▸aM.mpr ⟨p,hp,rfl⟩);rw[show(q::l)=(q.1,q.2)::l from rfl,aX,show(p.1==q.1)=false by simpa using ku];exact nf h.2 p hp
theorem n8{l:List (Str×Addr)}{x:Str}(h:x∈l.map (·.1)):∃a,l.lookup x=some a:=by
 cases e:l.lookup x with
 |some a=>exact⟨a,rfl⟩
 |none=>
  exfalso;obtain⟨p,hp,rfl⟩:=aM.mp h;have:=BH.mp e p hp;simp at this
section
variable {c:Cx}{n:Nat}{β:dH}{O:List Addr}{s s':ae}
theorem zS{k:Str→Option gL}:∀{bs:List (Str×ag)} {m:Str→Option ag} {x:Str},x∉bs.map (·.1)→bindL k bs m x=m x
 |[],_,_,_=>rfl
 |(y,v)::r,m,x,h=>by
  simp only[a9,aD,not_or]at h;unfold bindL;rw[zS h.2]
  split
  ·show(if x=y then some v else m x)=m x;rw[if_neg h.1]
  ·rfl
theorem zT{k:Str→Option gL}{bs:List (Str×ag)}{x:Str}{v:ag}(hk:k x=some .local):∀{m:Str→Option ag},(bs.map (·.1)).Nodup→(x,v)∈bs→bindL k bs m x=some v:=by
 induction bs with
 |nil=>intro m z h;exact nn h
 |cons p r ih=>
  intro m hd h;have hd:=el.mp hd
  rcases mc h with rfl|h
  ·show bindL k r _ x=some v;rw[zS hd.1,if_pos hk];simp
  ·exact ih hd.2 h
theorem zU{k:Str→Option gL}:∀{bs:List (Str×ag)} {m:Str→Option ag} {x:Str},x∉bs.map (·.1)→bindC k bs m x=m x
 |[],_,_,_=>rfl
 |(y,v)::r,m,x,h=>by
  simp only[a9,aD,not_or]at h;unfold bindC;rw[zU h.2]
  split
  ·rfl
  ·show(if x=y then some v else m x)=m x;rw[if_neg h.1]
theorem GL{k:Str→Option gL}{bs:List (Str×ag)}{x:Str}{v:ag}(hk:k x≠some .local):∀{m:Str→Option ag},(bs.map (·.1)).Nodup→(x,v)∈bs→bindC k bs m x=some v:=by
 induction bs with
 |nil=>intro m z h;exact nn h
 |cons p r ih=>
  intro m hd h;have hd:=el.mp hd
  rcases mc h with rfl|h
  ·show bindC k r _ x=some v;rw[zU hd.1,if_neg hk];simp
  ·exact ih hd.2 h
noncomputable def P8(c:Cx)(O:List Addr)(s:ae):Sl→ag→List Addr→Prop
 |.no,_,fp=>fp=[]
 |.val d,v,fp=>fp=[]∧bh c.w O s.heap v d
 |.own _ q,v,fp=>cS c O s.heap v q fp
noncomputable def PQ(fp:List Addr):Nat→List Addr:=Nat.rec fp λ z z=>[]
theorem Cy{fp:List Addr}{i:Nat}{a:Addr}(h:a∈PQ fp i):a∈fp:=by
 cases i with
 |zero=>exact h
 |succ=>exact nn h
structure Ar(c:Cx)(O:List Addr)(s₀ s:ae)(W:List Addr)(G:List Nat)(sls:List Sl)(vs:List ag)(fp:List Addr):Prop where
 grow:aB c W G s₀ s
 br:bF c s
 hO:∀b∈O,b<s₀.heap.objs.size∧c.B≤b
 hB:c.B≤s₀.heap.objs.size
 hf:∀b∈fp,s₀.heap.objs.size≤b∧b<s.heap.objs.size
 len:sls.length=vs.length
 args:∀i,P8 c (fp++O) s (sls.getD i .no) (vs.getD i .none) (PQ fp i)
theorem a7.args{vs:List ag}{ds:List D}(r:a7 c.w O s.heap vs ds):(ds.map Sl.val).length=vs.length∧∀i,P8 c O s ((ds.map Sl.val).getD i .no) (vs.getD i .none) []:=
 r.ind ⟨rfl,λ z=>by rfl⟩ λ v vs d ds q z ih=>⟨congrArg uW ih.1,λ i=>by
  cases i with
  |zero=>exact⟨rfl,q⟩
  |succ i=>exact ih.2 i⟩
theorem Ar.fj{W:List Addr}{G:List Nat}{vs:List ag}{ds:List D}(K:Ok c O s)(r:a7 c.w O s.heap vs ds):Ar c O s s W G (ds.map Sl.val) vs []:=
 ⟨.refl ..,K.br,λ b hb=>⟨K.lt b hb,K.low b hb⟩,K.br.size,λ z=>nn,r.args.1,λ i=>by
  rw[show PQ [] i=[] by cases i<;>rfl];exact r.args.2 i⟩
theorem Ar.no{s₀:ae}{W:List Addr}{G:List Nat}{sls:List Sl}{vs:List ag}{fp:List Addr}(T:Ar c O s₀ s W G sls vs fp){i:Nat}(h:vs.length≤i):sls.getD i .no=.no∧PQ fp i=[]:=by
 have e:sls.getD i .no=.no:=by rw[ai,bk (by rw[T.len];exact h)];rfl
 have r:=T.args i;rw[e]at r;exact⟨e,r⟩
theorem Inv.entry{s₀ s au:ae}{a:Addr}{fd:FuncData}{body:List Stmt}{vn:List Str}{np:Nat}{vs:List ag}{sls:List Sl}{fp:List Addr}{W:List Addr}{G:List Nat}(F:nE c a fd body)(k:P5 fd vn np)(T:Ar c O s₀ s W G sls vs fp)(hlen:vs.length=np)(x:InCallC s (callEnvC fd s.heap.objs.size a).locals (bindL (callEnvC fd s.heap.objs.size a).kindOf ((vn.take np).zip vs) λ z=>none) (callEnvC fd s.heap.objs.size a).cells (bindC (callEnvC fd s.heap.objs.size a).kindOf ((vn.take np).zip vs) λ z=>none) au):
  ∃ad,Inv c (mM fd s.heap.objs.size a vn) ⟨s₀,O,O,W,G⟩ ((callEnvC fd s.heap.objs.size a).locals::((callEnvC fd s.heap.objs.size a).cells.map (·.2)++(fp++O))) ad sls au:=by
 refine ez x.done λ cq tk he hk=>?_;have Mo:=x.toInCall.ns;have zC:=Mo.lt;have hz:s.heap.objs.size≤au.heap.objs.size:=af x.toInCall.fresh (bV zC);have vG:∀b o,s.heap.get? b=some o→au.heap.get? b=some o:=x.toInCall.keep;have g:aB c [] [] s au:=by
  rw[he]at hz vG⊢;exact .step hz vG
 have lL:bF c au:=by
  rw[he]at hz vG⊢;exact T.br.step hz vG
 have FT:s₀.heap.objs.size≤s.heap.objs.size:=T.grow.size;have Lo:s.heap.objs.size≤(callEnvC fd s.heap.objs.size a).locals:=x.toInCall.fresh;have Gg:∀p∈(callEnvC fd s.heap.objs.size a).cells,s.heap.objs.size≤p.2∧p.2<au.heap.objs.size:= λ p hp=>by
  refine⟨af Lo (bV (x.above p.1 p.2 hp)),?_⟩;have xE:((callEnvC fd s.heap.objs.size a).cells.map (·.1)).Nodup:=by
   show((cellsFrom (s.heap.objs.size+1) fd.scope.names []).map (·.1)).Nodup;rw[lK,jZ,bK];exact List.pairwise_reverse.mpr (k.Yb.imp Ne.symm)
  exact(x.cell p.1 p.2 (nf xE p hp)).lt
 have WQ:=k.np;have SY:∀b∈(callEnvC fd s.heap.objs.size a).locals::((callEnvC fd s.heap.objs.size a).cells.map (·.2)++(fp++O)),b∈O∨(s₀.heap.objs.size≤b∧b<au.heap.objs.size):=by
  intro b hb
  rcases mc hb with rfl|hb
  ·exact .inr ⟨af FT Lo,zC⟩
  rcases aC.mp hb with hb|hb
  ·refine cW (aM.mp hb) λ p hp z1=>?_;subst z1;exact .inr ⟨af FT (Gg p hp).1,(Gg p hp).2⟩
  rcases aC.mp hb with hb|hb
  ·exact .inr ⟨(T.hf b hb).1,ab (T.hf b hb).2 hz⟩
  ·exact .inl hb
 have qG:∀y∈vn,(callEnvC fd s.heap.objs.size a).kindOf y=some .local∨((callEnvC fd s.heap.objs.size a).kindOf y=some .cell∧∃b,(callEnvC fd s.heap.objs.size a).cells.lookup y=some b):= λ y hy=>by
  rcases(k.kinds y hy).1 with h|h
  ·exact .inl h
  ·exact .inr ⟨h,n8 (jY (.inr (bu h)))⟩
 have NO:∀i y,vn[i]? =some y→i<np→∃v,vs[i]? =some v∧(y,v)∈(vn.take np).zip vs:= λ i y hy hi=>by
  have Uu:i<vs.length:=by exact Ea hlen hi
  refine⟨vs[i],aq Uu,?_⟩;have:((vn.take np).zip vs)[i]? =some (y,vs[i]):=by
   rw[List.getElem?_zip_eq_some];exact⟨by rw[List.getElem?_take_of_lt hi];exact hy,aq Uu⟩
  exact bw this
 have Wi:((vn.take np).zip vs).map (·.1)=vn.take np:=by
  rw[List.map_fst_zip];simp;lia
 have NN:(((vn.take np).zip vs).map (·.1)).Nodup:=by rw[Wi];exact k.nodup.sublist (List.take_sublist _ _)
 have hbound:∀i y v,vn[i]? =some y→i<np→vs[i]? =some v→Bound au.heap (callEnvC fd s.heap.objs.size a) y v:= λ i y v hy hi hv=>by
  refine cW (NO i y hy hi) λ v' FW hm=>?_;rw[hv]at FW;cases FW;refine⟨λ hl=>⟨_,Mo,zT hl NN hm⟩,λ hl=>?_⟩
  rcases qG y (bw hy)with h|⟨h,b,hb⟩
  ·exact absurd h hl
  ·exact⟨b,hb,(GL hl NN hm)▸x.cell y b hb⟩
 refine⟨PQ fp,⟨F.kind,F.glob,F.blt,k.nodup,λ y hy=>(qG y hy).imp id λ w0=>by obtain⟨h,b,hb⟩:=w0;exact⟨.inl h,b,hb⟩,λ i y hi hy=>?_,x.apart,λ p hp e=>?_,λ y hy=>(k.kinds y hy).2⟩,lL,T.grow.trans (g.mono (λ z=>nn) λ z=>nn),λ b hb=>?_,λ b hb=>?_,λ b hb=>?_,λ b hb=>(T.hO b hb).1,
  λ b hb=>(SY b hb).imp id And.left,⟨_,Mo⟩,λ y hy hl=>?_,.head _,λ p hp=>?_,.inr (af FT Lo),λ i y b hi hy hl hb=>.inr (af FT (Gg _ (bu hb)).1),λ i y hy=>?_,λ i j rH b hb wA=>?_,λ i hi=>?_⟩
 ·rcases qG y (bw hy)with h|⟨h,_⟩
  ·show(callEnvC fd s.heap.objs.size a).kindOf y≠_;rw[h];trivial
  ·show(callEnvC fd s.heap.objs.size a).kindOf y≠_;rw[h];trivial
 ·exact ak _ (e▸x.above p.1 p.2 hp)
 ·exact(SY b hb).elim (λ h=>ab (T.hO b h).1 (af FT hz)) And.right
 ·exact(SY b hb).elim (λ h=>(T.hO b h).2) λ h=>af T.hB h.1
 ·exact .tail _ (ao _ (ao _ hb))
 ·rcases qG y hy with h|⟨h,b,hb⟩
  ·exact absurd h hl
  ·exact⟨b,_,hb,x.cell y b hb⟩
 ·exact .tail _ (aF _ (aM.mpr ⟨p,hp,rfl⟩))
 ·have vf:nL (fp++O) ((callEnvC fd s.heap.objs.size a).locals::((callEnvC fd s.heap.objs.size a).cells.map (·.2)++(fp++O))) s:= λ b hb=>by
   rcases mc hb with rfl|hb
   ·exact .inr Lo
   rcases aC.mp hb with hb|hb
   ·refine cW (aM.mp hb) λ p hp z1=>?_;subst z1;exact .inr (Gg p hp).1
   ·exact .inl hb
  have Im:vn[i]? =some y:=hy;have Jz:=T.args i
  by_cases hi:i<np
  ·refine cW (NO i y Im hi) λ u hu z=>?_;rw[ai (l:=vs),hu]at Jz;have hb:=hbound i y u Im hi hu;cases ng:sls.getD i .no with
   |no=>rw[ng]at Jz;exact Jz
   |val d=>
    rw[ng]at Jz;exact⟨Jz.1,u,hb,g.rep (λ z=>nn) vf Jz.2⟩
   |own m q=>
    rw[ng]at Jz;refine⟨u,hb,g.own (λ z=>nn) vf (λ z z=>nn) (λ b hb o e=>.inr (vG b o e)) Jz,λ b hb=>?_⟩;have hf:=T.hf b (Cy hb);exact⟨.tail _ (ao _ (aF _ (Cy hb))),λ e=>ak _ (ab hf.2 (e▸Lo)),λ p hp e=>ak _ (ab hf.2 (e▸ (Gg p hp).1)),λ z=>.inr hf.1,λ h=>ak _ (ab (T.hO b h).1 hf.1),ab hf.2 hz⟩
  ·have e:=T.no (af (de hlen) (cu hi));rw[e.1];exact e.2
 ·cases i with
  |zero=>cases j with
   |zero=>exact rH rfl
   |succ=>exact nn wA
  |succ=>exact nn hb
 ·exact(T.no (af (de hlen) (af WQ hi))).2
theorem nE.Cu{a:Addr}{fd:FuncData}{body:List Stmt}(F:nE c a fd body)(S:bF c s):s.heap.CodeRec fd.code fd.qualname:=by
 refine xe F.code λ q zh=>cI zh λ o vs t h1 h2 h3 h4=>?_;exact⟨q,o,vs,t,h1,S.fY _ _ h2,h3,h4⟩
theorem m5{A:aK}{a:Addr}{fd:FuncData}{body:List Stmt}{vn:List Str}{np:Nat}{args vs:List ag}{ks:List (Str×ag)}{s₀:ae}{sls:List Sl}{fp:List Addr}{W:List Addr}{G:List Nat}{Q:ag→ae→Prop}(F:nE c a fd body)(k:rL fd vn np=true)(ie:fd.scope.isGenerator=false)(R:Rm A (n+1))(T:Ar c O s₀ s W G sls vs fp)(hlen:vs.length=np)(hb:iv s fd ⟨args,ks⟩ ((vn.take np).zip vs))(h:∀O' ad au,aB c [] [] s au→Inv c (mM fd s.heap.objs.size a vn) ⟨s₀,O,O,W,G⟩ O' ad sls au→(∀b∈fp++O,b∈O')→s.heap.objs.size≤(callEnvC fd s.heap.objs.size a).locals→(∀p∈(callEnvC fd s.heap.objs.size a).cells,s.heap.objs.size≤p.2)→
   wpAny (model c.prog c.w) (A.deeper (callEnvC fd s.heap.objs.size a)) (execs body (callEnvC fd s.heap.objs.size a)) (λ f s'=>Q (match f with|.ret v=>v|_=>.none) s') aZ au):codeAny (model c.prog c.w) A (.call (.ref a) ⟨args,ks⟩) (λ r s'=>match r with|.ok (.ret v)=>Q v s'|_=>False) s:=by
 refine cW F.at_ λ o ho hd=>?_;have k':=IE k;refine codeAny_call_function R.d0 (T.br.fY _ _ ho) hd F.co ie F.body (F.Cu T.br) (hb _ _ _ _ ?_);rw[F.Vu];refine DZ F.kind (λ y hy=>?_) λ env he au x=>?_
 ·have KZ:y.1∈vn:=pY (js hy).1
  rcases(k'.kinds y.1 KZ).1 with h|h
  ·exact .inl h
  ·refine xe (n8 (jY (n:=s.heap.objs.size+1) (acc:=[]) (.inr (bu h)))) λ b hb=>?_;exact .inr ⟨h,by rw[hb];rfl⟩
 ·have Lc:env=callEnvC fd s.heap.objs.size a:=he;subst Lc;refine xe (Inv.entry F k' T hlen x) λ ad I=>?_;have hz:s.heap.objs.size≤au.heap.objs.size:=af x.toInCall.fresh (bV x.toInCall.ns.lt);have g:aB c [] [] s au:=by
   refine ez x.done λ cq tk he z=>?_;have hk:=x.toInCall.keep;rw[he]at hz hk⊢;exact .step hz hk
  refine⟨T.br.nolimit.keeps x.toInCall.keep,codeAny_func ?_⟩;refine wm (h _ ad au g I (λ b hb=>.tail _ (ao _ hb)) x.toInCall.fresh λ p hp=>af x.toInCall.fresh (bV (x.above p.1 p.2 hp))) λ f s' q=>q
theorem nP{A:aK}{a:Addr}{fd:FuncData}{body:List Stmt}{vn:List Str}{np:Nat}{args vs:List ag}{ks:List (Str×ag)}{s₀:ae}{sls:List Sl}{fp:List Addr}{W:List Addr}{G:List Nat}{Q:ag→ae→Prop}(F:nE c a fd body)(k:rL fd vn np=true)(ie:fd.scope.isGenerator=false)(R:Rm A (n+1))(T:Ar c O s₀ s W G sls vs fp)(hlen:vs.length=np)(hb:iv s fd ⟨args,ks⟩ ((vn.take np).zip vs))(h:∀O' ad au,aB c [] [] s au→Inv c (mM fd s.heap.objs.size a vn) ⟨s₀,O,O,W,G⟩ O' ad sls au→(∀b∈fp++O,b∈O')→s.heap.objs.size≤(callEnvC fd s.heap.objs.size a).locals→(∀p∈(callEnvC fd s.heap.objs.size a).cells,s.heap.objs.size≤p.2)→
   wpAny (model c.prog c.w) (A.deeper (callEnvC fd s.heap.objs.size a)) (execs body (callEnvC fd s.heap.objs.size a)) (λ f s'=>Q (match f with|.ret v=>v|_=>.none) s') aZ au):wpAny (model c.prog c.w) A (call (.ref a) args ks) Q aZ s:=
 lW (bc (m5 F k ie R T hlen hb h) λ r s' q=>by
  rcases r with e|(v|_|_|_)<;>first|exact q|exact q.elim)
theorem AF{A:aK}{a:Addr}{fd:FuncData}{body:List Stmt}{vn:List Str}{np:Nat}{args vs:List ag}{ks:List (Str×ag)}{s₀:ae}{sls:List Sl}{fp:List Addr}{W:List Addr}{G:List Nat}{out:Out}(F:nE c a fd body)(k:rL fd vn np=true)(ie:fd.scope.isGenerator=false)(R:Rm A (n+1))(T:Ar c O s₀ s W G sls vs fp)(hlen:vs.length=np)(hb:iv s fd ⟨args,ks⟩ ((vn.take np).zip vs))(h:Ex c n (mM fd s.heap.objs.size a vn) sls body out){Q:ag→ae→Prop}(hQ:∀f s',mF c (mM fd s.heap.objs.size a vn) ⟨s₀,O,O,W,G⟩ out f s'→Q (match f with|.ret v=>v|_=>.none) s'):wpAny (model c.prog c.w) A (call (.ref a) args ks) Q aZ s:=
 nP F k ie R T hlen hb λ O' ad au g I z z z=>wm (h _ _ au R.deeper ⟨O',ad,I⟩) λ f s' q=>hQ f s' q
end
inductive Src where
 |pos (i:Nat)
 |kw (i:Nat)
 |dN
 |dB (b:Bool)
 |dI (i:Int) (t:Tok)
noncomputable def Src.val(vs:List ag)(ks:List (Str×ag)):Src→ag
 |.pos i=>vs.getD i .none
 |.kw i=>(ks.map (·.2)).getD i .none
 |.dN=>.none
 |.dB b=>.bool b
 |.dI i t=>.int i t
noncomputable def Src.dat(ds:List D)(kws:List (Str×D)):Src→D
 |.pos i=>ds.getD i .none
 |.kw i=>(kws.map (·.2)).getD i .none
 |.dN=>.none
 |.dB b=>.bool b
 |.dI i _=>.int i
noncomputable def Src.KA(a b:Nat):Src→Bool
 |.pos i=>decide (i<a)
 |.kw i=>decide (i<b)
 |_=>true
noncomputable def mG(c:Cx)(n:Nat)(f:ag)(ds:List D)(kws:List (Str×D))(q:OD):Prop:=
 ∀(A:aK) (O:List Addr) (s:ae) (vs:List ag) (ks:List (Str×ag)),Rm A n→Ok c O s→a7 c.w O s.heap vs ds→eA c.w O s.heap ks kws→wpAny (model c.prog c.w) A (call f vs ks)
  (λ v s'=>∃fp,aB c [] [] s s'∧bF c s'∧cS c (fp++O) s'.heap v q fp∧∀a∈fp,s.heap.objs.size≤a∧a<s'.heap.objs.size) aZ s
noncomputable def P6(c:Cx)(n:Nat)(f:ag)(ds:List D)(kws:List (Str×D))(d:D):Prop:=
 ∀(A:aK) (O:List Addr) (s:ae) (vs:List ag) (ks:List (Str×ag)),Rm A n→Ok c O s→a7 c.w O s.heap vs ds→eA c.w O s.heap ks kws→wpAny (model c.prog c.w) A (call f vs ks)
  (λ v s'=>aB c [] [] s s'∧bF c s'∧∀O',(∀a∈O',a<s.heap.objs.size)→bh c.w O' s'.heap v d) aZ s
section
variable {c:Cx}{n:Nat}{E:VE}{ρ ρ':List Sl}{β:dH}{O O':List Addr}{ad:Nat→List Addr}{s s':ae}
theorem mG.fn{f:ag}{ds:List D}{kws:List (Str×D)}{q:OD}{d:D}(h:mG c n f ds kws q)(hq:q.Bl=some d):Fn c n f ds kws d:= λ A O s vs ks R K r r'=>
 wm (h A O s vs ks R K r r') λ v s' w0=>eG w0 λ fp g S o hf=>⟨g,S,o.Bl hq (λ a ha hO=>ak _ (ab (K.lt a hO) (hf a ha).1)) λ a h=>ao _ h⟩
theorem a7.getD{w:a0}{h:Heap}:∀{vs:List ag} {ds:List D},a7 w O h vs ds→∀i,i<ds.length→bh w O h (vs.getD i .none) (ds.getD i .none):= λ r i hi=>by
 refine cW (r.at (aq hi)) λ v hv r'=>?_;rw[ai,ai,hv,aq hi];exact r'
theorem eA.fj{w:a0}{h:Heap}{ks:List (Str×ag)}{kws:List (Str×D)}(r:eA w O h ks kws):a7 w O h (ks.map (·.2)) (kws.map (·.2))∧ks.map (·.1)=kws.map (·.1):=
 r.ind ⟨trivial,rfl⟩ λ x v vs d ds q z ih=>⟨⟨q,ih.1⟩,congrArg (x:: ·) ih.2⟩
theorem eA.zip{w:a0}{h:Heap}:∀{ks:List ag} {kws:List (Str×D)},a7 w O h ks (kws.map (·.2))→eA w O h ((kws.map (·.1)).zip ks) kws
 |[],[],_=>by trivial
 |k::ks,d::ds,r=>⟨rfl,r.1,eA.zip r.2⟩
 |[],_::_,r=>r.elim
 |_::_,[],r=>r.elim
theorem Src.rep{w:a0}{h:Heap}{vs:List ag}{ks:List (Str×ag)}{ds:List D}{kws:List (Str×D)}(r:a7 w O h vs ds)(r':eA w O h ks kws){x:Src}(hx:x.KA ds.length kws.length=true):bh w O h (x.val vs ks) (x.dat ds kws):=by
 cases x with
 |pos i=>exact r.getD i (of_decide_eq_true hx)
 |kw i=>exact r'.fj.1.getD i (by rw[aE];exact of_decide_eq_true hx)
 |dN=>exact(by show bh w O h .none .none;rfl)
 |dB b=>exact(by show bh w O h (.bool b) (.bool b);rfl)
 |dI i t=>exact(by show bh w O h (.int i t) (.int i);exact⟨t,rfl⟩)
theorem Src.fj{w:a0}{h:Heap}{vs:List ag}{ks:List (Str×ag)}{ds:List D}{kws:List (Str×D)}(r:a7 w O h vs ds)(r':eA w O h ks kws):∀{src:List Src},src.all (·.KA ds.length kws.length)=true→a7 w O h (src.map (·.val vs ks)) (src.map (·.dat ds kws)):= λ {src} hx=>by
 induction src with
 |nil=>trivial
 |cons x l ih=>
  have hx:=aL.mp hx;exact⟨Src.rep r r' hx.1,ih hx.2⟩
theorem Inv.pad{m:Nat}(I:Inv c E β O ad ρ s):Inv c E β O ad (ρ++al m .no) s:=by
 have e:∀i,(ρ++al m Sl.no).getD i .no=ρ.getD i .no:= λ i=>by
  rw[ai,ai]
  by_cases h:i<ρ.length
  ·rw[mP h]
  ·rw[d8 (by lia),bk (l:=ρ) (by lia),BI]
   split<;>rfl
 exact⟨I.ok,I.br,I.grow,I.lt,I.low,I.sub,I.n7,I.new,I.ns,I.cells,I.uA,I.ti,I.CF,I.CG,λ i x hx=>by rw[e];exact I.vars i x hx,I.mE,I.out⟩
theorem xS{A:aK}{a:Addr}{fd:FuncData}{body:List Stmt}{vn:List Str}{np:Nat}{ds:List D}{kws:List (Str×D)}(src:List Src){vs:List ag}{ks:List (Str×ag)}{out:Out}(F:nE c a fd body)(k:rL fd vn np=true)(ie:fd.scope.isGenerator=false)(hlen:src.length=np)(Dp:src.all (·.KA ds.length kws.length)=true)(hb:∀s vs ks,bF c s→vs.length=ds.length→ks.map (·.1)=kws.map (·.1)→iv s fd ⟨vs,ks⟩ ((vn.take np).zip (src.map (·.val vs ks))))(h:∀L,Ex c n (mM fd L a vn) ((src.map (·.dat ds kws)).map Sl.val++al (vn.length-np) .no) body out)(R:Rm A (n+1))(K:Ok c O s)(r:a7 c.w O s.heap vs ds)(r':eA c.w O s.heap ks kws){Q:ag→ae→Prop}(hQ:∀E f s',mF c E ⟨s,O,O,[],[]⟩ out f s'→Q (match f with|.ret v=>v|_=>.none) s'):wpAny (model c.prog c.w) A (call (.ref a) vs ks) Q aZ s:=by
 refine AF (vs:=src.map (·.val vs ks)) (W:=[]) (G:=[]) F k ie R (.fj K (Src.fj r r' Dp)) (by rw[aE];exact hlen) (hb s vs ks K.br r.length r'.fj.2) ?_ λ f s' q=>hQ _ f s' q;intro A' jW au R' ⟨TV,PT,I⟩;exact h _ A' jW au R' ⟨TV,PT,I.pad⟩
theorem Fn.of{a:Addr}{fd:FuncData}{body:List Stmt}{vn:List Str}{np:Nat}{ds:List D}{kws:List (Str×D)}(src:List Src){d:D}(F:nE c a fd body)(k:rL fd vn np=true)(ie:fd.scope.isGenerator=false)(hlen:src.length=np)(Dp:src.all (·.KA ds.length kws.length)=true)(hb:∀s vs ks,bF c s→vs.length=ds.length→ks.map (·.1)=kws.map (·.1)→iv s fd ⟨vs,ks⟩ ((vn.take np).zip (src.map (·.val vs ks))))(h:∀L,Ex c n (mM fd L a vn) ((src.map (·.dat ds kws)).map Sl.val++al (vn.length-np) .no) body (.ret d)):Fn c (n+1) (.ref a) ds kws d:= λ A O s vs ks R K r r'=>
 xS src F k ie hlen Dp hb h R K r r' λ E f s' q=>by
  refine eG q ?_;clear q;intro v z1 g S r;subst z1;exact⟨g,S,r⟩
theorem mG.of{a:Addr}{fd:FuncData}{body:List Stmt}{vn:List Str}{np:Nat}{ds:List D}{kws:List (Str×D)}(src:List Src){q:OD}(F:nE c a fd body)(k:rL fd vn np=true)(ie:fd.scope.isGenerator=false)(hlen:src.length=np)(Dp:src.all (·.KA ds.length kws.length)=true)(hb:∀s vs ks,bF c s→vs.length=ds.length→ks.map (·.1)=kws.map (·.1)→iv s fd ⟨vs,ks⟩ ((vn.take np).zip (src.map (·.val vs ks))))(h:∀L,Ex c n (mM fd L a vn) ((src.map (·.dat ds kws)).map Sl.val++al (vn.length-np) .no) body (.qq q)):mG c (n+1) (.ref a) ds kws q:= λ A O s vs ks R K r r'=>
 xS src F k ie hlen Dp hb h R K r r' λ E f s' q=>by
  refine ez q ?_;clear q;intro v fp z1 zh;refine b_ zh ?_;clear zh;intro g S r hf;subst z1;exact⟨fp,g,S,r,λ a h=>⟨(hf a h).1.elim (nn) id,(hf a h).2⟩⟩
theorem Fn.of_next{a:Addr}{fd:FuncData}{body:List Stmt}{vn:List Str}{np:Nat}{ds:List D}{kws:List (Str×D)}(src:List Src){ρ₁:List Sl}(F:nE c a fd body)(k:rL fd vn np=true)(ie:fd.scope.isGenerator=false)(hlen:src.length=np)(Dp:src.all (·.KA ds.length kws.length)=true)(hb:∀s vs ks,bF c s→vs.length=ds.length→ks.map (·.1)=kws.map (·.1)→iv s fd ⟨vs,ks⟩ ((vn.take np).zip (src.map (·.val vs ks))))(h:∀L,Ex c n (mM fd L a vn) ((src.map (·.dat ds kws)).map Sl.val++al (vn.length-np) .no) body (.next ρ₁)):Fn c (n+1) (.ref a) ds kws .none:= λ A O s vs ks R K r r'=>
 xS src F k ie hlen Dp hb h R K r r' λ E f s' q=>by
  refine Es q ?_;clear q;intro z1 O' ad I;subst z1;exact⟨I.grow,I.br,by rfl⟩
noncomputable def jz(c:Cx):ag→Prop
 |.builtin _=>True
 |.type _=>True
 |v=>keepIn c.K v=true
theorem jz.Ft{M:qS}{f:ag}(h:jz c f){t:Heap}(X:c.K.In t):∃k,(k=Keeper.frame∨k=Keeper.machine∨k=Keeper.boundFrame)∧Aq M t (keeperOf f) k:=by
 cases f<;>first|exact⟨.machine,.inr (.inl rfl),z8 rfl⟩|exact keeps_K h t X
noncomputable def ou(c:Cx)(n:Nat)(E:VE)(ρ:List Sl)(kws:List dU)(kwds:List (Str×D)):Prop:=
 kws.map (·.arg)=kwds.map (λ p=>some p.1)∧∀(A:aK) (β:dH) (O:List Addr) (ad:Nat→List Addr) (s:ae) (pos:Pos),Rm A n→Inv c E β O ad ρ s→
  wpAny (model c.prog c.w) A (evalAll ((backToKw pos (keywordEach kws E.env)).map (·.2))) (λ ks s'=>aB c [] [] s s'∧bF c s'∧a7 c.w O s'.heap ks (kwds.map (·.2))) aZ s
theorem ou.nil:ou c n E ρ [] []:=⟨rfl,λ A β O ad s pos R I=>xY ⟨.refl ..,I.br,by rw[jZ];trivial⟩⟩
theorem ou.cons{x:Str}{e:Expr}{p:Pos}{kws:List dU}{d:D}{kwds:List (Str×D)}(h:Ev c n E ρ e d)(t:ou c n E ρ kws kwds):ou c n E ρ (⟨some x,e,p⟩::kws) ((x,d)::kwds):=
 ⟨by rw[a9,a9,t.1],λ A β O ad s pos R I=>by
  show wpAny _ A (evalAll ((do let v ← eval e E.env;standAt pos;pure v)::(backToKw pos (keywordEach kws E.env)).map (·.2))) _ _ s;refine wpAny_evalAll_cons (aa (h.go R I λ v au cY bj r=>aa (bQ (ah (wm (t.2 A β O ad au pos R bj) λ ks aH q=>?_)))));refine⟨cY.trans q.1,q.2.1,?_⟩;rw[a9];exact⟨q.1.rep0 r,q.2.2⟩⟩
theorem ue:∀{kws:List dU} {kwds:List (Str×D)} {pos:Pos} {env:Env},kws.map (·.arg)=kwds.map (λ p=>some p.1)→(backToKw pos (keywordEach kws env)).filterMap (·.1)=kwds.map (·.1)∧(backToKw pos (keywordEach kws env)).all (·.1.isSome)=true∧(backToKw pos (keywordEach kws env)).any (·.1.isNone)=false
 |[],[],_,_,_=>⟨rfl,rfl,rfl⟩
 |⟨a,v,p⟩::kws,q::kwds,pos,env,h=>by
  rw[a9,a9]at h;injection h with h1 h2
  have ih:=ue (pos:=pos) (env:=env) h2;have h1:a=some q.1:=h1;subst h1;refine⟨?_,?_,?_⟩
  ·show ya _ ((some q.1,_)::backToKw pos (keywordEach kws env))=_;rw[bA (f:= λ x:Option Str×Sem ag=>x.1) (b:=q.1) rfl,ih.1];rfl
  ·show List.all ((some q.1,_)::backToKw pos (keywordEach kws env)) _=_;rw[List.all_cons,ih.2.1];rfl
  ·show List.any ((some q.1,_)::backToKw pos (keywordEach kws env)) _=_;rw[nr,ih.2.2];rfl
 |[],_::_,_,_,h=>by trivial
 |_::_,[],_,_,h=>by trivial
theorem yj{A:aK}{f:ag}{args:List Expr}{kws:List dU}{pos:Pos}{ds:List D}{kwds:List (Str×D)}(R:Rm A n)(I:Inv c E β O ad ρ s)(ha:ck c n E ρ args ds)(hk:ou c n E ρ kws kwds)(hp:(starEach args E.env).any (·.1)=false):
  wpAny (model c.prog c.w) A (evalArgs f true (backTo pos (starEach args E.env)) (backToKw pos (keywordEach kws E.env))) (λ a s'=>aB c [] [] s s'∧bF c s'∧a7 c.w O s'.heap a.pos ds∧eA c.w O s'.heap a.kw kwds) aZ s:=by
 refine jH (ue (pos:=pos) (env:=E.env) hk.1) λ h1 h2 h3=>?_;have tail:∀vs au,aB c [] [] s au→bF c au→a7 c.w O au.heap vs ds→wpAny (model c.prog c.w) A (evalAll ((backToKw pos (keywordEach kws E.env)).map (·.2)))
   (λ ks aH=>aB c [] [] s aH∧bF c aH∧a7 c.w O aH.heap vs ds∧eA c.w O aH.heap (((backToKw pos (keywordEach kws E.env)).filterMap (·.1)).zip ks) kwds) aZ au:= λ vs au cY lL bE=>
  wm (hk.2 A β O ad au pos R (I.fT cY lL)) λ ks aH q=>⟨cY.trans q.1,q.2.1,q.1.ka bE,by rw[h1];exact eA.zip q.2.2⟩
 cases args with
 |nil=>
  refine evalArgs_kw2_nil h2 (tail [] s (.refl ..) I.br ?_);cases ds with
  |nil=>trivial
  |cons d ds=>
   have:=ha.1;trivial
 |cons e rest=>
  refine evalArgs_kw2 h2 (wm (ha.2 A β O ad s pos R I) λ vs au q=>tail vs au q.1 q.2.1 q.2.2) ?_;cases e<;>first|rfl|exact bz (show true=false from hp)
end
noncomputable def cV(c:Cx)(x:Str)(v:ag):Prop:=c.mg x=some v∨(c.mg x=none∧c.mb x=some v)
noncomputable def x8(c:Cx)(n m:Nat)(f:ag)(tg:Expr)(eL:List D)(d:D):Prop:=
 ∀(A:aK) (O:List Addr) (s₀ s:ae) (a:Addr) (g:Nat),Rm A n→Ok c O s₀→aB c [] [] s₀ s→bF c s→s.heap.IsGen a g→iI c m tg O O s₀ eL (.ref a) s→wpAny (model c.prog c.w) A (call f [.ref a] [])
  (λ v s'=>aB c [] [] s₀ s'∧bF c s'∧bh c.w O s'.heap v d) aZ s
section
variable {c:Cx}{n:Nat}{E:VE}{ρ ρ':List Sl}{β:dH}{O O':List Addr}{ad:Nat→List Addr}{s s':ae}
theorem iM{A:aK}{x:Str}{pos:Pos}{v:ag}{Q:ag→ae→Prop}{X:ag→ae→Prop}(I:Inv c E β O ad ρ s)(hk:E.env.kindOf x=some .globalImplicit)(hg:cV c x v)(hd:(x==("__debug__":Str))=false)(h:Q v s):wpAny (model c.prog c.w) A (eval (.Name x pos) E.env) Q X s:=by
 refine Name_function_global I.ok.kind hk ?_ hd;have S:=I.br
 rcases hg with hg|⟨hg,hb⟩
 ·exact loadGlobal_global (by rw[I.ok.glob];exact S.g) hg h
 ·exact loadGlobal_builtin (by rw[I.ok.glob];exact S.g) hg (by rw[I.ok.blt];exact S.b) hb h
theorem fS{A:aK}{f:ag}{first:List ag}{args:List Expr}{kws:List dU}{pos:Pos}{ds:List D}{kwds:List (Str×D)}(R:Rm A n)(I:Inv c E β O ad ρ s)(hf:jz c f)(ha:ck c n E ρ args ds)(hk:ou c n E ρ kws kwds)(hp:(starEach args E.env).any (·.1)=false){Q:ag→ae→Prop}(h:∀vs ks s',aB c [] [] s s'→Inv c E β O ad ρ s'→a7 c.w O s'.heap vs ds→eA c.w O s'.heap ks kwds→wpAny (model c.prog c.w) A (call f (first++vs) ks) Q aZ s'):
  wpAny (model c.prog c.w) A (callWith pos f first (backTo pos (starEach args E.env)) (backToKw pos (keywordEach kws E.env))) Q aZ s:=by
 refine jH (ue (pos:=pos) (env:=E.env) hk.1) λ h1 h2 h3=>?_;refine callWith_of (P:=c.K.In) ?_ (λ t X=>hf.Ft X) (wm (yj R I ha hk hp) λ a s' q=>⟨q.2.1.fY,h a.pos a.kw s' q.1 (I.fT q.1 q.2.1) q.2.2.1 q.2.2.2⟩);rw[h3,Bool.or_false];have:∀l:List (Bool×Sem ag),l.any (·.1)=false→(backTo pos l).any (·.1)=false:=by
  intro l
  induction l with
  |nil=>intro z;rfl
  |cons a l ih=>
   intro h;rw[nr,Bool.or_eq_false_iff]at h;show List.any ((a.1,_)::backTo pos l) _=false;rw[nr,h.1,ih h.2];rfl
 exact this _ hp
theorem Ev.call{x:Str}{p pos:Pos}{args:List Expr}{kws:List dU}{v:ag}{ds:List D}{kwds:List (Str×D)}{d:D}(hx:E.env.kindOf x=some .globalImplicit)(hg:cV c x v)(keep:jz c v)(ha:ck c n E ρ args ds)(hk:ou c n E ρ kws kwds)(hf:Fn c n v ds kwds d)(hd:autoParam ((x==("__debug__":Str))=false) rf)(hp:autoParam ((starEach args E.env).any (·.1)=false) rf):Ev c n E ρ (.Call (.Name x p) args kws pos) d:= λ A β O ad s R I=>
 fK (iM I hx hg hd (fS R I keep ha hk hp λ vs ks au cY bj r r'=>wm (hf A O au vs ks R bj.o r r') λ z z q=>q.after cY))
theorem gz.call{x:Str}{p pos:Pos}{args:List Expr}{kws:List dU}{v:ag}{ds:List D}{kwds:List (Str×D)}{q:OD}(hx:E.env.kindOf x=some .globalImplicit)(hg:cV c x v)(keep:jz c v)(ha:ck c n E ρ args ds)(hk:ou c n E ρ kws kwds)(hf:mG c n v ds kwds q)(hd:autoParam ((x==("__debug__":Str))=false) rf)(hp:autoParam ((starEach args E.env).any (·.1)=false) rf):gz c n E ρ (.Call (.Name x p) args kws pos) q:= λ A β O ad s R I=>
 fK (iM I hx hg hd (fS R I keep ha hk hp λ vs ks au cY bj r r'=>wm (hf A O au vs ks R bj.o r r') λ v aH w0=>eG w0 λ fp g S o jx=>⟨fp,cY.trans g,S,o,λ a h=>⟨af cY.size (jx a h).1,(jx a h).2⟩⟩))
theorem xV.call{x:Str}{p pos:Pos}{args:List Expr}{kws:List dU}{v:ag}{ds:List D}{kwds:List (Str×D)}{d:D}(hx:E.env.kindOf x=some .globalImplicit)(hg:cV c x v)(keep:jz c v)(ha:ck c n E ρ args ds)(hk:ou c n E ρ kws kwds)(hf:P6 c n v ds kwds d)(hd:autoParam ((x==("__debug__":Str))=false) rf)(hp:autoParam ((starEach args E.env).any (·.1)=false) rf):xV c n E ρ (.Call (.Name x p) args kws pos) d:= λ A β O ad s R I=>
 fK (iM I hx hg hd (fS R I keep ha hk hp λ vs ks au cY bj r r'=>wm (hf A O au vs ks R bj.o r r') λ v aH q=>⟨cY.trans q.1,q.2.1,λ O' h=>q.2.2 O' λ a ha=>ab (h a ha) cY.size⟩))
theorem Ev.zR{m:Nat}{x:Str}{p pos:Pos}{elt EG iter:Expr}{ifs:List Expr}{scope:iT}{uy:Pos}{v:ag}{tg:Expr}{Ds:List D→Prop}{d:D}(hx:E.env.kindOf x=some .globalImplicit)(hg:cV c x v)(keep:jz c v)(ha:Hi c m E ρ (.GeneratorExp elt [⟨EG,iter,ifs,0⟩] scope uy) tg Ds)(hm:m≤n)(hf:∀eL,Ds eL→x8 c n m v tg eL d)(hd:autoParam ((x==("__debug__":Str))=false) rf):Ev c n E ρ (.Call (.Name x p) [.GeneratorExp elt [⟨EG,iter,ifs,0⟩] scope uy] [] pos) d:= λ A β O ad s R I=>by
 refine fK (iM I hx hg hd ?_);show wpAny _ A (callWith pos v [] (backTo pos (starEach [.GeneratorExp elt [⟨EG,iter,ifs,0⟩] scope uy] E.env)) (backToKw pos (keywordEach [] E.env))) _ _ s;refine callWith_of (P:=c.K.In) rfl (λ t X=>keep.Ft X) (evalArgs_kw2 rfl (z0 (wm (ha A β O ad s (R.le hm) I) λ u au q=>BE (xY ?_)) rfl) rfl);refine ra q ?_;clear q;intro cY lL y1 eL Mj fU;refine Mt y1 ?_;clear y1;intro a z2 g ie;subst z2;exact⟨lL.fY,wm (hf eL Mj A O s au a g R I.o cY lL ie fU) λ z z q=>q⟩
end
section
variable {c:Cx}{n:Nat}{E:VE}{ρ ρ':List Sl}{β:dH}{O O':List Addr}{ad:Nat→List Addr}{s s':ae}
theorem LI.go{A:aK}{tg:Expr}{it:ag}{k:Snap}{F:List Addr}{G:List Nat}{P:List Addr→List D→ae→Prop}{ds:List D}(T:nM c A tg it k G P)(L:LI c E β k F G O ad ρ s)(p:P F ds s):
  ∃jW,jW.s=s∧JV c β jW∧Inv c E jW O ad ρ s∧∀ρ'' d9,zY c E jW ρ'' d9→∃O' pO,LI c E β k F G O' pO ρ'' d9∧P F ds d9:=by
 refine eG (L.I.anchor L.hF L.hL L.hC λ i z=>L.hV i) λ jW G7 u I' zh=>b_ zh λ hW hG hF hN=>?_;refine⟨jW,G7,u,I',?_⟩;subst G7
 rintro ρ'' d9 ⟨O',pO,i4⟩
 have hz:k.s.heap.objs.size≤jW.s.heap.objs.size:=let⟨_,_,g,_⟩:=L.hS;g.size
 refine⟨O',pO,⟨u.up i4,λ a h=>i4.sub a (hF a h),L.hL,L.hC,λ i a ha hf=>(i4.small i a ha).2.2.2.2 (hF a hf),L.hW,L.hG,λ g h=>ab (L.Gi g h) i4.grow.dv,L.hS.step i4.grow λ a h=>⟨L.hN a (hW a h).2,λ hk=>(hW a h).1 (ao _ hk)⟩,λ a h=>?_,L.hK⟩,?_⟩
 ·exact(i4.new a h).elim (λ h=>L.hN a (hN a h)) λ h=>.inr (af hz h)
 ·exact T.frame p i4.grow i4.br (λ a h hf=>(hW a h).1 (aF _ hf)) (λ g h=>by rw[hG]at h;exact nn h)
noncomputable def I3(c:Cx)(n:Nat)(E:VE)(ρ:List Sl)(tg:Expr)(it:ag)(ds:List D)(ss:List Stmt)(out:Out):Prop:=
 ∀(A:aK) (β:dH) (O:List Addr) (ad:Nat→List Addr) (s:ae) (k:Snap) (F:List Addr) (G:List Nat) (P:List Addr→List D→ae→Prop),Rm A n→nM c A tg it k G P→LI c E β k F G O ad ρ s→P F ds s→
  wpAny (model c.prog c.w) A (execs ss E.env) (mF c E β out) aZ s
theorem I3.seq{tg:Expr}{it:ag}{ds:List D}{st:Stmt}{ss:List Stmt}{out:Out}(h:ba c n E ρ st (.next ρ'))(t:I3 c n E ρ' tg it ds ss out):I3 c n E ρ tg it ds (st::ss) out:= λ A β O ad s k F G P R T L p=>by
 refine eG (L.go T p) λ jW G7 u I' key=>?_;refine lX (wm (h A jW s R ⟨O,ad,I'⟩) λ f au q=>?_);refine xa q ?_;clear q;intro z1 q;subst z1;refine ez (key _ _ q) λ O' ad' L' p'=>?_;exact t A β O' ad' au k F G P R T L' p'
theorem I3.for{tg iter:Expr}{it:ag}{ds:List D}{body:List Stmt}{pos:Pos}{ss:List Stmt}{out:Out}(h:Ev c n E ρ iter (.lit it))(l:Lp c n E ρ tg body ds (.next ρ'))(t:Ex c n E ρ' ss out)(hf:∀x,foldedSetIterable iter E.env x=pure x:=by intro z;rfl):
  I3 c n E ρ tg it ds (.For tg iter body [] pos::ss) out:= λ A β O ad s k F G P R T L p=>by
 obtain⟨jW,G7,u,I',key⟩:=L.go T p;refine lX (wpAny_For (h.go R I' λ v au cY bj r=>?_) hf);subst r;obtain⟨O',ad',L',p'⟩:=key _ _ ⟨O,ad,bj⟩;refine wm (T.self L'.I.br p') λ w aH q=>?_;obtain⟨rfl,rfl⟩:=q;refine bc (l A β O' ad' aH w k F G P R T L' p') λ r cn q=>?_;cases r with
 |error e=>exact q.elim
 |ok f=>
  obtain⟨rfl,q⟩:=q;exact t A β cn R q
theorem x8.of{m:Nat}{a:Addr}{fd:FuncData}{body:List Stmt}{vn:List Str}{tg:Expr}{eL:List D}{d:D}(F:nE c a fd body)(k:rL fd vn 1=true)(ie:fd.scope.isGenerator=false)(hb:∀s v,bF c s→iv s fd ⟨[v],[]⟩ ((vn.take 1).zip [v]))(hm:m≤n)(h:∀L it,I3 c n (mM fd L a vn) (.val (.lit it)::al (vn.length-1) .no) tg it eL body (.ret d)):x8 c (n+1) m (.ref a) tg eL d:= λ A O s₀ s b g R K fV S Ir fU=>by
 refine dj fU ?_;clear fU;intro F' G hF hG fU;have hz:=fV.size;have OP:∀e∈F'++O,e<s.heap.objs.size∧c.B≤e:= λ e he=>(aC.mp he).elim (λ h=>⟨(hF e h).2,af K.br.size (hF e h).1⟩) λ h=>⟨ab (K.lt e h) hz,K.low e h⟩;refine nP (O:=F'++O) (vs:=[.ref b]) (W:=F') (G:=G) F k ie R (Ar.fj (ds:=[.lit (.ref b)]) ⟨S,λ e he=>(OP e he).1,λ e he=>(OP e he).2⟩ ⟨rfl,trivial⟩) rfl (hb s _ S) λ O' ad au qH I ic hL hC=>?_;refine cW (fU (A.deeper (callEnvC fd s.heap.objs.size a)) (R.deeper.le hm)) λ P T p=>?_;have N5:∀e∈F'++O,e∈O':= λ e he=>ic e (by trivial);have L:LI c (mM fd s.heap.objs.size a vn) ⟨s,F'++O,F'++O,F',G⟩ ⟨s,F'++O,O⟩ F' G O' ad (.val (.lit (.ref b))::al (vn.length-1) .no) au:=by
  refine⟨I.pad (m:=vn.length-1),N5,λ h=>?_,λ q hq h=>?_,λ i e he h=>(I.small i e he).2.2.2.2 h,λ e h=>⟨.inl h,.inl (aF _ h),λ hO=>?_⟩,λ g h=>.inl h,λ g h=>ab (hG g h).2 qH.dv,(cA.refl (c:=c) (k:=⟨s,F'++O,O⟩)).JI qH,λ e h=>I.new e h,λ e h=>(OP e (ao _ h)).1⟩
  ·exact ak _ (ab (OP _ h).1 hL)
  ·exact ak _ (ab (OP _ h).1 (hC q hq))
  ·exact ak _ (ab (K.lt e hO) (hF e h).1)
 have nz:P F' eL au:=T.frame p qH I.br (λ z=>nn) λ z=>nn;refine wm (h _ _ _ _ _ _ au _ F' G P R.deeper T L nz) λ f s' q=>?_;refine eG q ?_;clear q;intro v z1 gr S' r;subst z1;refine⟨fV.comp gr (λ e h=>.inr (hF e h).1) λ g h=>.inr (hG g h).1,S',bh.kept (.refl _ _) (λ e h=>.inl (ao _ h)) r⟩
end
section
set_option backward.match.sparseCases false
noncomputable def attrOk(K:Frag)(C:Addr)(name:Str):Bool:=plainGet K C name&&hasDictIn K C&&(match findIn K (.ref C) name with|some a=>noGet K a|none=>false)
noncomputable def jS(K:Frag)(C:Addr)(name:Str)(f:Addr):Bool:=plainGet K C name&&(findIn K (.ref C) name==some (some (.ref f)))&&isFn K (.ref f)&&fnIn K f&&keepIn K (.ref f)
noncomputable def fg(K:Frag)(C:Addr)(name:Str):Bool:=findIn K (.ref C) "__setattr__"==some (some (.builtin "object.__setattr__"))&&plainOver K C&&takerIn K C name==some none&&hasDictIn K C
noncomputable def zP(K:Frag)(C:Addr)(name:Str)(a:ag):Bool:=plainGet K C name&&hasDictIn K C&&findIn K (.ref C) name==some (some a)&&specialIn K a "__get__"==some none&&handedIn a&& !copiedNames.contains name
section
variable {c:Cx}{n:Nat}{E:VE}{ρ ρ':List Sl}{β:dH}{O O':List Addr}{ad:Nat→List Addr}{s s':ae}
theorem iG{h:Heap}{a dx C:Addr}{es:List cT}{m:Nat}(h1:h.get? a=some (ib C dx))(h2:h.get? dx=some (dictOf es m)):InstAt h a (ib C dx) C (some (dictOf es m)):=⟨h1,rfl,rfl,h2⟩
theorem jP{A:aK}{a dx C:Addr}{es:List cT}{m:Nat}{name:Str}{v:ag}{expr:Bool}{Q:ag→ae→Prop}{X:ag→ae→Prop}(S:bF c s)(h1:s.heap.get? a=some (ib C dx))(h2:s.heap.get? dx=some (dictOf es m))(hA:attrOk c.K C name=true)(hl:getL name es=some (some v))(hv:handedIn v=true)(h:Q v {s with toks:=s.toks+1}):wpAny (model c.prog c.w) A (getAttr (.ref a) name expr) Q X s:=by
 unfold attrOk at hA;rw[bg,bg]at hA;refine xa hA ?_;clear hA;intro y1 ha;refine xa y1 ?_;clear y1;intro hg hh;cases hf:findIn c.K (.ref C) name with
 |none=>rw[hf]at ha;cases ha
 |some at'=>
  rw[hf]at ha;exact get_value S.fY (iG h1 h2) (oK hg).1 (findObj_own hh hf ha hl) hv h
noncomputable def D.seen:D→Bool
 |.lit _|.any=>false
 |_=>true
set_option tactic.hygienic true in
theorem bh.handed{w:a0}{h:Heap}{v:ag}{d:D}(hd:d.seen=true)(r:bh w O h v d):handedIn v=true:=by
 cases d
 case none=>subst r;rfl
 case bool b=>subst r;rfl
 case int i=>exact bh.ek r λ t=>rfl
 case str x=>exact bh.rg r λ t=>rfl
 case tup ds=>exact bh.qh r λ a z z z z=>rfl
 case lst ds=>exact bh.n6 r λ a z z z z=>rfl
 case dm xs=>exact bh.sj r λ a z z z z z z=>rfl
 case k8 k st=>exact bh.yn r λ a z z z z z z=>rfl
 case inst C fs=>exact bh.qE r λ a z z z z z z z z z z=>rfl
 case dK sN=>exact bh.Cc r λ a z z z z z z=>rfl
 case D7 x y=>exact bh.EW r λ a z z z z z=>rfl
 case lit=>exact absurd hd ew
 case any=>exact absurd hd ew
theorem eA.lookup{w:a0}{h:Heap}{ps:List (Str×ag)}{fs:List (Str×D)}{x:Str}{d:D}(r:eA w O h ps fs):fs.lookup x=some d→∃v,ps.lookup x=some v∧bh w O h v d:=
 r.ind (λ e=>by cases e) λ y v vs d ds q z ih e=>by
  rw[aX]at e⊢;cases hx:x==y with
  |true=>rw[hx]at e;cases e;exact⟨_,rfl,q⟩
  |false=>rw[hx]at e;exact ih e
theorem Ev.attr{x name:Str}{p pos:Pos}{C:Addr}{fs:List (Str×D)}{d:D}(h:Ev c n E ρ (.Name x p) (.inst C fs))(hA:attrOk c.K C name=true)(hf:fs.lookup name=some d)(hd:autoParam (d.seen=true) rf):Ev c n E ρ (.Attribute (.Name x p) name pos) d:= λ A β O ad s R I=>
 gX (h.go R I λ v au cY bj r=>by
  refine bh.qE r ?_;clear r;intro a dx es m ps ha hx h1 h2 hg r;refine cW (r.lookup hf) λ v hv r=>?_;exact jP bj.br h1 h2 hA (by rw[hg,hv]) (r.handed hd) ⟨cY.toks,bj.br.toks,r⟩)
theorem Ev.PB(i:Nat){x name:Str}{p pos:Pos}{C:Addr}{u:Option Addr}{m:Bool}{fs:List (Str×D)}{d:D}(hx:E.vn[i]? =some x)(dQ:ρ[i]? =some (Sl.own m (.inst u C fs)))(hA:attrOk c.K C name=true)(hf:fs.lookup name=some d)(hd:autoParam (d.seen=true) rf):Ev c n E ρ (.Attribute (.Name x p) name pos) d:= λ A β O ad s R I=>by
 have h1:=I.vars i x hx;rw[show ρ.getD i .no=.own m (.inst u C fs) by rw[ai,dQ];rfl]at h1;refine cH h1 ?_;clear h1;intro v b r k;refine iz r ?_;clear r;intro a dx zh;refine c8 zh ?_;clear zh;intro es m ps z1 jx zh;refine b_ zh ?_;clear zh;intro hu ku h1 zh;refine b_ zh ?_;clear zh;intro h2 hz hg r;subst z1;refine cW (r.lookup hf) λ v hv r=>?_;have hm:=bw hx;refine gX (vN ?_ (I.ok.JM x hm).1);have fin:wpAny (model c.prog c.w) A (getAttr (.ref a) name true) (Res c O s d) aZ s:=jP I.br h1 h2 hA (by rw[hg,hv]) (r.handed hd) ⟨(aB.refl ..).toks,I.br.toks,r⟩
 rcases I.ok.var x hm with hl|⟨hl,_⟩
 ·refine cW (b.1 hl) λ m hn e=>?_;exact f6 I.ok.kind hl hn e fin
 ·have ku:E.env.kindOf x≠some .local:=by rcases hl with h|h<;>rw[h]<;>trivial
  refine cW (b.2 ku) λ a' e hc=>?_
  rcases hl with hl|hl
  ·exact mO I.ok.kind hl e hc fin
  ·exact mN I.ok.kind hl e hc fin (I.ok.JM x hm).2
theorem CK{A:aK}{a dx C:Addr}{es:List cT}{m:Nat}{name:Str}{v:ag}{expr:Bool}{Q:ag→ae→Prop}{X:ag→ae→Prop}(S:bF c s)(h1:s.heap.get? a=some (ib C dx))(h2:s.heap.get? dx=some (dictOf es m))(hA:zP c.K C name v=true)(hl:getL name es=some none)(h:Q v {s with toks:=s.toks+1}):wpAny (model c.prog c.w) A (getAttr (.ref a) name expr) Q X s:=by
 unfold zP at hA;simp only[bg,beq_iff_eq,j7]at hA;refine xa hA ?_;clear hA;intro y1 hc;refine xa y1 ?_;clear y1;intro y2 hv;refine xa y2 ?_;clear y2;intro y3 hn;refine xa y3 ?_;clear y3;intro y4 ha;refine xa y4 ?_;clear y4;intro hg hh;exact get_value S.fY (iG h1 h2) (oK hg).1 (findObj_cls hh ha hn hv hc hl) hv h
theorem Inv.read{A:aK}{i:Nat}{x:Str}{pos:Pos}{v:ag}{Q:ag→ae→Prop}{X:ag→ae→Prop}(I:Inv c E β O ad ρ s)(hx:E.vn[i]? =some x)(b:Bound s.heap E.env x v)(h:Q v s):wpAny (model c.prog c.w) A (eval (.Name x pos) E.env) Q X s:=by
 have hm:=bw hx;refine vN ?_ (I.ok.JM x hm).1
 rcases I.ok.var x hm with hl|⟨hl,_⟩
 ·refine cW (b.1 hl) λ m hn e=>?_;exact f6 I.ok.kind hl hn e h
 ·have ku:E.env.kindOf x≠some .local:=by rcases hl with h|h<;>rw[h]<;>trivial
  refine cW (b.2 ku) λ a' e hc=>?_
  rcases hl with hl|hl
  ·exact mO I.ok.kind hl e hc h
  ·exact mN I.ok.kind hl e hc h (I.ok.JM x hm).2
theorem Inv.slot{i:Nat}{x:Str}{m:Bool}{q:OD}(I:Inv c E β O ad ρ s)(hx:E.vn[i]? =some x)(dQ:ρ[i]? =some (Sl.own m q)):∃v,Bound s.heap E.env x v∧cS c O s.heap v q (ad i)∧∀a∈ad i,a∈O∧a≠E.env.locals∧(∀p∈E.env.cells,p.2≠a)∧(m=true→BC β a)∧a∉β.O∧a<s.heap.objs.size:=by
 have h1:=I.vars i x hx;rw[show ρ.getD i .no=.own m q by rw[ai,dQ];rfl]at h1;exact h1
theorem Ev.PE(i:Nat){x name:Str}{p pos:Pos}{C:Addr}{u:Option Addr}{m:Bool}{fs:List (Str×D)}{v:ag}{d:D}(hx:E.vn[i]? =some x)(dQ:ρ[i]? =some (Sl.own m (.inst u C fs)))(hA:zP c.K C name v=true)(hf:fs.lookup name=none)(hv:∀O s,Ok c O s→bh c.w O s.heap v d):
  Ev c n E ρ (.Attribute (.Name x p) name pos) d:= λ A β O ad s R I=>by
 refine cH (I.slot hx dQ) λ u' b r k=>?_;refine iz r ?_;clear r;intro a dx zh;refine c8 zh ?_;clear zh;intro es m ps z1 jx zh;refine b_ zh ?_;clear zh;intro hu ku h1 zh;refine b_ zh ?_;clear zh;intro h2 hz hg r;subst z1;have hn:ps.lookup name=none:=by
  have:∀{ps:List (Str×ag)} {fs:List (Str×D)},eA c.w O s.heap ps fs→fs.lookup name=none→ps.lookup name=none:=by
   intro ps
   induction ps with
   |nil=>intro z z z;rfl
   |cons p ps ih=>
    intro fs r e;cases fs with
    |nil=>exact r.elim
    |cons q fs=>
     rw[show q::fs=(q.1,q.2)::fs from rfl,aX]at e;rw[show p::ps=(p.1,p.2)::ps from rfl,aX,r.1];cases hx:name==q.1 with
     |true=>rw[hx]at e;cases e
     |false=>rw[hx]at e;exact ih r.2.2 e
  exact this r hf
 exact gX (I.read hx b (CK I.br h1 h2 hA (by rw[hg,hn]) ⟨(aB.refl ..).toks,I.br.toks,hv O _ ⟨I.br.toks,I.lt,I.low⟩⟩))
theorem Bd{v:ag}{x y:Str}(h:v.isStr x=true)(h':v.isStr y=true):x=y:=by
 cases v<;>first|exact bz h|exact(eq_of_beq h).symm.trans (eq_of_beq h')
theorem Gp{x y:Str}{hsh:Int}{tk:Tok}{v:ag}{es:List cT}:(putL x hsh (.str x tk) v es).find? (·.key.isStr y)=if y=x then some (match es.find? (·.key.isStr x)with|some e=>⟨e.hash,e.key,v⟩|none=>⟨hsh,.str x tk,v⟩)else es.find? (·.key.isStr y):=by
 have hs:(Value.str x tk).isStr y=(x==y):=rfl
 induction es with
 |nil=>
  by_cases h:y=x
  ·subst h;rw[if_pos rfl];exact gJ (hs.trans (beq_self_eq_true y))
  ·rw[if_neg h];exact fc λ e=>h (eq_of_beq (hs.symm.trans e)).symm
 |cons e r ih=>
  unfold putL;cases hx:e.key.isStr x with
  |true=>
   rw[if_pos rfl,gJ (p:= λ z:cT=>z.key.isStr x) hx]
   by_cases h:y=x
   ·rw[if_pos h,gJ (p:= λ z:cT=>z.key.isStr y) (by subst h;exact hx)]
   ·have k:¬e.key.isStr y=true:= λ hy=>h (Bd hy hx);rw[if_neg h,fc (p:= λ z:cT=>z.key.isStr y) (a:=e) k,fc (p:= λ z:cT=>z.key.isStr y) (a:=⟨e.hash,e.key,v⟩) k]
  |false=>
   have kx:¬e.key.isStr x=true:=by rw[hx];exact bz
   rw[if_neg bz,fc (p:= λ z:cT=>z.key.isStr x) kx]
   by_cases hy:e.key.isStr y=true
   ·rw[gJ (p:= λ z:cT=>z.key.isStr y) hy,gJ (p:= λ z:cT=>z.key.isStr y) hy,if_neg λ e'=>kx (by subst e';exact hy)]
   ·rw[fc (p:= λ z:cT=>z.key.isStr y) hy,fc (p:= λ z:cT=>z.key.isStr y) hy,ih]
theorem any_put{x:Str}{hsh:Int}{tk:Tok}{v:ag}(R8:(⟨hsh,.str x tk,v⟩:cT).refKey=false):∀{es:List cT},(putL x hsh (.str x tk) v es).any (·.refKey)=es.any (·.refKey)
 |[]=>by rfl
 |e::r=>by
  unfold putL;cases hx:e.key.isStr x with
  |true=>simp only[if_true,nr];rfl
  |false=>simp only[aR,if_false,nr,any_put R8]
theorem zF{x y:Str}{hsh:Int}{tk:Tok}{v:ag}{es:List cT}{o:Option ag}(hy:getL y es=some o):getL y (putL x hsh (.str x tk) v es)=some (if y=x then some v else o):=by
 unfold getL at hy⊢;rw[Gp,any_put rfl]
 by_cases h:y=x
 ·subst h;simp only[if_true];cases es.find? (λ z=>z.key.isStr y)<;>rfl
 ·simp only[h,if_false];exact hy
theorem n0{x:Str}{hsh:Int}{key v:ag}:∀(es:List cT),(putL x hsh key v es).length≤es.length+1:=by
 intro w
 induction w with
 |nil=>
  exact az _
 |cons e r ih=>
  unfold putL
  split
  ·simp
  ·have:=ih;simp only[aJ];exact cX this
set_option tactic.hygienic true in
theorem tB{A:aK}{a dx C:Addr}{es:List cT}{m:Nat}{name:Str}{v:ag}{Q:Unit→ae→Prop}{X:ag→ae→Prop}(S:bF c s)(h1:s.heap.get? a=some (ib C dx))(h2:s.heap.get? dx=some (dictOf es m))(hA:fg c.K C name=true)(hl:(getL name es).isSome=true)(hz:es.length≤900)(h:∀h' m' tk,h'.get? dx=some (dictOf (putL name (jN c.w.params name) (.str name (s.toks+1)) v es) m')→c7 dx s.heap h'→Q () {s with heap:=h',toks:=tk}):wpAny (model c.prog c.w) A (setAttr (.ref a) name v) Q X s:=by
 unfold fg at hA;simp only[bg,beq_iff_eq]at hA;refine xa hA ?_;clear hA;intro y1 hh;refine xa y1 ?_;clear y1;intro y2 ht;refine xa y2 ?_;clear y2;intro hs hp;refine set_plain S.fY (iG h1 h2) hs ?_;have S':bF c {s with toks:=s.toks+1}:=S.toks;refine osa_open (s:={s with toks:=s.toks+1}) S.fY (iG h1 h2) hp ht λ b=>?_;refine cW (any_some hh) λ cd hc iP=>?_;refine aa (ah (aa (aa (wpAny_loadPart h1 (aa ((looks_clsIn (h:=Shared.heap {s with toks:=s.toks+1}) S'.fY hc).here ?_))))));rw[iP];refine ah (a:=some dx) (aa (ah (aa ?_)));refine aa (aa (df (ah (aa (wpAny_mkText (aa (wpAny_loadPart h2 ?_)))))));dsimp only;have cc:(!es.toArray.any (·.key.isStr name)&&es.toArray.any (·.refKey))=false:=by
  rw[← Array.any_toList,← Array.any_toList];unfold getL at hl
  split at hl
  ·rename_i en he;rw[iV.mpr ⟨en,List.mem_of_find?_eq_some he,List.find?_some he⟩];rfl
  ·split at hl
   ·cases hl
   ·rename_i z;rw[Bool.not_eq_true]at z;rw[z,Bool.and_false]
 rw[aRefKeyMayBeTheName_at,cc];refine wpAny_updatePart h2 ?_;have eO:=bC s.heap dx (Obj.putName name (jN c.w.params name) (.str name (s.toks+1)) v);have hg:=b0 (h:=s.heap) (Obj.putName name (jN c.w.params name) (.str name (s.toks+1)) v) h2 (by rw[putName_dict];rfl);rw[putName_dict]at hg;refine aa (wpAny_lookBehind hg (pastItsLine_dict (by have:=n0 (x:=name) (hsh:=jN c.w.params name) (key:=.str name (s.toks+1)) (v:=v) es;rw[a_,cG];lia)) ?_);exact ah (h _ _ _ hg eO)
end
end
section
variable {c:Cx}{n:Nat}{E:VE}{ρ ρ':List Sl}{β:dH}{O O' W N:List Addr}{G:List Nat}{ad:Nat→List Addr}{s s':ae}
theorem Inv.jj(I:Inv c E β O ad ρ s){i:Nat}{x:Str}{q q':OD}{v:ag}{fp:List Addr}(hx:E.vn[i]? =some x)(dQ:ρ[i]? =some (.own true q))(y:aB c W [] s s')(S:bF c s')(hW:∀a∈W,a∈ad i)(b:Bound s.heap E.env x v)(r:cS c (N++O) s'.heap v q' fp)(hN:∀a∈N,s.heap.objs.size≤a∧a<s'.heap.objs.size)(jx:∀a∈fp,a∈ad i∨a∈N):Inv c E β (N++O) (λ j=>if j=i then fp else ad j) (ρ.set i (.own true q')) s':=by
 have hl:i<ρ.length:=(ay.mp dQ).1;have Iq:i<E.vn.length:=(ay.mp hx).1;refine cH (I.slot hx dQ) λ QU LL ej k=>?_;have UY:∀sl:Sl,(ρ.set i sl).getD i .no=sl:= λ sl=>by rw[ai,bp hl];rfl
 have Su:∀(sl:Sl) j,j≠i→(ρ.set i sl).getD j .no=ρ.getD j .no:= λ sl j hj=>by rw[ai,aQ (Ne.symm hj),← ai]
 have TX:Inv c E β O (λ j=>if j=i then []else ad j) (ρ.set i .no) s:=by
  refine⟨I.ok,I.br,I.grow,I.lt,I.low,I.sub,I.n7,I.new,I.ns,I.cells,I.uA,I.ti,I.CF,I.CG,λ j z hz=>?_,λ j j' Qt a ha=>?_,λ j hj=>?_⟩
  ·by_cases hj:j=i
   ·subst hj;rw[UY,if_pos rfl];rfl
   ·rw[Su _ _ hj,if_neg hj];exact I.vars j z hz
  ·have ha:a∈(if j=i then []else ad j):=ha;show a∉ (if j'=i then []else ad j')
   split at ha
   ·exact nn ha
   ·split
    ·simp
    ·exact I.mE j j' Qt a ha
  ·show(if j=i then []else ad j)=[];rw[if_neg (by lia)];exact I.out j hj
 have bj:Inv c E β (N++O) (λ j=>if j=i then []else ad j) (ρ.set i .no) s':=TX.apart y S (λ a h=>.inl (k a (hW a h)).1) (λ a h=>(k a (hW a h)).2.2.2.1 rfl) (λ u=>nn) (λ h=>(k _ (hW _ h)).2.1 rfl) (λ p hp h=>(k _ (hW _ h)).2.2.1 p hp rfl)
  (λ j u a ha h=>by
   have ha:a∈(if j=i then []else ad j):=ha
   split at ha
   ·exact nn ha
   ·rename_i hj;exact I.mE j i hj a ha (hW a h)) (λ a h=>(aC.mp h).elim (λ h=>.inr (hN a h)) .inl) λ a h=>ao _ h
 have hb:Bound s'.heap E.env x v:=y.bound (λ h=>(k _ (hW _ h)).2.1 rfl) (λ p hp h=>(k _ (hW _ h)).2.2.1 p hp rfl) b;refine{bj with vars:= λ j z hz=>?_,mE:= λ j j' Qt a ha=>?_,out:= λ j hj=>?_}
 ·by_cases hj:j=i
  ·subst hj;rw[UY,if_pos rfl];rw[hx]at hz;cases hz;refine⟨v,hb,r,λ a ha=>?_⟩
   rcases jx a ha with h|h
   ·refine jH (k a h) λ k1 k2 zh=>b_ zh λ k3 k4 k5 k6=>?_;exact⟨ao _ k1,k2,k3,k4,k5,ab k6 y.size⟩
   ·have h1:=hN a h;refine⟨aF _ h,λ e=>?_,λ p hp e=>?_,λ u=>.inr (af I.grow.size h1.1),λ ho=>?_,h1.2⟩
    ·exact ak _ (ab (I.lt _ I.uA) (e▸h1.1))
    ·exact ak _ (ab (I.lt _ (I.ti p hp)) (e▸h1.1))
    ·exact ak _ (ab (I.n7 a ho) (af I.grow.size h1.1))
  ·have:=bj.vars j z hz;rw[Su _ _ hj,if_neg hj]at this;rw[Su _ _ hj,if_neg hj];exact this
 ·have ha:a∈(if j=i then fp else ad j):=ha;show a∉ (if j'=i then fp else ad j');have zo:∀j,a∈N→a∉ad j:= λ j h h'=>ak _ (ab (I.small j a h').2.1 (hN a h).1)
  split at ha<;>split
  ·rename_i h1 h2;exact absurd (h1.trans h2.symm) Qt
  ·rename_i h1 h2;exact λ h'=>(jx a ha).elim (λ h=>I.mE i j' (by lia) a h h') λ h=>zo j' h h'
  ·rename_i h1 h2;exact λ h'=>(jx a h').elim (λ h=>I.mE j i (by exact h1) a ha h) λ h=>zo j h ha
  ·exact I.mE j j' Qt a ha
 ·show(if j=i then fp else ad j)=[];rw[if_neg (by lia)];exact I.out j hj
theorem ba.put(i:Nat){x name:Str}{p p' pos:Pos}{e:Expr}{C:Addr}{u:Option Addr}{fs:List (Str×D)}{d:D}(h:Ev c n E ρ e d)(hx:E.vn[i]? =some x)(dQ:ρ[i]? =some (Sl.own true (.inst u C fs)))(hA:fg c.K C name=true)(zt:fs.length≤900)(hs:autoParam (swapsWith e (some (.Attribute (.Name x p) name p')) pos.line E.env=pure false) rf):ba c n E ρ (.Assign [.Attribute (.Name x p) name p'] e pos) (.next (ρ.set i (.own true (.inst u C ((name,d)::fs))))):= λ A β s R w0=>iz w0 λ O ad I=>
 yb (h.go R I λ v au cY bj r=>by
  refine cH (bj.slot hx dQ) λ u' b o k=>?_;refine iz o ?_;clear o;intro a dx zh;refine c8 zh ?_;clear zh;intro es m ps z1 jx zh;refine b_ zh ?_;clear zh;intro hu ku h1 zh;refine b_ zh ?_;clear zh;intro h2 hz hg rf;subst z1;refine bj.read hx b ?_;refine tB bj.br h1 h2 hA (by rw[hg];rfl) (by exact af hz zt) λ h' m' tk hd An=>?_;have kz:dx∈ad i:=by rw[jx];exact .tail _ (.head _)
  have g:aB c [dx] [] au {au with heap:=h',toks:=tk}:=SameBut.grow An h2 (cP rfl);have S:bF c {au with heap:=h',toks:=tk}:=SameBut.br bj.br An (bj.low _ (k _ kz).1);have mi:tu [dx] O au:= λ b hb=>by obtain rfl:=m1 hb;exact .inl (k _ kz).1
  refine⟨rfl,[]++O,_,bj.jj (N:=[]) (fp:=ad i) hx dQ g S (λ b hb=>by obtain rfl:=m1 hb;exact kz) b ⟨a,dx,_,m',(name,v)::ps,rfl,jx,hu,ku,An.extBut _ _ ku h1,hd,?_,λ y=>?_,?_⟩ (λ z=>nn) λ b hb=>.inl hb⟩
  ·have:=n0 (x:=name) (hsh:=jN c.w.params name) (key:=.str name (au.toks+1)) (v:=v) es;simp only[aJ];lia
  ·rw[zF (hg y),aX]
   by_cases hy:y=name
   ·subst hy;simp
   ·rw[if_neg hy,show(y==name)=false by simpa using hy]
  ·exact⟨rfl,g.rep mi (.refl O au) r,g.yJ mi (.refl O au) rf⟩) hs
end
theorem Rm.make{A:aK}{n:Nat}{C:Addr}{rest:List ag}{kw:List (Str×ag)}(R:Rm A (n+1)):Rm (A.under (.builtin "type.__call__" ⟨.ref C::rest,kw⟩)) n:=by
 have hw:(Code.builtin "type.__call__" ⟨.ref C::rest,kw⟩).weight=1:=by
  have:guardIds.contains "type.__call__"=false:=by decide +kernel
  show 0+1+(if guardIds.contains "type.__call__"=true then 1 else 0)+0=1;rw[this];rfl
 refine⟨R.handled,?_,?_⟩
 ·have:=R.depth;show A.depth+(Code.builtin "type.__call__" ⟨.ref C::rest,kw⟩).weight+n<_;rw[hw];exact GX this
 ·have:=R.units;show A.units+(1+3*0)+20*n<_;lia
section
variable {c:Cx}{n:Nat}{E:VE}{ρ ρ':List Sl}{β:dH}{O O' W N:List Addr}{G:List Nat}{ad:Nat→List Addr}{s s':ae}
theorem cS.less{s:ae}{v:ag}{q:OD}{fp:List Addr}(r:cS c O s.heap v q fp)(hO:∀a∈O',a∈O):cS c O' s.heap v q fp:=
 (aB.refl c [] [] s).own (λ z=>nn) (λ a h=>.inl (hO a h)) (λ z z=>nn) (λ a z o e=>.inr e) r
theorem cS.qD{h:Heap}{v:ag}{u C:Addr}{fs:List (Str×D)}{fp:List Addr}(r:cS c O h v (.inst (some u) C fs) fp):v=.ref u∧cS c O h v (.inst none C fs) fp:=by
 refine iz r ?_;clear r;intro a dx zh;refine cI zh ?_;clear zh;intro es n ps z1 jx hu r;subst z1;exact⟨by rw[hu u rfl],a,dx,es,n,ps,rfl,jx,λ b h=>(nomatch h),r⟩
theorem cS.Ca{h:Heap}{v:ag}{u C:Addr}{fs:List (Str×D)}{y:Str}{ds:List D}{fp:List Addr}(r:cS c O h v (.kc (some u) C fs y ds) fp):v=.ref u∧cS c O h v (.kc none C fs y ds) fp:=by
 refine xe r ?_;clear r;intro a zh;refine iq zh ?_;clear zh;intro dx l es zh;refine cI zh ?_;clear zh;intro n ps vs z1 jx hu r;subst z1;exact⟨by rw[hu u rfl],a,dx,l,es,n,ps,vs,rfl,jx,λ b h=>(nomatch h),r⟩
theorem mG.make{C f:Addr}{fd:FuncData}{body:List Stmt}{vn:List Str}{np:Nat}{ds:List D}{kws:List (Str×D)}(src:List Src){q:OD}{ρ₁:Addr→List Sl}(hm:makesIn c.K C=true)(hi:findIn c.K (.ref C) "__init__"=some (some (.ref f)))(hf:typeIn c.K (.ref f)=some (.type "function"))(F:nE c f fd body)(k:rL fd vn (np+1)=true)(ie:fd.scope.isGenerator=false)(hlen:src.length=np)(Dp:src.all (·.KA ds.length kws.length)=true)(hb:∀s u vs ks,bF c s→vs.length=ds.length→ks.map (·.1)=kws.map (·.1)→iv s fd ⟨u::vs,ks⟩ ((vn.take (np+1)).zip (u::src.map (·.val vs ks))))(h:∀L u,Ex c n (mM fd L f vn) (.own true (.inst (some u) C [])::((src.map (·.dat ds kws)).map Sl.val++al (vn.length-(np+1)) .no)) body (.next (ρ₁ u)))(hq:∀u,∃q',(ρ₁ u)[0]? =some (.own true q')∧∀O h v fp,cS c O h v q' fp→v=.ref u∧cS c O h v q fp)(JA:∃x,vn[0]? =some x):mG c (n+2) (.ref C) ds kws q:= λ A O s vs ks R K r r'=>by
 obtain⟨hp,g,d,t,os⟩:=s;have S:=K.br;have Rb:Rm A (n+1+1):=R;refine lW (make_core (makes_of S.fY hm) (jr S.fY hi) (λ self=>bind_fn S.fY self hf) (.inl rfl) ?_);have Cd:((hp.push emptyDict).push (instObj C hp.objs.size)).objs.size=hp.objs.size+2:=by rw[aW,aW]
 have keep:∀b o,hp.get? b=some o→((hp.push emptyDict).push (instObj C hp.objs.size)).get? b=some o:= λ b o e=>aA _ (aA _ e);have fV:aB c [] [] ⟨hp,g,d,t,os⟩ ⟨(hp.push emptyDict).push (instObj C hp.objs.size),g,d,t,os⟩:=aB.step (s:=⟨hp,g,d,t,os⟩) (tk:=t) (by rw[Cd];exact cD _ _) keep;have jy:bF c ⟨(hp.push emptyDict).push (instObj C hp.objs.size),g,d,t,os⟩:=bF.step (s:=⟨hp,g,d,t,os⟩) (tk:=t) S (by rw[Cd];exact cD _ _) keep;have OC:((hp.push emptyDict).push (instObj C hp.objs.size)).get? hp.objs.size=some emptyDict:=aA _ (av _ rfl);have hx:((hp.push emptyDict).push (instObj C hp.objs.size)).get? (hp.objs.size+1)=some (instObj C hp.objs.size):=by
  have:=av (hp.push emptyDict) (o:=instObj C hp.objs.size) rfl;rwa[aW]at this
 have vf:nL O ([hp.objs.size+1,hp.objs.size]++O) ⟨hp,g,d,t,os⟩:= λ b hb=>(aC.mp hb).elim (λ h=>.inr (by
  rcases mc h with rfl|h
  ·exact bq _
  ·rw[m1 h];exact az _)) .inl
 have ar:=a7.args (s:=⟨(hp.push emptyDict).push (instObj C hp.objs.size),g,d,t,os⟩) (aB.fj fV (λ j h=>nn h) vf (Src.fj r r' Dp));refine xe JA ?_;clear JA;intro nm Mf;have SK:∀b∈[hp.objs.size+1,hp.objs.size],hp.objs.size≤b∧b<((hp.push emptyDict).push (instObj C hp.objs.size)).objs.size:= λ b hb=>by
  rw[Cd]
  rcases mc hb with rfl|hb
  ·exact⟨bq _,aS _⟩
  ·rw[aj]at hb;subst hb;exact⟨az _,cw (aS _)⟩
 refine bc (m5 (O:=O) (vs:=.ref (hp.objs.size+1)::src.map (·.val vs ks)) (s₀:=⟨hp,g,d,t,os⟩) (W:=[]) (G:=[]) (sls:=.own true (.inst (some (hp.objs.size+1)) C [])::(src.map (·.dat ds kws)).map Sl.val)
  (fp:=[hp.objs.size+1,hp.objs.size])
  (Q:= λ v s'=>v=.none∧∃fp,aB c [] [] ⟨hp,g,d,t,os⟩ s'∧bF c s'∧cS c (fp++O) s'.heap (.ref (hp.objs.size+1)) q fp∧∀a∈fp,hp.objs.size≤a∧a<s'.heap.objs.size)
  F k ie (Rm.make Rb) ⟨fV,jy,λ b hb=>⟨K.lt b hb,K.low b hb⟩,S.size,SK,congrArg uW ar.1,λ i=>?_⟩ (by simp[hlen]) (hb _ _ vs ks jy r.length r'.fj.2) λ O' ad au qH I ic hL hC=>?_) λ r s' z=>?_
 ·cases i with
  |zero=>exact⟨_,_,[],_,[],rfl,rfl,λ b hb=>by cases hb;rfl,vQ _,hx,OC,bS _,λ j=>rfl,by trivial⟩
  |succ i=>exact ar.2 i
 ·have Sb:=I.pad (m:=vn.length-(np+1));refine wm (h _ (hp.objs.size+1) _ _ au (Rm.make (n:=n+1) Rb).deeper ⟨O',ad,Sb⟩) λ fl s' z=>?_;refine Es z ?_;clear z;intro z1 BA PS ct;subst z1;refine⟨rfl,?_⟩;refine cW (hq (hp.objs.size+1)) λ q' WH WG=>?_;refine cH (ct.slot (i:=0) (x:=nm) Mf WH) λ v b o kk=>?_;refine xa (WG _ _ _ _ o) λ z1 o=>?_;subst z1;refine⟨PS 0,ct.grow,ct.br,o.less λ b hb=>(aC.mp hb).elim (λ h=>(kk b h).1) λ h=>ct.sub b h,λ b hb=>⟨?_,(kk b hb).2.2.2.2.2⟩⟩;exact((kk b hb).2.2.2.1 rfl).elim (nn) id
 ·rcases r with e|(v|_|_|_)<;>first|exact z.elim|exact z
end
section
variable {c:Cx}{n:Nat}{O:List Addr}{s:ae}{A:aK}{Q:ag→ae→Prop}{C f x dx:Addr}{es:List cT}{k:Nat}{nm T:String}
noncomputable def qv(K:Frag)(C:Addr)(name:Str)(f:Addr):Bool:=findIn K (.ref C) name==some (some (.ref f))&&isFn K (.ref f)&&selfFirst K C
theorem zI(h:selfFirst c.K C=true):∃cd rest,clsIn c.K C=some cd∧cd.mro=.ref C::rest:=by
 refine cW (any_some h) λ cd Dv hm=>?_;cases q:cd.mro with
 |nil=>rw[q]at hm;cases hm
 |cons a r=>rw[q,List.head?_cons]at hm;cases (beq_iff_eq.mp hm);exact⟨cd,r,Dv,q⟩
theorem FI{op:CmpOp}{b tb:ag}{X:ag→ae→Prop}(hu:A.units<cLine)(S:bF c s)(h1:s.heap.get? x=some (ib C dx))(h2:s.heap.get? dx=some (dictOf es k))(hb:Aq (model c.prog c.w) s.heap (typeOf b) tb)(hn:notFirst c.K C tb=true)(hs:findIn c.K (.ref C) (cmpInfo op).2.1=some (some (.ref f)))(hf:isFn c.K (.ref f)=true)(h:wpAny (model c.prog c.w) A (call (.ref f) [.ref x,b]) (lr Q) X s):wpAny (model c.prog c.w) A (richCompare op (.ref x) b) Q X s:=by
 have I:=iG h1 h2;have one:wpAny (model c.prog c.w) A (tryCompare (.ref x) (cmpInfo op).2.1 b) (λ r s'=>∃v,r=some v∧Q v s') X s:=by
  refine aa (ifBound_K S.fY I hs hf (wk h λ v s' hv=>?_));cases v<;>first|exact hv.elim|exact ah ⟨_,rfl,hv⟩
 refine aV (aa (wpAny_cRoomFor hu ?_));refine aa (I.type.here (aa (hb.here ?_)));refine wI (λ q=>?_) λ _=>?_
 ·have e:subIn c.K tb (.ref C)=some false:=by
   rcases qZ.mp hn with e|e
   ·rw[beq_iff_eq.mp e]at q;simp at q
   ·exact beq_iff_eq.mp e
  refine aa ((looks_subIn S.fY e).here ?_);refine wF ?_;refine L0 one λ r s' z=>?_;obtain⟨v,rfl,hq⟩:=z;exact ah hq
 ·refine vW ?_;refine wF ?_;refine L0 one λ r s' z=>?_;obtain⟨v,rfl,hq⟩:=z;exact ah hq
theorem zc{X:ag→ae→Prop}{name:Str}{b:ag}(S:bF c s)(h1:s.heap.get? x=some (ib C dx))(h2:s.heap.get? dx=some (dictOf es k))(hs:findIn c.K (.ref C) name=some (some (.ref f)))(hf:isFn c.K (.ref f)=true)(h:wpAny (model c.prog c.w) A (call (.ref f) [.ref x,b]) (lr Q) X s):wpAny (model c.prog c.w) A (tryMethod (.ref x) name b) (λ r s'=>∃v,r=some v∧Q v s') X s:=by
 refine aa (special_fn S.fY (iG h1 h2) hs (beq_iff_eq.mp hf) (wk h λ v s' hv=>?_));cases v<;>first|exact hv.elim|exact ah ⟨_,rfl,hv⟩
theorem BN{op:mf}{a b:ag}{X:ag→ae→Prop}(h:wpAny (model c.prog c.w) A (binaryOp1 op.info.2 a b) (λ r s'=>∃v,r=some v∧Q v s') X s):wpAny (model c.prog c.w) A (binaryOp op a b) Q X s:=by
 refine aV (L0 h λ r s' z=>?_);obtain⟨v,rfl,hq⟩:=z;exact ah hq
theorem FJ{op:mf}{b:ag}{X:ag→ae→Prop}(S:bF c s)(h1:s.heap.get? x=some (ib C dx))(h2:s.heap.get? dx=some (dictOf es k))(hb:Aq (model c.prog c.w) s.heap (typeOf b) (.ref C))(hc:selfFirst c.K C=true)(hs:findIn c.K (.ref C) (d7 op.info.2)=some (some (.ref f)))(hf:isFn c.K (.ref f)=true)(h:wpAny (model c.prog c.w) A (call (.ref f) [.ref x,b]) (lr Q) X s):wpAny (model c.prog c.w) A (binaryOp op (.ref x) b) Q X s:=by
 refine ez (zI hc) λ cd rest Dv hm=>BN ?_;have I:=iG h1 h2;refine aa (I.type.here (aa (hb.here (aa ((fills_K S.fY Dv hm hs).here (wP (beq_self_eq_true _) (vW (wF (wF (wF (vW (wF (wT ?_)))))))))))));refine L0 (zc S h1 h2 hs hf h) λ r s' z=>?_;obtain⟨v,rfl,hq⟩:=z;exact ah ⟨v,rfl,hq⟩
theorem Bn{h:Heap}{fo ro:Option ag}(Xk:c.K.In h)(h1:findIn c.K (.type T) (d7 nm)=some fo)(h2:findIn c.K (.type T) (dunderR nm)=some ro):
  Aq (model c.prog c.w) h (fillsNumberSlot (.type T) nm) ((fo.isSome&& !isSeqSlot fo)||(ro.isSome&& !isSeqSlot ro)):=by
 intro A Q E s k q;obtain⟨hh,g,d,tt,os⟩:=s;have X':c.K.In hh:=Xk.keeps k;have L1:Aq (model c.prog c.w) hh (typeLookup (.type T) (d7 nm)) fo:=jr X' h1;have L2:Aq (model c.prog c.w) hh (typeLookup (.type T) (dunderR nm)) ro:=jr X' h2
 repeat lk
 exact q
theorem FO{h:Heap}{rc:Option ag}(Xk:c.K.In h)(hs:findIn c.K (.ref C) (d7 nm)=some (some (.ref f)))(hr:findIn c.K (.ref C) (dunderR nm)=some rc)(hp:rc=none∨∃g:Addr,rc=some (.ref g)):
  Aq (model c.prog c.w) h (numberSlotInPython (.ref C) nm) true:=by
 intro A Q E s k q;obtain⟨hh,g,d,tt,os⟩:=s;have X':c.K.In hh:=Xk.keeps k;have L1:Aq (model c.prog c.w) hh (typeLookup (.ref C) (d7 nm)) (some (.ref f)):=jr X' hs;have L2:Aq (model c.prog c.w) hh (typeLookup (.ref C) (dunderR nm)) rc:=jr X' hr
 rcases hp with rfl|⟨g',rfl⟩
 ·repeat lk
  exact q
 ·repeat lk
  exact q
theorem Dl{op:mf}{b:ag}{fo ro rc:Option ag}{X:ag→ae→Prop}(S:bF c s)(h1:s.heap.get? x=some (ib C dx))(h2:s.heap.get? dx=some (dictOf es k))(hb:typeOf b=pure (.type T))(hc:selfFirst c.K C=true)(hs:findIn c.K (.ref C) (d7 op.info.2)=some (some (.ref f)))(hf:isFn c.K (.ref f)=true)(hr:findIn c.K (.ref C) (dunderR op.info.2)=some rc)(hp:rc=none∨∃g:Addr,rc=some (.ref g))(h3:findIn c.K (.type T) (d7 op.info.2)=some fo)(h4:findIn c.K (.type T) (dunderR op.info.2)=some ro)(ic:subIn c.K (.type T) (.ref C)=some false)(h:wpAny (model c.prog c.w) A (call (.ref f) [.ref x,b]) (lr Q) X s):wpAny (model c.prog c.w) A (binaryOp op (.ref x) b) Q X s:=by
 refine ez (zI hc) λ cd rest Dv hm=>BN ?_;have one:wpAny (model c.prog c.w) A (tryMethod (.ref x) (d7 op.info.2) b) _ X s:=zc S h1 h2 hs hf h;have Xk:=S.fY;refine aa ((iG h1 h2).type.here (aa ((z8 hb).here (aa ((fills_K Xk Dv hm hs).here (wN (by simp) (aa ((Bn Xk h3 h4).here ?_))))))));generalize ((fo.isSome&& !isSeqSlot fo)||(ro.isSome&& !isSeqSlot ro))=right;cases right with
 |false=>
  refine wF (wF (wF (vW (wF (wT (L0 one λ r s' z=>?_))))));obtain⟨v,rfl,hq⟩:=z;exact ah ⟨v,rfl,hq⟩
 |true=>
  refine wT (aa ((looks_subIn Xk ic).here (wF (wF (wT (aa ((FO Xk hs hr hp).here (wT (aa ((z8 (r:=false) rfl).here (wT (aa ((jr Xk h4).here (wT (L0 one λ r s' z=>?_)))))))))))))));obtain⟨v,rfl,hq⟩:=z;exact ah ⟨v,rfl,hq⟩
end
section
set_option backward.match.sparseCases false
section
variable {c:Cx}{n:Nat}{O:List Addr}{s:ae}{a b:Int}
theorem fq{w:a0}{h:Heap}{i:Int}{t:Tok}:bh w O h (.int i t) (.int i):=by exact⟨t,rfl⟩
theorem cO{w:a0}{h:Heap}{b:Bool}:bh w O h (.bool b) (.bool b):=rfl
theorem qr{w:a0}{h:Heap}{x:Str}{t:Tok}:bh w O h (.str x t) (.str x):=by exact⟨t,rfl⟩
theorem gF.rR:gF c n .Add (.int a) (.int b) (.int (a+b)):= λ A O s eR eQ R K bE bB=>by
 refine bh.ek bE λ t=>bh.ek bB λ u=>?_;exact wpAny_add_int (Res.tok K.br fq)
theorem gF.Kd:gF c n .Sub (.int a) (.int b) (.int (a-b)):= λ A O s eR eQ R K bE bB=>by
 refine bh.ek bE λ t=>bh.ek bB λ u=>?_;exact sub_int' (Res.tok K.br fq)
theorem gF.nB(hb: -2^64<b)(wA:b<2^64):gF c n .Mult (.int a) (.int b) (.int (a*b)):= λ A O s eR eQ R K bE bB=>by
 refine bh.ek bE λ t=>bh.ek bB λ u=>?_;exact mul_int (Res.tok K.br fq) (IntMulOk.of_right (intBits_le_64 hb wA))
theorem gF.LB(h0:b≠0)(hb:b.natAbs<1073741824):gF c n .FloorDiv (.int a) (.int b) (.int (a.fdiv b)):= λ A O s eR eQ R K bE bB=>by
 refine bh.ek bE λ t=>bh.ek bB λ u=>?_;exact floordiv_int h0 (Res.tok K.br fq) (.inl (PyProof.noPylong_small hb))
theorem gF.xr(h0:b≠0):gF c n .Mod (.int a) (.int b) (.int (a.fmod b)):= λ A O s eR eQ R K bE bB=>by
 refine bh.ek bE λ t=>bh.ek bB λ u=>?_;exact mod_int' h0 (Res.tok K.br fq)
theorem gF.Q3(h0:0≤b):gF c n .RShift (.int a) (.int b) (.int (a.fdiv (2^b.toNat))):= λ A O s eR eQ R K bE bB=>by
 refine bh.ek bE λ t=>bh.ek bB λ u=>?_;exact rshift_int h0 (Res.tok K.br fq)
theorem gF.TO:gF c n .BitAnd (.int a) (.int b) (.int (vT a b)):= λ A O s eR eQ R K bE bB=>by
 refine bh.ek bE λ t=>bh.ek bB λ u=>?_;exact and_int (Res.tok K.br fq)
theorem cB.Ei:cB c n .Eq (.int a) (.int b) (a==b):= λ A O s eR eQ R K bE bB=>by
 refine bh.ek bE λ t=>bh.ek bB λ u=>?_;exact eq_int (Res.here K.br cO)
theorem cB.KI:cB c n .NotEq (.int a) (.int b) (a !=b):= λ A O s eR eQ R K bE bB=>by
 refine bh.ek bE λ t=>bh.ek bB λ u=>?_;exact ne_int (Res.here K.br cO)
theorem cB.ltI:cB c n .Lt (.int a) (.int b) (decide (a<b)):= λ A O s eR eQ R K bE bB=>by
 refine bh.ek bE λ t=>bh.ek bB λ u=>?_;exact lt_int (Res.here K.br cO)
theorem cB.Rt:cB c n .LtE (.int a) (.int b) (decide (a≤b)):= λ A O s eR eQ R K bE bB=>by
 refine bh.ek bE λ t=>bh.ek bB λ u=>?_;exact le_int (Res.here K.br cO)
theorem cB.Mq:cB c n .Gt (.int a) (.int b) (decide (b<a)):= λ A O s eR eQ R K bE bB=>by
 refine bh.ek bE λ t=>bh.ek bB λ u=>?_;exact gt_int (Res.here K.br cO)
theorem cB.Vg:cB c n .GtE (.int a) (.int b) (decide (b≤a)):= λ A O s eR eQ R K bE bB=>by
 refine bh.ek bE λ t=>bh.ek bB λ u=>?_;exact ge_int (Res.here K.br cO)
theorem cB.Mr{x y:Str}:cB c n .Eq (.str x) (.str y) (x==y):= λ A O s eR eQ R K bE bB=>by
 refine bh.rg bE λ t=>bh.rg bB λ u=>?_;exact PyProof.Rows.eq_str (Res.here K.br cO)
theorem cB.Ud{x y:Str}:cB c n .NotEq (.str x) (.str y) (x !=y):= λ A O s eR eQ R K bE bB=>by
 refine bh.rg bE λ t=>bh.rg bB λ u=>?_;exact PyProof.Rows.ne_str (Res.here K.br cO)
noncomputable def D.isNone:D→Bool
 |.none=>true
 |_=>false
set_option tactic.hygienic true in
theorem bh.B0{w:a0}{h:Heap}{v:ag}{d:D}(hd:d.seen=true)(r:bh w O h v d):(v==.none)=d.isNone:=by
 cases d
 case none=>subst r;rfl
 case bool b=>subst r;rfl
 case int i=>exact bh.ek r λ t=>rfl
 case str x=>exact bh.rg r λ t=>rfl
 case tup ds=>exact bh.qh r λ a z z z z=>rfl
 case lst ds=>exact bh.n6 r λ a z z z z=>rfl
 case dm xs=>exact bh.sj r λ a z z z z z z=>rfl
 case k8 k st=>exact bh.yn r λ a z z z z z z=>rfl
 case inst C fs=>exact bh.qE r λ a z z z z z z z z z z=>rfl
 case dK sN=>exact bh.Cc r λ a z z z z z z=>rfl
 case D7 x y=>exact bh.EW r λ a z z z z z=>rfl
 case lit=>exact absurd hd ew
 case any=>exact absurd hd ew
theorem cB.NB{d:D}(hd:autoParam (d.seen=true) rf):cB c n .Is d .none d.isNone:= λ A O s eR eQ R K bE bB=>by
 have e:=bE.B0 hd;subst bB;exact is_none (by rw[e];exact Res.here K.br cO)
theorem cB.vF{d:D}(hd:autoParam (d.seen=true) rf):cB c n .IsNot d .none (!d.isNone):= λ A O s eR eQ R K bE bB=>by
 have e:=bE.B0 hd;subst bB;exact isNot_none (by rw[e];exact Res.here K.br cO)
theorem kA.int:kA c n (.int a) (a !=0):= λ A O s v R K r=>by
 refine bh.ek r λ t=>?_;exact PyProof.Rows.truthy_int ⟨rfl,.refl ..,K.br⟩
theorem kA.bool{b:Bool}:kA c n (.bool b) b:= λ A O s v R K r=>by
 subst r;exact iU ⟨rfl,.refl ..,K.br⟩
theorem kA.list{ds:List D}(hl:ds.length≤1000):kA c n (.lst ds) (!ds.isEmpty):= λ A O s v R K r=>by
 refine bh.n6 r ?_;clear r;intro a vs ha h r;have e:=r.length;refine wpAny_truthy_list h.isList (by simp only[a_];lia) ⟨?_,(aB.refl ..).toks,K.br.toks⟩;cases vs<;>cases ds<;>simp at e⊢
end
end
noncomputable def D.Q(n:Nat)(d:D)(p:PyData):Prop:=(∀w O h v,bh w O h v d→∃as,Reads h v p as)∧p.canLay0=true∧p.depth≤n
noncomputable def D.Qs(n:Nat)(ds:List D)(ps:List PyData):Prop:=(∀w O h vs,a7 w O h vs ds→∃as,ReadsAll h vs ps as)∧PyData.canLayAll0 ps=true∧PyData.depthAll ps≤n
section
variable {n:Nat}{d:D}{p:PyData}{ds:List D}{ps:List PyData}
theorem D.Q.int{i:Int}:D.Q n (.int i) (.int i):=⟨λ z z z z r=>bh.ek r λ t=>⟨_,.int i t⟩,rfl,bS _⟩
theorem D.Q.bool{b:Bool}:D.Q n (.bool b) (.bool b):=⟨λ z z z z r=>⟨_,Eq.symm (show _=Value.bool b from r)▸Reads.bool b⟩,rfl,bS _⟩
theorem D.Q.str{x:Str}(h:jM x=true):D.Q n (.str x) (.str x):=⟨λ z z z z r=>bh.rg r λ t=>⟨_,.str x t⟩,h,bS _⟩
theorem D.Qs.nil:D.Qs n [] []:=⟨λ z z z vs r=>by
 cases vs with
 |nil=>exact⟨_,.nil⟩
 |cons=>exact r.elim,rfl,bS _⟩
theorem D.Qs.cons(q:D.Q n d p)(t:D.Qs n ds ps):D.Qs n (d::ds) (p::ps):=⟨λ w O h vs r=>by
 cases vs with
 |nil=>exact r.elim
 |cons v vs=>exact xe (q.1 w O h v r.1) λ z h1=>xe (t.1 w O h vs r.2) λ z h2=>⟨_,.cons h1 h2⟩,aL.mpr ⟨q.2.1,t.2.1⟩,Nat.max_le.mpr ⟨q.2.2,t.2.2⟩⟩
theorem D.Qs.lst(t:D.Qs n ds ps):D.Q (n+1) (.lst ds) (.list ps):=⟨λ w O h v r=>by
 refine bh.n6 r λ a vs ha y2 r=>?_;refine bL y2 λ o m ho hc z hd=>?_;exact xe (t.1 w O h vs r) λ as q=>⟨_,.list ho hc hd q⟩,t.2.1,cX t.2.2⟩
theorem D.Qs.tup(t:D.Qs n ds ps):D.Q (n+1) (.tup ds) (.tuple ps):=⟨λ w O h v r=>by
 refine bL r λ a vs e ha y2 r'=>?_;subst e;refine nN y2 λ o ho hc m hd=>?_;exact xe (t.1 w O h vs r') λ as q=>⟨_,.tuple ho hc hd q⟩,t.2.1,cX t.2.2⟩
theorem D.Qs.map{α:Type}{f:α→D}{g:α→PyData}{xs:List α}(h:∀x∈xs,D.Q n (f x) (g x)):D.Qs n (xs.map f) (xs.map g):=by
 induction xs with
 |nil=>exact .nil
 |cons x xs ih=>exact .cons (h x (.head _)) (ih λ y hy=>h y (.tail _ hy))
end
section
variable {α:Type}[DecidableEq α]{g:α→PyData}(h:∀x y,(g x).eqv (g y)=decide (x=y))
include h
theorem Pj:∀xs ys:List α,PyData.eqvAll (xs.map g) (ys.map g)=decide (xs=ys):= λ xs=>by
 induction xs with
 |nil=>intro ys;cases ys<;>rfl
 |cons x xs ih=>
  intro ys;cases ys with
  |nil=>rfl
  |cons y ys=>
   show((g x).eqv (g y)&&PyData.eqvAll (xs.map g) (ys.map g))=_;rw[h,ih,← Bool.decide_and];exact decide_eq_decide.mpr List.cons_eq_cons.symm
theorem Bw(x:α)(xs:List α):((xs.map g).any λ y=>y.eqv (g x))=decide (x∈xs):=by
 rw[List.any_map];exact o4.mpr ⟨λ e=>cW (iV.mp e) λ y hy e=>decide_eq_true (of_decide_eq_true ((h y x).symm.trans e)▸hy),λ e=>iV.mpr ⟨x,of_decide_eq_true e,(h x x).trans (decide_eq_true rfl)⟩⟩
theorem LF(x:α)(xs:List α):((xs.map g).countP λ y=>y.eqv (g x))=xs.countP λ y=>decide (y=x):=by
 rw[List.countP_map];exact congrArg (λ f=>List.countP f xs) (funext λ y=>h y x)
end
section
variable {c:Cx}{n:Nat}
section
variable {d₁ d₂:D}{nz rp:PyData}{ds:List D}{ps:List PyData}
theorem cB.Vn(cq:d₁.Q 8 nz)(cM:d₂.Q 8 rp)(hn:1≤n):cB c n .Eq d₁ d₂ (nz.eqv rp):= λ A O s eR eQ R K bE bB=>
 xe (cq.1 _ _ _ _ bE) λ as mw=>xe (cM.1 _ _ _ _ bB) λ bs mU=>SeqAt.compareEq_reads mw mU cq.2.1 cM.2.1 (Vs hn cq.2.2 R.units) (Res.here K.br cO)
theorem cB.Ue(cq:d₁.Q 8 nz)(cM:d₂.Q 8 rp)(hn:1≤n):cB c n .NotEq d₁ d₂ (!nz.eqv rp):= λ A O s eR eQ R K bE bB=>
 xe (cq.1 _ _ _ _ bE) λ as mw=>xe (cM.1 _ _ _ _ bB) λ bs mU=>SeqAt.compareNe_reads mw mU cq.2.1 cM.2.1 (Vs hn cq.2.2 R.units) (Res.here K.br cO)
theorem cB.Uo(cq:d₁.Q 8 nz)(cM:D.Qs 7 ds ps)(hn:1≤n):cB c n .In d₁ (.lst ds) (ps.any λ y=>y.eqv nz):= λ A O s eR eQ R K bE bB=>
 xe (cq.1 _ _ _ _ bE) λ as mw=>xe (cM.lst.1 _ _ _ _ bB) λ bs mU=>SeqAt.in_list_reads mU mw cM.2.1 cq.2.1 (Pm hn cq.2.2 R.units) (Res.here K.br cO)
theorem cB.Nf(cq:d₁.Q 8 nz)(cM:D.Qs 7 ds ps)(hn:1≤n):cB c n .NotIn d₁ (.lst ds) (!ps.any λ y=>y.eqv nz):= λ A O s eR eQ R K bE bB=>
 xe (cq.1 _ _ _ _ bE) λ as mw=>xe (cM.lst.1 _ _ _ _ bB) λ bs mU=>SeqAt.notIn_list_reads mU mw cM.2.1 cq.2.1 (Pm hn cq.2.2 R.units) (Res.here K.br cO)
theorem cB.Wd(cq:d₁.Q 8 nz)(cM:D.Qs 7 ds ps)(hn:1≤n):cB c n .In d₁ (.tup ds) (ps.any λ y=>y.eqv nz):= λ A O s eR eQ R K bE bB=>
 xe (cq.1 _ _ _ _ bE) λ as mw=>xe (cM.tup.1 _ _ _ _ bB) λ bs mU=>SeqAt.in_tuple_reads mU mw cM.2.1 cq.2.1 (Pm hn cq.2.2 R.units) (Res.here K.br cO)
theorem cB.KB(cq:d₁.Q 8 nz)(cM:D.Qs 7 ds ps)(hn:1≤n):cB c n .NotIn d₁ (.tup ds) (!ps.any λ y=>y.eqv nz):= λ A O s eR eQ R K bE bB=>
 xe (cq.1 _ _ _ _ bE) λ as mw=>xe (cM.tup.1 _ _ _ _ bB) λ bs mU=>SeqAt.notIn_tuple_reads mU mw cM.2.1 cq.2.1 (Pm hn cq.2.2 R.units) (Res.here K.br cO)
end
noncomputable def D.ints(xs:List Int):List D:=xs.map D.int
noncomputable abbrev P_(xs:List Int):PyData:=.list (xs.map .int)
theorem Gr(x y:Int):(PyData.int x).eqv (.int y)=decide (x=y):=rfl
theorem zK(x y:List Int):(P_ x).eqv (P_ y)=decide (x=y):=Pj Gr x y
theorem oe{xs:List Int}:D.Qs n (D.ints xs) (xs.map .int):=.map λ z z=>.int
noncomputable def D.jl(xs:List (List Int)):List D:=xs.map λ l=>.lst (D.ints l)
theorem xB{xs:List (List Int)}:D.Qs (n+1) (D.jl xs) (xs.map P_):=.map λ z z=>oe.lst
theorem cB.Tt{xs ys:List Int}(hn:1≤n):cB c n .Eq (.lst (D.ints xs)) (.lst (D.ints ys)) (decide (xs=ys)):=zK xs ys▸cB.Vn oe.lst oe.lst hn
theorem cB.KH{xs ys:List Int}(hn:1≤n):cB c n .NotEq (.lst (D.ints xs)) (.lst (D.ints ys)) (!decide (xs=ys)):=zK xs ys▸cB.Ue oe.lst oe.lst hn
theorem cB.Ng{xs ys:List (List Int)}(hn:1≤n):cB c n .NotEq (.lst (D.jl xs)) (.lst (D.jl ys)) (!decide (xs=ys)):=Pj zK xs ys▸cB.Ue xB.lst xB.lst hn
theorem cB.RJ{x:Int}{xs:List Int}(hn:1≤n):cB c n .In (.int x) (.lst (D.ints xs)) (decide (x∈xs)):=Bw Gr x xs▸cB.Uo .int oe hn
theorem cB.Nc{x:Int}{xs:List Int}(hn:1≤n):cB c n .NotIn (.int x) (.lst (D.ints xs)) (!decide (x∈xs)):=Bw Gr x xs▸cB.Nf .int oe hn
theorem cB.RH{x:Int}{xs:List Int}(hn:1≤n):cB c n .In (.int x) (.tup (D.ints xs)) (decide (x∈xs)):=Bw Gr x xs▸cB.Wd .int oe hn
theorem cB.Nb{x:Int}{xs:List Int}(hn:1≤n):cB c n .NotIn (.int x) (.tup (D.ints xs)) (!decide (x∈xs)):=Bw Gr x xs▸cB.KB .int oe hn
theorem cB.KC{x:List Int}{xs:List (List Int)}(hn:1≤n):cB c n .NotIn (.lst (D.ints x)) (.lst (D.jl xs)) (!decide (x∈xs)):=((Bw zK x xs).trans (decide_eq_decide.mpr Iff.rfl):_=decide (x∈xs))▸cB.Nf oe.lst xB hn
theorem Jf{xs:List Str}(h:xs.all jM=true):D.Qs n (xs.map .str) (xs.map .str):=.map λ x hx=>.str (bf.mp h x hx)
theorem Pk(x y:Str):(PyData.str x).eqv (.str y)=decide (x=y):=rfl
theorem cB.RI{x:Str}{xs:List Str}(h1:jM x=true)(h2:xs.all jM=true)(hn:1≤n):cB c n .In (.str x) (.lst (xs.map .str)) (decide (x∈xs)):=Bw Pk x xs▸cB.Uo (.str h1) (Jf h2) hn
theorem cB.M_{x:Str}{xs:List Str}(h1:jM x=true)(h2:xs.all jM=true)(hn:1≤n):cB c n .NotIn (.str x) (.tup (xs.map .str)) (!decide (x∈xs)):=Bw Pk x xs▸cB.KB (.str h1) (Jf h2) hn
end
section
variable {c:Cx}{n:Nat}{E:VE}{ρ:List Sl}{O:List Addr}{s:ae}
theorem a7.app{w:a0}{h:Heap}{vs:List ag}{ds:List D}{us:List ag}{es:List D}(q:a7 w O h vs ds)(r:a7 w O h us es):a7 w O h (vs++us) (ds++es):=
 q.ind r λ z z z z q z ih=>⟨q,ih⟩
theorem yL{vs:List ag}{ds:List D}{tk:Nat}(K:Ok c O s)(r:a7 c.w O s.heap vs ds):Res c O s (.lst ds) (.ref s.heap.objs.size) {s with heap:=s.heap.push {cls:=.type "list",data:=.seq vs.toArray 0},toks:=tk}:=
 ⟨aB.push,K.br.push,by
  exact⟨_,vs,rfl,K.next,⟨_,0,av _ rfl,rfl,rfl,rfl⟩,(aB.push (c:=c) (G:=[]) (tk:=tk)).ka r⟩⟩
theorem tX{vs:List ag}{ds:List D}{tk:Nat}(K:Ok c O s)(r:a7 c.w O s.heap vs ds):Res c O s (.tup ds) (.ref s.heap.objs.size) {s with heap:=s.heap.push {cls:=.type "tuple",data:=.seq vs.toArray 0},toks:=tk}:=
 ⟨aB.push,K.br.push,by
  exact⟨_,vs,rfl,K.next,⟨_,av _ rfl,rfl,0,rfl⟩,(aB.push (c:=c) (G:=[]) (tk:=tk)).ka r⟩⟩
theorem gF.TR{xs ys:List D}(hz:xs.length+ys.length≤1000):gF c n .Add (.lst xs) (.lst ys) (.lst (xs++ys)):= λ A O s eR eQ R K bE bB=>by
 have nY:=bE;obtain⟨l,vs,rfl,_,⟨⟨cls,dd,data,sl⟩,m,ho,hc,xG,hd⟩,mw⟩:=bE;obtain⟨b,ws,rfl,_,⟨⟨TK,LC,data2,MP⟩,m2,wu,Dw,Xd,Bj⟩,mU⟩:=bB;simp only at hc hd Dw Bj;subst hc hd Dw Bj;have e:vs.toArray++ws.toArray=(vs++ws).toArray:=by simp
 refine xW ⟨_,ho,rfl⟩ ⟨_,wu,rfl⟩ noFill_list_add seq_list_add PySem.F.slot_list_add PySem.F.entry_list_add (PySem.F.args_list_add_2 _ _) (list_addW l b vs.toArray ws.toArray m m2 dd LC sl MP (cQ (by simp only[a_,mw.length,mU.length];omega))) ⟨ho,wu,?_⟩;rw[e];exact yL K (mw.app mU)
theorem gF.IY{xs ys:List D}(hz:xs.length+ys.length≤1000):gF c n .Add (.tup xs) (.tup ys) (.tup (xs++ys)):= λ A O s eR eQ R K bE bB=>by
 have nY:=bE;have qo:=bB;obtain⟨t,vs,rfl,_,⟨⟨cls,dd,data,sl⟩,ho,hc,m,hd⟩,mw⟩:=bE;obtain⟨b,ws,rfl,_,⟨⟨TK,LC,data2,MP⟩,wu,Dw,m2,Bj⟩,mU⟩:=bB;simp only at hc hd Dw Bj;subst hc hd Dw Bj;have qz:=mw.length;have l₂:=mU.length;have e:vs.toArray++ws.toArray=(vs++ws).toArray:=by simp
 by_cases hv:vs=[]
 ·have:xs=[]:=by subst hv;exact gc.mp qz.symm
  subst this;refine xW ⟨_,ho,rfl⟩ ⟨_,wu,rfl⟩ z5 seq_tuple_add nJ m_ (mJ _ _)
   (tuple_addW0 t b vs.toArray ws.toArray m m2 dd LC sl MP (by simp[hv])) ⟨ho,wu,?_⟩
  exact Res.tok K.br qo
 ·by_cases hw:ws=[]
  ·have:ys=[]:=by subst hw;exact gc.mp l₂.symm
   subst this;refine xW ⟨_,ho,rfl⟩ ⟨_,wu,rfl⟩ z5 seq_tuple_add nJ m_ (mJ _ _)
    (tuple_addW1 t b vs.toArray ws.toArray m m2 dd LC sl MP (by simpa using hv) (by simp[hw])) ⟨ho,wu,?_⟩
   rw[bK];exact Res.tok K.br nY
  ·refine xW ⟨_,ho,rfl⟩ ⟨_,wu,rfl⟩ z5 seq_tuple_add nJ m_ (mJ _ _)
    (tuple_addW2 t b vs.toArray ws.toArray m m2 dd LC sl MP (by simpa using hv) (by simpa using hw) (cQ (by simp only[a_,qz,l₂];omega))) ⟨ho,wu,?_⟩
   rw[e];exact tX K (mw.app mU)
theorem fm{slice:Expr}{o i:ag}(h:∀l u t p,slice≠.Slice l u t p):subscripted slice false o i=operate [o,i] (getItem o i):=by
 cases slice<;>first|rfl|exact absurd rfl (h _ _ _ _)
theorem Sub.list{ds:List D}{i:Int}{d:D}(h0:0≤i)(hi:ds[i.toNat]? =some d)(hz:ds.length≤1000):Mine.Sub c n (.lst ds) (.int i) d:= λ A O s value slice eR eQ R K hs bE bB=>by
 refine bh.n6 bE ?_;clear bE;intro a vs z hl q;refine bh.ek bB ?_;clear bB;intro t;have hl:=hl.isList;refine cW (q.at hi) λ v hv r=>?_;have gy:=(ay.mp hi).1;exact DP hl.typeIs slot_list_getitem.lookup (wpAny_getItem_list (x:=v) hl h0 (by lia) (by simpa using hv) (Res.here K.br r)) (fm hs)
theorem Sub.tup{ds:List D}{i:Int}{d:D}(h0:0≤i)(hi:ds[i.toNat]? =some d)(hz:ds.length≤1000):Sub c n (.tup ds) (.int i) d:= λ A O s value slice eR eQ R K hs bE bB=>by
 refine bh.qh bE ?_;clear bE;intro a vs z hl q;refine bh.ek bB ?_;clear bB;intro t;refine cW (q.at hi) λ v hv r=>?_;have gy:=(ay.mp hi).1;have hlen:=q.length;refine DP hl.typeIs PyProof.Rows.slot_tuple_getitem.lookup (getItem_tuple (x:=v) (j:=i.toNat) hl (by exact Wf h0 rfl) (by lia) ?_ (by simpa using hv) (Res.here K.br r)) (fm hs);have h1:¬i<0:=sW.mpr h0;have h2:i<(vs.length:Int):=V7 h0 (hlen▸gy);unfold seqIndex?;simp[h1,h0,h2]
theorem Ev.sub{e i:Expr}{pos:Pos}{d₁ d₂ d:D}(cq:Ev c n E ρ e d₁)(cM:Ev c n E ρ i d₂)(h:Sub c n d₁ d₂ d)(hs:∀l u t p,i≠.Slice l u t p:=by intros;simp):Ev c n E ρ (.Subscript e i pos) d:= λ A β O ad s R I=>
 Subscript_ (cq.go R I λ v au cY bj bE=>cM.go R bj λ u aH cE ct bB=>wm (h A O aH e i v u R ct.o hs (cE.rep0 bE) bB) λ z z q=>q.after (cY.trans cE))
end
section
variable {c:Cx}{n:Nat}{E:VE}{ρ:List Sl}{O:List Addr}{s:ae}
theorem yI{w:a0}{h:Heap}{ks:List (Str×ag)}(r:eA w O h ks []):ks=[]:=by
 cases ks with
 |nil=>rfl
 |cons _ _=>exact r.elim
theorem wd{w:a0}{h:Heap}{d:D}{ds:List D}:∀{vs:List ag},a7 w O h vs (d::ds)→∃v us,vs=v::us∧bh w O h v d∧a7 w O h us ds:=by
 intro w
 induction w with
 |nil=>
  intro r;exact r.elim
 |cons v us ih=>
  intro r;exact⟨v,us,rfl,r⟩
theorem E4{w:a0}{h:Heap}:∀{vs:List ag},a7 w O h vs []→vs=[]:=by
 intro w
 induction w with
 |nil=>
  intro z;exact rfl
 |cons _ _ ih=>
  intro r;exact r.elim
theorem AV{w:a0}{h:Heap}{vs:List ag}{d:D}(r:a7 w O h vs [d]):∃v,vs=[v]∧bh w O h v d:=by
 obtain⟨v,us,rfl,h1,h2⟩:=wd r;cases E4 h2;exact⟨v,rfl,h1⟩
theorem Kp{w:a0}{h:Heap}{vs:List ag}{d e:D}(r:a7 w O h vs [d,e]):∃v u,vs=[v,u]∧bh w O h v d∧bh w O h u e:=by
 obtain⟨v,us,rfl,h1,h2⟩:=wd r;obtain⟨u,rfl,h3⟩:=AV h2;exact⟨v,u,rfl,h1,h3⟩
@[elab_as_elim] theorem fG {w:a0} {h:Heap} {ks:List (Str×ag)} {M:List (Str×ag)→Prop} (r:eA w O h ks []) (k:M []):M ks:=(yI r).symm▸k
@[elab_as_elim] theorem fy {w:a0} {h:Heap} {vs:List ag} {d:D} {M:List ag→Prop} (r:a7 w O h vs [d]) (k:∀v,bh w O h v d→M [v]):M vs:=by obtain⟨v,rfl,h⟩:=AV r;exact k v h
@[elab_as_elim] theorem pw {w:a0} {h:Heap} {vs:List ag} {d e:D} {M:List ag→Prop} (r:a7 w O h vs [d,e]) (k:∀v u,bh w O h v d→bh w O h u e→M [v,u]):M vs:=by obtain⟨v,u,rfl,h,h'⟩:=Kp r;exact k v u h h'
theorem a7.take{w:a0}{h:Heap}{k:Nat}{vs:List ag}{ds:List D}(r:a7 w O h vs ds):a7 w O h (vs.take k) (ds.take k):=
 a7.ind (M:= λ vs ds=>∀k,a7 w O h (vs.take k) (ds.take k)) r (λ k=>by cases k<;>trivial) (λ z z z z q z ih k=>by
  cases k with
  |zero=>trivial
  |succ k=>exact⟨q,ih k⟩) k
theorem a7.drop{w:a0}{h:Heap}{k:Nat}{vs:List ag}{ds:List D}(r:a7 w O h vs ds):a7 w O h (vs.drop k) (ds.drop k):=
 a7.ind (M:= λ vs ds=>∀k,a7 w O h (vs.drop k) (ds.drop k)) r (λ k=>by cases k<;>trivial) (λ z z z z q r ih k=>by
  cases k with
  |zero=>exact⟨q,r⟩
  |succ k=>exact ih k) k
theorem Fn.xw{ds:List D}(hz:ds.length≤1000):Fn c n (.builtin "len") [.tup ds] [] (.int ds.length):= λ A O s vs ks R K ej r'=>by
 refine fy ej λ v r=>?_;refine fG r' ?_;refine bh.qh r ?_;clear r;intro a vs z hl q;have e:(vs.toArray.size:Int)=ds.length:=by rw[← q.length];rfl
 exact len_tuple hl (by lia) (by rw[e];exact Res.tok K.br fq)
theorem Fn.la{ds:List D}(hz:ds.length≤1000):Fn c n (.builtin "len") [.lst ds] [] (.int ds.length):= λ A O s vs ks R K ej r'=>by
 refine fy ej λ v r=>?_;refine fG r' ?_;refine bh.n6 r ?_;clear r;intro a vs z hl q;have e:(vs.toArray.size:Int)=ds.length:=by rw[← q.length];rfl
 exact call_len_list hl.isList (by lia) (by rw[e];exact Res.tok K.br fq)
theorem Fn.yY{xs:List Nat}:Fn c n (.builtin "len") [.dm xs] [] (.int xs.length):= λ A O s vs ks R K ej r'=>by
 refine fy ej λ v r=>?_;refine fG r' ?_;refine bh.sj r ?_;clear r;intro a ts m z ho hl ic;have h4:=ic.length_le;simp only[aJ,dp]at h4;have e:((aT xs ts).toArray.size:Int)=xs.length:=by simp[aT,hl]
 have It:(dc c.w xs).fits (aT xs ts).toArray.size=true:=by
  simp[pT,dc,aT,hl,mj];exact af h4 (aG _ _)
 exact call_len_set ho ⟨rfl,rfl,rfl⟩ rfl It (by lia) (by rw[e];exact Res.tok K.br fq)
theorem Fn.abs{a:Int}:Fn c n (.builtin "abs") [.int a] [] (.int a.natAbs):= λ A O s vs ks R K ej r'=>by
 refine fy ej λ v r=>?_;refine fG r' ?_;refine bh.ek r λ t=>?_;exact call_abs_int λ u tk=>by
  rw[show(if a<0 then -a else a)=(a.natAbs:Int) by split;exact(Int.ofNat_natAbs_of_nonpos (bJ (by assumption))).symm;exact(qR (sW.mp (by assumption))).symm];exact Res.tok K.br fq
theorem yK{a b:Int}{t u v:Tok}{tk:Nat}(K:Ok c O s):Res c O s (.D7 a b) (.ref s.heap.objs.size) {s with heap:=s.heap.push (AQ a b t u v),toks:=tk}:=
 ⟨aB.push,K.br.push,by exact⟨_,t,u,v,rfl,K.next,av _ rfl⟩⟩
theorem Fn.AY{b:Int}:Fn c n (.type "range") [.int b] [] (.D7 0 b):= λ A O s vs ks R K ej r'=>by
 refine fy ej λ v r=>?_;refine fG r' ?_;refine bh.ek r λ t=>?_;exact call_range_1 (yK K)
theorem Fn.Kt{a b:Int}:Fn c n (.type "range") [.int a,.int b] [] (.D7 a b):= λ A O s vs ks R K ej r'=>by
 refine pw ej λ v u r q=>?_;refine fG r' ?_;refine bh.ek r λ t=>?_;refine bh.ek q λ t'=>?_;exact call_range_2 (yK K)
theorem tY{vs:List ag}{ds:List D}{vl vu:ag}(K:Ok c O s)(r:a7 c.w O s.heap vs ds):
  Res c O s (.lst ds) (.ref (s.heap.objs.size+1)) {s with heap:=(s.heap.push {cls:=.type "slice",data:=.fields #[vl,vu,.none]}).push {cls:=.type "list",data:=.seq vs.toArray}}:=by
 have x:aB c [] [] s {s with heap:=s.heap.push {cls:=.type "slice",data:=.fields #[vl,vu,.none]}}:=.push;have S:=K.br.push (o:={cls:=.type "slice",data:=.fields #[vl,vu,.none]}) (tk:=s.toks);have:=yL (tk:=s.toks) (K.fT x S) (x.ka r);rw[aW]at this;exact this.after x
theorem Ev.MC{e:Expr}{k:Int}{x:Nat}{p p' pos:Pos}{ds:List D}(h:Ev c n E ρ e (.lst ds))(hk:0≤k)(hz:ds.length≤1000)(ht:∀o r,letTemporaryGo e o r=pure ():=by intro z z;rfl):Ev c n E ρ (.Subscript e (.Slice none (some (.Constant (.int k) x p)) none p') pos) (.lst (ds.take k.toNat)):= λ A β O ad s R I=>
 D0 (h.go R I λ v au cY bj bE=>by
  dsimp only[evalPart_none];refine ah ?_;dsimp only[evalPart_some];refine(Ev.int (c:=c) (n:=n)).go R bj λ u aH cE ct bB=>?_;have bE:=cE.rep0 bE;refine bh.n6 bE ?_;clear bE;intro l vs z hl q;refine bh.ek bB ?_;clear bB;intro t;have Eb:=q.length;refine⟨l,vs.toArray,none,some k,rfl,hl.isList,cQ (by simp;exact af (de Eb) hz),.none,.int _ _,?_⟩;rw[(rZ (show 0≤k by assumption)).symm,slicePick_upto'];exact(tY ct.o (q.take (k:=k.toNat))).after (cY.trans cE)) ht
theorem Ev.from{e:Expr}{k:Int}{x:Nat}{p p' pos:Pos}{ds:List D}(h:Ev c n E ρ e (.lst ds))(hk:0≤k)(hz:ds.length≤1000)(ht:∀o r,letTemporaryGo e o r=pure ():=by intro z z;rfl):Ev c n E ρ (.Subscript e (.Slice (some (.Constant (.int k) x p)) none none p') pos) (.lst (ds.drop k.toNat)):= λ A β O ad s R I=>
 D0 (h.go R I λ v au cY bj bE=>by
  dsimp only[evalPart_some];refine(Ev.int (c:=c) (n:=n)).go R bj λ u aH cE ct bB=>?_;dsimp only[evalPart_none];refine ah ?_;have bE:=cE.rep0 bE;refine bh.n6 bE ?_;clear bE;intro l vs z hl q;refine bh.ek bB ?_;clear bB;intro t;have Eb:=q.length;refine⟨l,vs.toArray,some k,none,rfl,hl.isList,cQ (by simp;lia),.int _ _,.none,?_⟩;rw[(rZ (show 0≤k by assumption)).symm,slicePick_from'];exact(tY ct.o (q.drop (k:=k.toNat))).after (cY.trans cE)) ht
theorem lM.lookup{w:a0}{h:Heap}{ps:List (Int×ag)}{fs:List (Int×D)}{x:Int}{d:D}(r:lM w O h ps fs):fs.lookup x=some d→∃v,ps.lookup x=some v∧bh w O h v d:=
 r.ind (λ e=>by cases e) λ y v vs d ds q z ih e=>by
  rw[aX]at e⊢;cases hx:x==y with
  |true=>rw[hx]at e;cases e;exact⟨_,rfl,q⟩
  |false=>rw[hx]at e;exact ih e
theorem Sub.dK{sN:List (Int×D)}{i:Int}{d:D}(hi:sN.lookup i=some d):Mine.Sub c n (.dK sN) (.int i) d:= λ A O s value slice eR eQ R K hs bE bB=>by
 refine bh.Cc bE ?_;clear bE;intro a f ps z hm hf q;refine bh.ek bB ?_;clear bB;intro t;refine cW (q.lookup hi) λ v hv r=>?_;exact DP hm.typeIs nI.lookup (wpAny_getItem_intMap hm (hf _ _ hv) (Res.tok K.br r)) (fm hs)
end
section
variable {c:Cx}{n:Nat}{E:VE}{ρ ρ':List Sl}{O:List Addr}{s:ae}
theorem tT{A:aK}{X:ag→ae→Prop}{l:Addr}{items:Array ag}{k:Int}{t:Tok}{v:ag}{Q:Unit→ae→Prop}(hl:eC s.heap l items)(h0:0≤k)(It:k<2^63)(hn:k<items.size)(hQ:∀h',eC h' l (items.setIfInBounds k.toNat v)→c7 l s.heap h'→Q () {s with heap:=h'}):
  wpAny (model c.prog c.w) A (setItem (.ref l) (.int k t) v) Q X s:=by
 have hT:=hl.isList.typeIs;obtain⟨⟨cls,dd,dt,sl⟩,n,ho,hc,xG,hd⟩:=id hl;simp only at hc xG hd;subst hc xG hd;refine aV (aa (wpAny_sequenceKey hT (by decide) ?_));refine aa (cC (name:=d_ "__setitem__") hT slot_list_setitem (bO slot_list_setitem hT entry_list_setitem ?_ (args_list_setitem _ _ _)));show wpAny _ _ (Builtin.List.listSubscript? (.int k t)>>=_) _ _ s;have hf:=fitsIndex_of h0 It;refine aa (wpAny_listSubscript_int hf ?_);clear hf It;obtain⟨j,rfl⟩:=dh h0;have hj:j<items.size:=by exact cz.mp hn
 show wpAny _ _ ((seqItemAt l j>>= λ r=>pure (r.map (j,·)))>>=_) _ _ s;refine aa (aa (wpAny_seqItemAt ho rfl (ah ?_)));rw[mK hj];show wpAny _ _ (setSeqItemAt l j v>>=_) _ _ s;refine aa (wpAny_setSeqItemAt ho rfl ?_);obtain⟨n',iP⟩:=x4 (o:={cls:=.type "list",dict:=none,data:=.seq items n,slots:=sl}) rfl (·.setIfInBounds j v);have Gb:eC (s.heap.update l (aP (·.setIfInBounds j v))) l (items.setIfInBounds j v):=
  ⟨_,n',b0 _ ho (s5 iP),(z7 ..).trans rfl,rfl,iP⟩
 exact ah ⟨.none,rfl,ah (hQ _ Gb (bC ..))⟩
theorem Tr.tO(i:Nat){x:Str}{q:OD}{d:D}{e:Expr}{b:Bool}(hx:E.vn[i]? =some x)(dQ:ρ[i]? =some (.own true q))(hq:q.Bl=some d)(h:Tr c n E (ρ.set i (.val d)) e b):Tr c n E ρ e b:= λ A β O ad s R I=>
 h A β _ _ s R (I.freeze hx dQ hq)
theorem xV.tO(i:Nat){x:Str}{q:OD}{d d':D}{e:Expr}(hx:E.vn[i]? =some x)(dQ:ρ[i]? =some (.own true q))(hq:q.Bl=some d)(h:xV c n E (ρ.set i (.val d)) e d'):xV c n E ρ e d':= λ A β O ad s R I=>
 h A β _ _ s R (I.freeze hx dQ hq)
theorem Ev.tO(i:Nat){x:Str}{q:OD}{d d':D}{e:Expr}(hx:E.vn[i]? =some x)(dQ:ρ[i]? =some (.own true q))(hq:q.Bl=some d)(h:Ev c n E (ρ.set i (.val d)) e d')(hd:autoParam (d'.flat=true) rf):Ev c n E ρ e d':=
 (xV.tO i hx dQ hq (h.flat hd)).ev
theorem ba.append(i:Nat){x:Str}{p apos pos pos':Pos}{e:Expr}{ds:List D}{d:D}(h:Ev c n E ρ e d)(hx:E.vn[i]? =some x)(dQ:ρ[i]? =some (.own true (.lst ds)))(hz:ds.length≤900)(i9:autoParam (attributeBase (.Name x p) "append" E.env (eval (.Name x p) E.env)=eval (.Name x p) E.env) rf)(rI:autoParam (((backTo pos (starEach [e] E.env)).all (λ x=> !x.1)&&(backToKw pos (keywordEach [] E.env)).all (λ x=>x.1.isSome)
   &&decide (([e]:List Expr).length+([]:List dU).length+(if([]:List dU).isEmpty then 0 else 1)<30))=true) rf)(iO:autoParam ((apos.endLine==pos.line)=true) rf)(ur:autoParam (backTo pos (starEach [e] E.env)=[(false,eval e E.env)]) rf)(hi:autoParam (interactive E.env=false) rf)(hs:autoParam (swapsWith (.Call (.Attribute (.Name x p) "append" apos) [e] [] pos) none pos'.line E.env=pure false) rf):
  ba c n E ρ (.Expr (.Call (.Attribute (.Name x p) "append" apos) [e] [] pos) pos') (.next (ρ.set i (.own true (.lst (ds++[d]))))):= λ A β s R w0=>by
 refine iz w0 ?_;clear w0;intro O ad I;refine gW (oN i9 rI iO ur ?_) hi hs;refine cH (I.slot hx dQ) λ v b r k=>?_;refine I.read hx b ?_;refine bL r ?_;clear r;intro a vs z1 jx hl hr;subst z1;refine⟨a,_,rfl,hl,h.go R I λ y aH iQ ct bB=>?_⟩;refine cH (ct.slot hx dQ) λ v' b' r' k'=>?_;refine bL r' ?_;clear r';intro a' i6 z1 i0 nC Ec;subst z1;have:a'=a:=by rw[jx]at i0;simpa using i0.symm
 subst this;have sO:=Ec.length;refine c9 (kn nC (λ h' uw eO up=>?_) (cQ (by simp only[a_];exact u_ sO hz rfl)));have kz:a'∈ad i:=by rw[i0];exact .head _
 refine bL nC ?_;clear nC;intro mV Fh jm og z ig;have g:aB c [a'] [] aH {aH with heap:=h'}:=SameBut.grow (tk:=aH.toks) eO jm (c0 ig);have S:bF c {aH with heap:=h'}:=SameBut.br (tk:=aH.toks) ct.br eO (ct.low _ (k' _ kz).1);have mi:tu [a'] O aH:= λ b hb=>by obtain rfl:=m1 hb;exact .inl (k' _ kz).1
 refine⟨rfl,[]++O,_,ct.jj (N:=[]) (fp:=ad i) hx dQ g S (λ b hb=>by obtain rfl:=m1 hb;exact kz) b' ⟨a',i6++[y],rfl,i0,by simpa using uw,(g.fj mi (.refl O aH) Ec).append (g.rep mi (.refl O aH) bB)⟩ (λ z=>nn) λ b hb=>.inl hb⟩
theorem lM.cons{w:a0}{h:Heap}{ps:List (Int×ag)}{sN:List (Int×D)}{k:Int}{v:ag}{d:D}(r:bh w O h v d)(q:lM w O h ps sN):lM w O h ((k,v)::ps) ((k,d)::sN):=by exact⟨rfl,r,q⟩
theorem ba.Q4(i:Nat){x:Str}{p p' pos:Pos}{ke e:Expr}{m:Nat}{sN:List (Int×D)}{k:Int}{d:D}(h:Ev c n E ρ e d)(Sq:Ev c n E ρ ke (.int k))(hx:E.vn[i]? =some x)(dQ:ρ[i]? =some (.own true (.dK m sN)))(hm:m≤900)(hs:autoParam (swapsWith e (some (.Subscript (.Name x p) ke p')) pos.line E.env=pure false) rf):ba c n E ρ (.Assign [.Subscript (.Name x p) ke p'] e pos) (.next (ρ.set i (.own true (.dK (m+1) ((k,d)::sN))))):= λ A β s R w0=>iz w0 λ O ad I=>
 lu (h.go R I λ v au qH bj r=>by
  refine cH (bj.slot hx dQ) λ u b o j=>?_;refine c8 o ?_;clear o;intro a f ps z1 jx zh;refine b_ zh ?_;clear zh;intro hf hl hp q;subst z1;refine bj.read hx b (Sq.go R bj λ u aH iQ ct bB=>?_);refine cH (ct.slot hx dQ) λ u' b' o' k'=>?_;refine c8 o' ?_;clear o';intro a' f' C7 z1 i0 zh;refine b_ zh ?_;clear zh;intro Mh nC Ao q';subst z1;have:a'=a:=by rw[jx]at i0;simpa using i0.symm
  subst this;refine bh.ek bB ?_;clear bB;intro t;refine wpAny_setItem_intMap_le Mh nC (cQ (by exact rC hm rfl)) λ h' Sy uw eO=>?_;have kz:a'∈ad i:=by rw[i0];exact .head _
  refine cI Mh ?_;clear Mh;intro mV Gq Gs jm og ig j;have g:aB c [a'] [] aH {aH with heap:=h',toks:=aH.toks+1}:=SameBut.grow eO jm (cP ig);have S:bF c {aH with heap:=h',toks:=aH.toks+1}:=SameBut.br ct.br eO (ct.low _ (k' _ kz).1);have mi:tu [a'] O aH:= λ b hb=>by obtain rfl:=m1 hb;exact .inl (k' _ kz).1
  refine⟨rfl,[]++O,_,ct.jj (N:=[]) (fp:=ad i) hx dQ g S (λ b hb=>by obtain rfl:=m1 hb;exact kz) b' ⟨a',_,(k,v)::C7,rfl,i0,Sy,uw,λ y z hy=>?_,lM.cons (g.rep mi (.refl O aH) (iQ.rep0 r)) (g.Kq mi (.refl O aH) q')⟩ (λ j=>nn) λ b hb=>.inl hb⟩;dsimp only[aX]at hy;cases Il:y==k with
  |true=>rw[Il]at hy;rw[if_pos (by simpa using Il)];exact hy
  |false=>rw[Il]at hy;rw[if_neg (by simpa using Il)];exact Ao y z hy) hs
theorem a7.set{w:a0}{h:Heap}{v:ag}{d:D}{k:Nat}{vs:List ag}{ds:List D}(r:bh w O h v d)(q:a7 w O h vs ds):a7 w O h (vs.set k v) (ds.set k d):=
 a7.ind (M:= λ vs ds=>∀k,a7 w O h (vs.set k v) (ds.set k d)) q (λ z=>trivial) (λ z z z z q q' ih k=>by
  cases k with
  |zero=>exact⟨r,q'⟩
  |succ k=>exact⟨q,ih k⟩) k
theorem ba.pv(i:Nat){x:Str}{p p' pos:Pos}{ke e:Expr}{ds:List D}{k:Int}{d:D}(h:Ev c n E ρ e d)(Sq:Ev c n E ρ ke (.int k))(hx:E.vn[i]? =some x)(dQ:ρ[i]? =some (.own true (.lst ds)))(h0:0≤k)(hk:k<ds.length)(hz:ds.length≤900)(hs:autoParam (swapsWith e (some (.Subscript (.Name x p) ke p')) pos.line E.env=pure false) rf):ba c n E ρ (.Assign [.Subscript (.Name x p) ke p'] e pos) (.next (ρ.set i (.own true (.lst (ds.set k.toNat d))))):= λ A β s R w0=>iz w0 λ O ad I=>
 lu (h.go R I λ v au qH bj r=>by
  refine cH (bj.slot hx dQ) λ u b o z=>?_;refine bL o ?_;clear o;intro a vs z1 jx hl q;subst z1;refine bj.read hx b (Sq.go R bj λ u aH iQ ct bB=>?_);refine cH (ct.slot hx dQ) λ u' b' o' k'=>?_;refine bL o' ?_;clear o';intro a' i6 z1 i0 nC q';subst z1;have:a'=a:=by rw[jx]at i0;simpa using i0.symm
  subst this;refine bh.ek bB ?_;clear bB;intro t;have Eb:=q'.length;have kz:a'∈ad i:=by rw[i0];exact .head _
  refine bL (id nC) λ mV rq jm og Ld ig=>?_;refine tT nC h0 (by lia) (by simp;exact Eb▸hk) λ h' uw eO=>?_;have g:aB c [a'] [] aH {aH with heap:=h'}:=SameBut.grow (tk:=aH.toks) eO jm (c0 ig);have S:bF c {aH with heap:=h'}:=SameBut.br (tk:=aH.toks) ct.br eO (ct.low _ (k' _ kz).1);have mi:tu [a'] O aH:= λ b hb=>by obtain rfl:=m1 hb;exact .inl (k' _ kz).1
  refine⟨rfl,[]++O,_,ct.jj (N:=[]) (fp:=ad i) hx dQ g S (λ b hb=>by obtain rfl:=m1 hb;exact kz) b' ⟨a',i6.set k.toNat v,rfl,i0,by simpa using uw,a7.set (g.rep mi (.refl O aH) (iQ.rep0 r)) (g.fj mi (.refl O aH) q')⟩ (λ z=>nn) λ b hb=>.inl hb⟩) hs
end
structure Wk(c:Cx)(A:aK)(tg:Expr)(it:ag)(k:Snap)(F:List Addr)(G:List Nat)(P:List Addr→List D→ae→Prop):Prop where
 T:nM c A tg it k G P
 hW:∀a∈F,(a∈k.O∨k.s.heap.objs.size≤a)∧a∉k.K
 hB:∀a∈F,c.B≤a
 hO:∀a∈k.O,a<k.s.heap.objs.size
 hK:∀a∈k.K,a<k.s.heap.objs.size
 hz:c.B≤k.s.heap.objs.size
 ht:∀v,letOwnedTupleGo tg it v=pure ()
section
variable {c:Cx}{n:Nat}{E:VE}{ρ ρ':List Sl}{O:List Addr}{s:ae}
section
variable {A:aK}{tg:Expr}{it:ag}{k:Snap}{F F':List Addr}{G:List Nat}{P:List Addr→List D→ae→Prop}
theorem Wk.up(K:Wk c A tg it k F G P){s s':ae}(hs:cA c k s)(hu:rU F F' s s'):Wk c A tg it k F' G P:=
 ⟨K.T,λ a ha=>(hu a ha).elim (K.hW a) λ h=>⟨.inr (af hs.size h.1),λ hk=>ak _ (ab (K.hK a hk) (af hs.size h.1))⟩,λ a ha=>(hu a ha).elim (K.hB a) λ h=>af K.hz (af hs.size h.1),K.hO,K.hK,K.hz,K.ht⟩
theorem Wk.next(K:Wk c A tg it k F G P){ds:List D}{d:D}{s:ae}(S:bF c s)(hs:cA c k s)(p:P F (d::ds) s){α:Type}{f:Option ag→Sem α}{Q:α→ae→Prop}{X:ag→ae→Prop}(h:∀v s' F',aB c F G s s'→bF c s'→cA c k s'→rU F F' s s'→Wk c A tg it k F' G P→uU c k F' s s' v d→P F' ds s'→wpAny (model c.prog c.w) A (f (some v)) Q X s'):wpAny (model c.prog c.w) A (pyNext it>>=f) Q X s:=
 wb (K.T.next S hs K.hB p) λ r au q=>by
  refine cW q ?_;clear q;intro v z1 q;subst z1;rw[K.ht]at q;show wpAny _ _ (pure ()>>= λ z=>f (some v)) Q X au;refine aa (wm q λ z s' q=>?_);refine tx q ?_;clear q;intro x S' F' hu r p';exact h v s' F' x S' (hs.step x K.hW) hu (K.up hs hu) r p'
theorem Wk.done(K:Wk c A tg it k F G P){s:ae}(S:bF c s)(hs:cA c k s)(p:P F [] s){α:Type}{f:Option ag→Sem α}{Q:α→ae→Prop}{X:ag→ae→Prop}(h:∀s',aB c F G s s'→bF c s'→wpAny (model c.prog c.w) A (f none) Q X s'):wpAny (model c.prog c.w) A (pyNext it>>=f) Q X s:=
 wb (K.T.done S hs K.hB p) λ r au q=>by
  obtain⟨rfl,x,S'⟩:=q;exact h au x S'
theorem Wk.nice(K:Wk c A tg it k F G P){s s':ae}{v:ag}{d:D}(hs:cA c k s)(h:uU c k F' s s' v d):bh c.w k.O s'.heap v d:=
 h k.O (nL.refl _ _) λ a ha=>.inl (ab (K.hO a ha) hs.size)
theorem Wk.rep(K:Wk c A tg it k F' G P){s s':ae}{v:ag}{d:D}{S:Addr}(hs:cA c k s)(h:uU c k F' s s' v d)(zy:S∈k.O∨k.s.heap.objs.size≤S)(Hd:S<s.heap.objs.size):bh c.w (S::(F'++k.O)) s'.heap v d:=
 h _ (λ a h=>(aD.mp h).elim (λ h=>h▸zy) λ h=>(aC.mp h).elim (λ h=>(K.hW a h).1) .inl) λ a h=>(aD.mp h).elim (λ h=>.inl (h▸Hd)) λ h=>(aC.mp h).elim .inr λ h=>.inl (ab (K.hO a h) hs.size)
theorem vV{S:Addr}{k:Snap}{s:ae}:tu F (S::(F++k.O)) s:= λ a h=>.inl (.tail _ (aF _ h))
theorem E_{S:Addr}{k:Snap}{s s':ae}(hu:rU F F' s s'):nL (S::(F++k.O)) (S::(F'++k.O)) s:= λ a h=>(aD.mp h).elim (λ h=>.inl (h▸ .head _)) λ h=>(aC.mp h).elim (λ h=>(hu a h).imp (λ h=>.tail _ (aF _ h)) And.left) λ h=>.inl (.tail _ (ao _ h))
theorem rU.not{S:Addr}{s s':ae}(hu:rU F F' s s')(hS:S∉F)(hz:S<s.heap.objs.size):S∉F':= λ h=>(hu S h).elim hS λ h=>ak _ (ab hz h.1)
theorem aB.then{c:Cx}{s s' k_:ae}(x:aB c F G s s')(hu:rU F F' s s')(y:aB c F' G s' k_):aB c F G s k_:=x.comp y (λ a h=>(hu a h).imp id And.left) λ z h=>.inl h
noncomputable abbrev JZ(c:Cx)(W:List Addr)(G:List Nat)(s:ae)(v:ag):iu→ae→Prop:= λ r s'=>r=.ok (.ret v)∧aB c W G s s'∧bF c s'
theorem GS:∀(bs:List Bool) (F:List Addr) (s:ae),Wk c A.in1 tg it k F G P→bF c s→cA c k s→P F (bs.map D.bool) s→codeAny (model c.prog c.w) A (.builtin "all.loop" ⟨[it],[]⟩) (JZ c F G s (.bool (bs.all id))) s:=by
 intro w
 induction w with
 |nil=>
  intro F s K S hs p;refine bx Af ?_;show wpAny _ A.in1 (pyNext it>>=_) _ _ s;exact K.done S hs p λ s' x S'=>aa (gm (ah ⟨rfl,x,S'⟩))
 |cons b bs ih=>
  intro F s K S hs p;refine bx Af ?_;show wpAny _ A.in1 (pyNext it>>=_) _ _ s;refine K.next S hs p λ v s' F' x S' eO hu K' r p'=>?_;have r:=K.nice hs r;subst r;refine aa (aV (iU (aa (jd ?_))));cases b with
  |true=>
   refine wT ?_;refine ah ⟨bX Ab _,bc (ih F' s' K' S' eO p') λ r k_ q=>?_⟩;obtain⟨rfl,x',Hg⟩:=q;exact⟨by rfl,x.then hu x',Hg⟩
  |false=>
   refine wF ?_;exact aa (gm (ah ⟨by rfl,x,S'⟩))
theorem GQ:∀(bs:List Bool) (F:List Addr) (s:ae),Wk c A.in1 tg it k F G P→bF c s→cA c k s→P F (bs.map D.bool) s→codeAny (model c.prog c.w) A (.builtin "any.loop" ⟨[it],[]⟩) (JZ c F G s (.bool (bs.any id))) s:=by
 intro w
 induction w with
 |nil=>
  intro F s K S hs p;refine bx Ae ?_;show wpAny _ A.in1 (pyNext it>>=_) _ _ s;exact K.done S hs p λ s' x S'=>aa (gm (ah ⟨rfl,x,S'⟩))
 |cons b bs ih=>
  intro F s K S hs p;refine bx Ae ?_;show wpAny _ A.in1 (pyNext it>>=_) _ _ s;refine K.next S hs p λ v s' F' x S' eO hu K' r p'=>?_;have r:=K.nice hs r;subst r;refine aa (aV (iU (aa (jd ?_))));cases b with
  |false=>
   refine wF ?_;refine ah ⟨bX Aa _,bc (ih F' s' K' S' eO p') λ r k_ q=>?_⟩;obtain⟨rfl,x',Hg⟩:=q;exact⟨by rfl,x.then hu x',Hg⟩
  |true=>
   refine wT ?_;exact aa (gm (ah ⟨by rfl,x,S'⟩))
end
theorem iI.wk{tg:Expr}{O K:List Addr}{s₀ s:ae}{ds:List D}{it:ag}(h:iI c n tg O K s₀ ds it s)(x:s₀.heap.objs.size≤s.heap.objs.size)(hO:∀a∈O,a<s₀.heap.objs.size)(hK:∀a∈K,a<s₀.heap.objs.size)(hB:c.B≤s₀.heap.objs.size)(ht:∀v,letOwnedTupleGo tg it v=pure ()):
  ∃F G,(∀a∈F,s₀.heap.objs.size≤a∧a<s.heap.objs.size)∧(∀g∈G,s₀.gens.size≤g∧g<s.gens.size)∧∀A,Rm A n→∃P,Wk c A tg it ⟨s,F++O,K⟩ F G P∧P F ds s:=by
 refine dj h ?_;clear h;intro F G hF hG h;refine⟨F,G,hF,hG,λ A R=>?_⟩;refine cW (h A R) λ P T p=>?_;exact⟨P,⟨T,λ a ha=>⟨.inl (aF _ ha),λ hk=>ak _ (ab (hK a hk) (hF a ha).1)⟩,λ a ha=>af hB (hF a ha).1,
  λ a ha=>(aC.mp ha).elim (λ ha=>(hF a ha).2) λ ha=>ab (hO a ha) x,λ a ha=>ab (hK a ha) x,af hB x,ht⟩,p⟩
theorem x8.all{m:Nat}{p:Pos}{x:Str}{bs:List Bool}(hm:m≤n):x8 c (n+1) m (.builtin "all") (.Name x p) (bs.map D.bool) (.bool (bs.all id)):= λ A O s₀ s a g R K fV S hg hi=>by
 refine ko PySem.F.kind_all PySem.F.plain_all PySem.F.entry_all (PySem.F.args_all1 _) ?_;refine aa (m:=oneArg "all" _) (ah ?_);refine dj (hi.wk fV.size K.lt K.lt K.br.size λ z=>rfl) λ F G hF hG hi=>?_;refine cW (hi A.in1 (R.in1.le hm)) λ P Kw p=>?_;refine wb (Kw.T.self S p) λ v aH q=>?_;obtain⟨rfl,rfl⟩:=q;refine ah ⟨bX Ab _,bc (GS bs F aH Kw S .refl p) λ r s' q=>?_⟩;refine jH q ?_;clear q;intro z1 x' S';subst z1;exact⟨fV.comp x' (λ a ha=>.inr (hF a ha).1) (λ g hg=>.inr (hG g hg).1),S',cO⟩
theorem x8.any{m:Nat}{p:Pos}{x:Str}{bs:List Bool}(hm:m≤n):x8 c (n+1) m (.builtin "any") (.Name x p) (bs.map D.bool) (.bool (bs.any id)):= λ A O s₀ s a g R K fV S hg hi=>by
 refine ko PySem.F.kind_any PySem.F.plain_any PySem.F.entry_any (PySem.F.args_any1 _) ?_;refine aa (m:=oneArg "any" _) (ah ?_);refine dj (hi.wk fV.size K.lt K.lt K.br.size λ z=>rfl) λ F G hF hG hi=>?_;refine cW (hi A.in1 (R.in1.le hm)) λ P Kw p=>?_;refine wb (Kw.T.self S p) λ v aH q=>?_;obtain⟨rfl,rfl⟩:=q;refine ah ⟨bX Aa _,bc (GQ bs F aH Kw S .refl p) λ r s' q=>?_⟩;refine jH q ?_;clear q;intro z1 x' S';subst z1;exact⟨fV.comp x' (λ a ha=>.inr (hF a ha).1) (λ g hg=>.inr (hG g hg).1),S',cO⟩
end
section
variable {c:Cx}{n:Nat}{E:VE}{ρ ρ':List Sl}{O:List Addr}{s:ae}
variable {A:aK}{tg:Expr}{it:ag}{k:Snap}{F F':List Addr}{G:List Nat}{P:List Addr→List D→ae→Prop}
theorem Wk.step(K:Wk c A tg it k F G P){ds:List D}{d:D}{s:ae}(S:bF c s)(hs:cA c k s)(p:P F (d::ds) s):wpAny (model c.prog c.w) A (pyNext it) (λ r au=>∃v,r=some v∧
  ∀(α:Type) (m:Sem α) (Q:α→ae→Prop) (X:ag→ae→Prop),(∀s' F',aB c F G s s'→bF c s'→cA c k s'→rU F F' s s'→Wk c A tg it k F' G P→uU c k F' s s' v d→P F' ds s'→wpAny (model c.prog c.w) A m Q X s')→wpAny (model c.prog c.w) A m Q X au) aZ s:=
 wm (K.T.next S hs K.hB p) λ r au q=>by
  refine cW q ?_;clear q;intro v z1 q;subst z1;rw[K.ht]at q;refine⟨v,rfl,λ α m Q X h=>?_⟩;show wpAny _ _ (pure ()>>= λ z=>m) Q X au;refine wb q λ z s' q=>?_;refine tx q ?_;clear q;intro x S' F' hu r p';exact h s' F' x S' (hs.step x K.hW) hu (K.up hs hu) r p'
theorem dS{S:Addr}{o:Obj}{tk:Nat}{f:Obj→Obj}{s:ae}(ho:s.heap.get? S=some o)(ht:qB o=false):aB c [S] [] s {s with heap:=s.heap.update S f,toks:=tk}:=
 SameBut.grow (bC ..) ho ht
theorem e_{S:Addr}{tk:Nat}{f:Obj→Obj}{s:ae}(h:bF c s)(hB:c.B≤S):bF c {s with heap:=s.heap.update S f,toks:=tk}:=
 SameBut.br h (bC ..) hB
theorem JJ{z:Int}(h:z.natAbs<2^62):(decide (-(2^63)≤z)&&decide (z<2^63))=true:=by
 rw[bg,decide_eq_true_eq,decide_eq_true_eq];omega
theorem EI{S:Addr}(zz:c.B≤S)(zy:k.s.heap.objs.size≤S)(Eh:S∉k.K):∀(xs:List Int) (acc:Int) (F:List Addr) (s:ae) (tA:Tok) (e:Nat),Wk c A.in1 tg it k F G P→S∉F→bF c s→cA c k s→P F (xs.map D.int) s→
  s.heap.get? S=some {cls:=.type "list",dict:=none,data:=.seq #[.int acc tA] e,slots:= #[]}→(∀x∈xs,x.natAbs<2^40)→acc.natAbs+xs.length*2^40<2^62→
  codeAny (model c.prog c.w) A (.builtin "sum.loop" ⟨[it,.ref S,rawInt 0,rawInt 0],[]⟩) (λ r s'=>(∃t,r=.ok (.ret (.int (acc+xs.sum) t)))∧aB c (S::F) G s s'∧bF c s') s:=by
 intro w
 induction w with
 |nil=>
  intro acc F s tA e K sr St hs p hS z z;refine bx Ac ?_;show wpAny _ A.in1 (seqItems? (.ref S)>>=_) _ _ s;refine aa (gQ hS rfl ?_);show wpAny _ A.in1 (tryCatch (pyNext it) _>>=_) _ _ s;refine aa (je (wm (K.T.done St hs K.hB p) λ r au q=>?_));obtain⟨rfl,x,S'⟩:=q;exact ah ⟨⟨tA,by simp⟩,x.mono (λ a h=>.inl (.tail _ h)) λ z h=>.inl h,S'⟩
 |cons x xs ih=>
  intro acc F s tA e K sr St hs p hS hx hb;have FT:=hx x (.head _);have hl:(x::xs).length*2^40=xs.length*2^40+2^40:=by rw[aJ,Nat.succ_mul]
  refine bx Ac ?_;show wpAny _ A.in1 (seqItems? (.ref S)>>=_) _ _ s;refine aa (gQ hS rfl ?_);show wpAny _ A.in1 (tryCatch (pyNext it) _>>=_) _ _ s;refine aa (je (wm (K.step St hs p) λ r au q=>?_));obtain⟨v,rfl,q⟩:=q;refine q _ _ _ _ λ s' F' g S' eO hu K' r p'=>?_;have pF:=hu.not sr (aI hS);have r:=K.nice hs r;refine bh.ek r λ t=>?_;have vg:s'.heap.get? S=some {cls:=.type "list",dict:=none,data:=.seq #[.int acc tA] e,slots:= #[]}:=g.keep _ _ sr hS (c0 rfl);have h1:(acc+x).natAbs+xs.length*2^40<2^62:=b8 (Nat.add_le_add_right (af (Int.natAbs_add_le ..) (ef (bV FT) _)) _) (by rw[eN,kh (2^40),← hl];exact hb);have hc:((decide (-(2^63)≤x)&&decide (x<2^63))&&(decide (-(2^63)≤acc+x)&&decide (acc+x<2^63)))=true:=by rw[JJ (Nat.lt_trans FT (by decide)),JJ (b8 (cD ..) h1)];rfl
  show wpAny _ A.in1 (if(_:Bool)=true then(mkInt (acc+x)>>=_)else _) _ _ _;refine wP hc ?_
  ·refine aa (Au ?_);show wpAny _ A.in1 (updateSeq S (λ z=> #[.int (acc+x) s'.toks])>>=_) _ _ _;refine aa ?_;have g2:aB c [S] [] s' {s' with heap:=s'.heap.update S (aP λ z=> #[.int (acc+x) s'.toks]),toks:=s'.toks+1}:=dS vg (c0 rfl);have S2:bF c {s' with heap:=s'.heap.update S (aP λ z=> #[.int (acc+x) s'.toks]),toks:=s'.toks+1}:=e_ S' zz;have p2:=K.T.frame p' g2 S2 (λ a h hf=>by obtain rfl:=m1 h;exact pF hf) λ z=>nn;have Ce:=eO.step g2 λ a h=>by obtain rfl:=m1 h;exact⟨.inr zy,Eh⟩
   refine ff vg rfl (ah ⟨bX z_ _,?_⟩);refine bc (ih (acc+x) F' _ s'.toks _ K' pF S2 Ce p2 (b0 _ vg rfl) (λ y hy=>hx y (.tail _ hy)) h1) λ r k_ q=>?_;obtain⟨⟨t',rfl⟩,g3,S3⟩:=q;refine⟨⟨t',by rw[rW,Int.add_assoc]⟩,?_,S3⟩;exact((g.mono (O':=S::F) (G':=G) (λ a h=>.inl (.tail _ h)) λ z h=>.inl h).trans (g2.mono (λ a h=>.inl (by obtain rfl:=m1 h;exact .head _)) λ z=>nn)).comp g3 (λ a h=>(aD.mp h).elim (λ h=>.inl (h▸ .head _)) λ h=>(hu a h).imp (λ h=>.tail _ h) And.left) λ z h=>.inl h
theorem yo{A:aK}{x:ag}{xs:List Int}{s₀ s:ae}{O K:List Addr}{nm:Str}{p:Pos}(R:Rm A (n+1))(hO:∀a∈O,a<s₀.heap.objs.size)(hK:∀a∈K,a<s₀.heap.objs.size)(hB:c.B≤s₀.heap.objs.size)(fV:aB c [] [] s₀ s)(hx:∀y∈xs,y.natAbs<2^40)(hl:xs.length≤1000)(h:wpAny (model c.prog c.w) A.in1 (pyIter x) (λ it aH=>aB c [] [] s aH∧bF c aH∧iI c n (.Name nm p) O K s₀ (xs.map D.int) it aH) aZ s):
  wpAny (model c.prog c.w) A (call (.builtin "sum") [x]) (λ v s'=>aB c [] [] s₀ s'∧bF c s'∧bh c.w O s'.heap v (.int xs.sum)) aZ s:=by
 refine ko PySem.F.kind_sum PySem.F.plain_sum PySem.F.entry_sum (PySem.F.args_sum1 _) ?_;show wpAny _ _ (dE "sum" ["start"] 0 {}>>=_) _ _ _;refine aa (dg (show dE "sum" ["start"] 0 {}=pure [none]from rfl) ?_);refine wb h λ it aH cM=>?_;refine jH cM ?_;clear cM;intro cE jy hi;refine dj (hi.wk (fV.trans cE).size hO hK hB λ z=>rfl) λ F G hF hG hi=>?_;refine cW (hi A.in1 R.in1) λ P Kw rp=>?_;refine aa (Au ?_);refine vW ?_;refine aa (aa (aa (cg (T:="int") (b:=false) (qN _ _ _) PySem.sub_int_str ?_)));refine wF ?_;refine ah (aa (aa (cg (T:="int") (b:=false) (qN _ _ _) PySem.sub_int_bytes ?_)));refine wF ?_;refine ah (aa (aa (cg (T:="int") (b:=false) (qN _ _ _) PySem.sub_int_bytearray ?_)));refine wF ?_;refine ah (ah ?_);refine aa (bo ?_);have hz:s₀.heap.objs.size≤aH.heap.objs.size:=(fV.trans cE).size;have QC:aH.heap.objs.size∉F:= λ hm=>ak _ (hF _ hm).2;have g1:aB c [] [] aH {aH with heap:=aH.heap.push {cls:=.type "list",data:=.seq #[.int 0 aH.toks]},toks:=aH.toks+1}:=.push;have S1:=jy.push (o:={cls:=.type "list",data:=.seq #[.int 0 aH.toks]}) (tk:=aH.toks+1);refine ah ⟨bX z_ _,bc (EI (S:=aH.heap.objs.size) (af hB hz) (az _) (λ h=>ak _ (ab (hK _ h) hz)) xs 0 F _ aH.toks 0 Kw QC S1
  ((cA.refl (c:=c) (k:=⟨aH,F++O,K⟩)).step g1 λ z=>nn) (Kw.T.frame rp g1 S1 (λ z=>nn) λ z=>nn) (av _ rfl) hx (by lia)) λ r s' q=>?_⟩
 refine jH q ?_;clear q;intro y1 g S';refine xe y1 ?_;clear y1;intro t z2;subst z2;refine⟨((fV.trans cE).trans g1).comp g (λ a ha=>.inr ?_) (λ e he=>.inr (hG e he).1),S',?_⟩
 ·rcases mc ha with rfl|ha
  ·exact hz
  ·exact(hF a ha).1
 ·rw[Int.zero_add];exact fq
theorem Fn.Hx{xs:List Int}(hx:∀y∈xs,y.natAbs<2^40)(hl:xs.length≤1000):Fn c (n+1) (.builtin "sum") [.lst (D.ints xs)] [] (.int xs.sum):= λ A O s vs ks R K ej r'=>by
 refine fy ej λ v r=>?_;refine fG r' ?_;refine wm (yo (s₀:=s) (O:=O) (K:=[]) (nm:="x") (p:=default) R K.lt (by simp) K.br.size (.refl ..) hx hl (wk (Ib.list (tg:=.Name "x" default) A.in1 O s v R.in1 K r) λ it aH q=>?_)) λ z z q=>q;refine nO q ?_;clear q;intro x S ds z1 hi;subst z1;exact⟨x,S,hi⟩
theorem x8.Hx{m:Nat}{p:Pos}{x:Str}{xs:List Int}(hm:m≤n)(hx:∀y∈xs,y.natAbs<2^40)(hl:xs.length≤1000):x8 c (n+1) m (.builtin "sum") (.Name x p) (xs.map D.int) (.int xs.sum):= λ A O s₀ s a g R K fV S hg hi=>by
 refine yo (n:=m) (s₀:=s₀) (O:=O) (K:=O) (nm:=x) (p:=p) (R.le (by exact cX hm)) K.lt K.lt K.br.size fV hx hl ?_;refine dj (id hi) λ F G hF hG Dt=>?_;refine cW (Dt A.in1 (R.in1.le hm)) λ P T p=>?_;refine wm (T.self S p) λ v aH q=>?_;refine xa q ?_;clear q;intro z1 z2;cases z1;cases z2;exact⟨.refl ..,S,hi⟩
end
section
variable {c:Cx}{n:Nat}{E:VE}{ρ ρ':List Sl}{O:List Addr}{s:ae}
variable {A:aK}{tg:Expr}{it:ag}{k:Snap}{F F':List Addr}{G:List Nat}{P:List Addr→List D→ae→Prop}
theorem du{vs:List ag}{e:Nat}:qB (bP vs e)=false:=c0 rfl
theorem ft{h:Heap}{a:Addr}{vs:List ag}{n:Nat}(f:Array ag→Array ag)(ho:h.get? a=some (bP vs n)):∃e,(h.update a (aP f)).get? a=some (bP (f vs.toArray).toList e):=
 ⟨_,by exact get?_update_seq ho f⟩
theorem zJ{S:Addr}(zz:c.B≤S)(zy:S∈k.O∨k.s.heap.objs.size≤S)(Eh:S∉k.K)(res:ag):∀(ds eL:List D) (vs:List ag) (F:List Addr) (s:ae) (e:Nat),Wk c A.in1 tg it k F G P→S∉F→bF c s→cA c k s→P F ds s→
  s.heap.get? S=some (bP vs e)→a7 c.w (S::(F++k.O)) s.heap vs eL→eL.length+ds.length≤1000→
  codeAny (model c.prog c.w) A (.builtin "list.extend.loop" ⟨[.ref S,it,res],[]⟩) (λ r s'=>r=.ok (.ret res)∧aB c (S::F) G s s'∧bF c s'∧∃i6 e',s'.heap.get? S=some (bP i6 e')∧a7 c.w (S::k.O) s'.heap i6 (eL++ds)) s:=by
 intro w
 induction w with
 |nil=>
  intro eL vs F s e K sr St hs p hS hr z;refine bx iL ?_;show wpAny _ A.in1 (pyNext it>>=_) _ _ s;refine K.done St hs p λ s' x S'=>ah ⟨rfl,x.mono (λ a h=>.inl (.tail _ h)) λ z h=>.inl h,S',vs,e,x.keep _ _ sr hS du,?_⟩;rw[bK];exact x.fj (O:=S::(F++k.O)) vV (λ a h=>.inl ((aD.mp h).elim (λ h=>h▸ .head _) λ h=>.tail _ (ao _ h))) hr
 |cons d ds ih=>
  intro eL vs F s e K sr St hs p hS hr hl;have Iq:=hr.length;simp only[aJ]at hl;refine bx iL ?_;show wpAny _ A.in1 (pyNext it>>=_) _ _ s;refine K.next St hs p λ v s' F' g S' eO hu K' r p'=>?_;have Hd:S<s.heap.objs.size:=aI hS;have pF:=hu.not sr Hd;have r:=K'.rep hs r zy Hd;have vg:s'.heap.get? S=some (bP vs e):=g.keep _ _ sr hS du;have Ec:=g.fj vV (E_ hu) hr;show wpAny _ A.in1 (updateSeq S (·.push v)>>=_) _ _ _;refine aa ?_;have g2:aB c [S] [] s' {s' with heap:=s'.heap.update S (aP (·.push v))}:=dS (tk:=s'.toks) vg du;have S2:bF c {s' with heap:=s'.heap.update S (aP (·.push v))}:=e_ (tk:=s'.toks) S' zz;have p2:=K.T.frame p' g2 S2 (λ a h hf=>by obtain rfl:=m1 h;exact pF hf) λ z=>nn;have Ce:=eO.step g2 λ a h=>by obtain rfl:=m1 h;exact⟨zy,Eh⟩
  have mi:tu [S] (S::(F'++k.O)) s':= λ a h=>by obtain rfl:=m1 h;exact .inl (.head _)
  refine xe (ft (·.push v) vg) λ e' zA=>?_;have RZ:(vs.toArray.push v).toList=vs++[v]:=by simp
  rw[RZ]at zA;refine ff (hz:=by simp only[a_];rw[cG];lia) (_hz':=by simp only[gZ,a_];rw[cG];exact TT Iq hl rfl) vg rfl (ah ⟨bX fx _,?_⟩);refine bc (ih (eL++[d]) (vs++[v]) F' _ e' K' pF S2 Ce p2 zA ((g2.fj mi (nL.refl _ _) Ec).append (g2.rep mi (nL.refl _ _) r)) (by simp only[aY,aJ,dp];exact JU hl rfl)) λ r k_ q=>?_;refine k7 q ?_;clear q;intro z1 g3 S3 i6 e3 h3 r3;subst z1;refine⟨rfl,?_,S3,i6,e3,h3,by simpa using r3⟩;exact((g.mono (O':=S::F) (G':=G) (λ a h=>.inl (.tail _ h)) λ z h=>.inl h).trans (g2.mono (λ a h=>.inl (by obtain rfl:=m1 h;exact .head _)) λ z=>nn)).comp g3 (λ a h=>(aD.mp h).elim (λ h=>.inl (h▸ .head _)) λ h=>(hu a h).imp (λ h=>.tail _ h) And.left) λ z h=>.inl h
noncomputable def TU(c:Cx)(A:aK)(s₀:ae)(O:List Addr)(S:Addr)(ds:List D)(it:ag)(s:ae):Prop:=∃tg k F G P,Wk c A tg it k F G P∧P F ds s∧cA c k s∧(S∈k.O∨k.s.heap.objs.size≤S)∧S∉F∧S∉k.K∧(∀a∈O,a∈k.O)∧
 (∀a∈F,s₀.heap.objs.size≤a)∧(∀g∈G,s₀.gens.size≤g)
theorem qI{A:aK}{a:Addr}{o:Obj}{T:String}{ds:List D}{s₀ s:ae}{O:List Addr}(hB:c.B≤s₀.heap.objs.size)(fV:aB c [] [] s₀ s)(Ye:bF c s)(ho:s.heap.get? a=some o)(hc:o.cls=.type T)(Ln:(gE T==gE "list")=false)(Eg:(gE T==gE "tuple")=false)(hl:ds.length≤1000)(hint:∀s',s'.TypeIs (.ref a) T→wpAny (model c.prog c.w) A.in1 (gv (.ref a)) (λ z k_=>k_=s') aZ s')(h:wpAny (model c.prog c.w) A.in1 (pyIter (.ref a)) (λ it aH=>aB c [] [] {s with heap:=s.heap.push (bP [] 0)} aH∧bF c aH∧TU c A.in1 s₀ O s.heap.objs.size ds it aH) aZ {s with heap:=s.heap.push (bP [] 0)}):
  wpAny (model c.prog c.w) A (collect (.ref a)) (λ vs s'=>aB c [] [] s₀ s'∧bF c s'∧a7 c.w O s'.heap vs ds) aZ s:=by
 have NM:=fV.size;have zx:a<s.heap.objs.size:=aI ho;refine aa (DS (bx PySem.F.entry_proto_collect ?_));show wpAny _ A.in1 (newList []>>= λ l=>again (.builtin "list.__iadd__" ⟨[l,.ref a],[]⟩)) _ _ s;refine aa (bo ?_);refine ah ⟨bX ye _,bx yg ?_⟩;show wpAny _ A.in1 (r0 (.ref s.heap.objs.size) (.ref a) (.ref s.heap.objs.size)) _ _ {s with heap:=s.heap.push (bP [] 0)};refine aa (fZ (T:=T) ⟨o,aA _ ho,hc⟩ ?_);have h1:iD (.ref s.heap.objs.size) (.ref a)=false:=by simp[iD];exact dA zx
 refine wN (by rw[h1,Ln,Eg];exact bz) ?_;generalize zk:({s with heap:=s.heap.push (bP [] 0)}:ae)=au at h⊢;have x1:aB c [] [] s au:=by rw[← zk];exact aB.push (tk:=s.toks)
 have zB:au.heap.get? s.heap.objs.size=some (bP [] 0):=by rw[← zk];exact av _ rfl
 have zm:au.heap.get? a=some o:=by rw[← zk];exact aA _ ho
 refine wb h λ it aH cM=>?_;refine xa cM ?_;clear cM;intro cE zh;refine Es zh ?_;clear zh;intro jy tg k zh;refine c8 zh ?_;clear zh;intro F G P Kw rp zh;refine b_ zh ?_;clear zh;intro mD zy sr zh;refine b_ zh ?_;clear zh;intro Eh XE hW hG;have VC:=(fV.trans x1).trans cE;have WK:qB o=false:=bU (by rw[hc];simp);have zA:=cE.keep _ _ (by simp) zB du;refine aa (aV (wm (hint aH ⟨o,cE.keep _ _ (by simp) zm WK,hc⟩) λ b cn JB=>?_));subst JB;have Ij:s₀.heap.objs.size≤s.heap.objs.size:=NM;have zz:c.B≤s.heap.objs.size:=af hB Ij;have key:∀(d9:ae) (e:Nat),aB c [s.heap.objs.size] [] cn d9→bF c d9→d9.heap.get? s.heap.objs.size=some (bP [] e)→
   codeAny (model c.prog c.w) A (.builtin "list.extend.loop" ⟨[.ref s.heap.objs.size,it,.ref s.heap.objs.size],[]⟩) (λ r s'=>r=.ok (.ret (.ref s.heap.objs.size))∧aB c [] [] s₀ s'∧bF c s'∧∃i6 e',s'.heap.get? s.heap.objs.size=some (bP i6 e')∧a7 c.w O s'.heap i6 ds) d9:=by
  intro d9 e g4 S4 OM;have p4:=Kw.T.frame rp g4 S4 (λ a h hf=>by rw[aj]at h;subst h;exact sr hf) λ z=>nn;have R5:=mD.step g4 λ a h=>by rw[aj]at h;subst h;exact⟨zy,Eh⟩
  refine bc (zJ zz zy Eh _ ds [] [] F d9 e Kw sr S4 R5 p4 OM (by trivial) (by simpa using hl)) λ r s' q=>?_;refine k7 q ?_;clear q;intro z1 g5 S5 i6 e5 h5 r5;subst z1;refine⟨rfl,?_,S5,i6,e5,h5,a7.kept (O:=s.heap.objs.size::k.O) (.refl _ _) (λ a h=>.inl (.tail _ (XE a h))) (by simpa using r5)⟩;refine(VC.comp g4 (λ a h=>.inr (by rw[aj]at h;subst h;exact Ij)) λ z=>nn).comp g5 (λ a h=>.inr ?_) λ g h=>.inr (hG g h)
  rcases mc h with rfl|h
  ·exact Ij
  ·exact hW a h
 refine wI (λ _=>?_) λ _=>?_
 ·refine aa (gm ?_);refine xe (ft (·.push di) zA) λ e4 OM=>?_;have e5:∃e5,((cn.heap.update s.heap.objs.size (aP (·.push di))).update s.heap.objs.size (aP (·.pop))).get? s.heap.objs.size=some (bP [] e5):=ft (·.pop) OM;refine xe e5 ?_;clear e5;intro e5 XB;have g4:aB c [s.heap.objs.size] [] cn {cn with heap:=cn.heap.update s.heap.objs.size (aP (·.push di))}:=dS (tk:=cn.toks) zA du;have g5:aB c [s.heap.objs.size] [] {cn with heap:=cn.heap.update s.heap.objs.size (aP (·.push di))} {cn with heap:=(cn.heap.update s.heap.objs.size (aP (·.push di))).update s.heap.objs.size (aP (·.pop))}:=dS (tk:=cn.toks) OM du;have S4:bF c {cn with heap:=cn.heap.update s.heap.objs.size (aP (·.push di))}:=e_ (tk:=cn.toks) jy zz;have S5:bF c {cn with heap:=(cn.heap.update s.heap.objs.size (aP (·.push di))).update s.heap.objs.size (aP (·.pop))}:=e_ (tk:=cn.toks) S4 zz;refine aa ?_;show wpAny _ A.in1 (updateSeq s.heap.objs.size (·.push .none)>>= λ z=>updateSeq s.heap.objs.size (·.pop)) _ _ _;refine aa (ff zA rfl ?_);refine ff OM rfl ?_;refine ah ⟨bX fx _,bc (key _ e5 (g4.trans g5) S5 XB) λ r s' q=>?_⟩;refine k7 q ?_;clear q;intro z1 g S' i6 e' h' r';subst z1;show wpAny _ A (load s.heap.objs.size>>=_) _ _ s';refine aa (wpAny_load h' ?_);exact ah ⟨g,S',by simpa using r'⟩
 ·refine ah ⟨bX fx _,bc (key _ 0 ((aB.refl c [] [] cn).mono (λ z=>nn) λ z=>nn) jy zA) λ r s' q=>?_⟩;refine k7 q ?_;clear q;intro z1 g S' i6 e' h' r';subst z1;show wpAny _ A (load s.heap.objs.size>>=_) _ _ s';refine aa (wpAny_load h' ?_);exact ah ⟨g,S',by simpa using r'⟩
end
noncomputable def vM(c:Cx)(n:Nat)(kw:List (Str×ag))(ds lJ:List D):Prop:=
 ∀(A:aK) (O:List Addr) (s:ae) (a:Addr) (vs:List ag) (e:Nat),Rm A n→Ok c O s→a∉O→c.B≤a→s.heap.get? a=some (bP vs e)→a7 c.w (a::O) s.heap vs ds→
  wpAny (model c.prog c.w) A (call (.builtin "list.sort") [.ref a] kw) (λ v s'=>v=.none∧aB c [a] [] s s'∧bF c s'∧∃i6 e',s'.heap.get? a=some (bP i6 e')∧a7 c.w (a::O) s'.heap i6 lJ) aZ s
section
variable {c:Cx}{n:Nat}{E:VE}{ρ ρ':List Sl}{O:List Addr}{s:ae}
theorem mz{w:a0}{h:Heap}:∀{vs:List ag} {xs:List Int},a7 w O h vs (D.ints xs)→fb vs xs
 |[],[],_=>.nil
 |v::vs,x::xs,r=>by
  have r:a7 w O h (v::vs) (.int x::D.ints xs):=r;obtain⟨r1,r2⟩:=r;refine bh.ek r1 λ t=>?_;exact .cons x t (mz r2)
 |[],_::_,r=>by have:=r.length;trivial
 |_::_,[],r=>by have:=r.length;trivial
theorem uR{w:a0}{h:Heap}{vs:List ag}{xs:List Int}(q:fb vs xs):a7 w O h vs (D.ints xs):=by
 induction q with
 |nil=>exact trivial
 |cons x t q ih=>exact⟨fq,ih⟩
theorem tS{w:a0}{h:Heap}:∀{vs:List ag} {xs:List Str},a7 w O h vs (xs.map D.str)→oI vs xs
 |[],[],_=>.nil
 |v::vs,x::xs,r=>by
  have r:a7 w O h (v::vs) (.str x::xs.map D.str):=r;obtain⟨r1,r2⟩:=r;refine bh.rg r1 λ t=>?_;exact .cons x t (tS r2)
 |[],_::_,r=>by have:=r.length;trivial
 |_::_,[],r=>by have:=r.length;trivial
theorem GO{w:a0}{h:Heap}{vs:List ag}{xs:List Str}(q:oI vs xs):a7 w O h vs (xs.map D.str):=by
 induction q with
 |nil=>exact trivial
 |cons x t q ih=>exact⟨qr,ih⟩
noncomputable def ql(xs:List Int):List Int:=xs.mergeSort λ a b=>decide (a≤b)
theorem mT(xs:List Int):(ql xs).Perm xs:=List.mergeSort_perm xs _
theorem mS(xs:List Int):(ql xs).Pairwise (·≤ ·):=by
 have:=List.pairwise_mergeSort (le:= λ a b:Int=>decide (a≤b)) (λ a b c h1 h2=>by simp only[decide_eq_true_eq]at*;exact ec h1 h2) (λ a b=>by simp only[Bool.or_eq_true,decide_eq_true_eq];lia) xs;exact this.imp λ h=>by simpa using h
theorem pn{xs ys:List Int}(hp:ys.Perm xs)(hs:ys.Pairwise (·≤ ·)):ys=ql xs:=
 lks_uniq (hp.trans (mT xs).symm) hs (mS xs)
theorem nc{s:ae}{a:Addr}{vs:List ag}{e:Nat}{out:Array ag}(ho:s.heap.get? a=some (bP vs e))(S:bF c s)(hB:c.B≤a):
  aB c [a] [] s {s with heap:=sortedHeap s.heap a vs out}∧bF c {s with heap:=sortedHeap s.heap a vs out}∧∃e',(sortedHeap s.heap a vs out).get? a=some (bP out.toList e'):=by
 refine xe (ft (λ z=> #[]) ho) λ e1 h1=>?_;have g1:aB c [a] [] s {s with heap:=s.heap.update a (aP λ z=> #[])}:=dS (tk:=s.toks) ho du;have S1:bF c {s with heap:=s.heap.update a (aP λ z=> #[])}:=e_ (tk:=s.toks) S hB;have g2:=g1.comp (aB.push (c:=c) (G:=[]) (o:=seqObj "tuple" vs.toArray 0) (tk:=s.toks)) (λ z=>nn) λ z=>nn;have S2:=S1.push (o:=seqObj "tuple" vs.toArray 0) (tk:=s.toks);have h2:=aA (seqObj "tuple" vs.toArray 0) h1;have g3:=g2.comp (aB.push (c:=c) (G:=[]) (o:=seqObj "list" #[] 0) (tk:=s.toks)) (λ z=>nn) λ z=>nn;have S3:=S2.push (o:=seqObj "list" #[] 0) (tk:=s.toks);have h3:=aA (seqObj "list" #[] 0) h2;refine xe (ft (λ z=>out) h3) λ e4 h4=>?_;exact⟨g3.comp (dS (tk:=s.toks) h3 du) (λ b hb=>.inl hb) (λ z=>nn),e_ (tk:=s.toks) S3 hB,e4,h4⟩
theorem vM.ints{xs:List Int}(hl:xs.length<64):vM c n [] (D.ints xs) (D.ints (ql xs)):= λ A O s a vs e R K ha hB ho r=>by
 have hI:=mz r;have hz:=r.length;refine bO sY ⟨_,ho,rfl⟩ qV (list_sort_tree (n:=e) ho hI (by rw[hz];simpa[D.ints]using hl) λ out Yj a1 a2 a3=>⟨.none,rfl,?_⟩) (DW _);refine Hl (nc (out:=out) ho K.br hB) λ g S e' h'=>?_;rw[← pn a2 a3];exact⟨rfl,g,S,_,e',h',uR a1⟩
theorem nd:∀(p:Str) (l:List Str),risingS p l=true→(p::l).Pairwise λ a b=>strKind.kle a.cps.toList b.cps.toList
 |p,[],_=>by simp
 |p,x::r,h=>by
  unfold risingS at h;rw[bg,j7,ltCps_eq]at h;have ih:=nd x r h.2;have UD:strKind.kle p.cps.toList x.cps.toList:=h.1;refine dP.mpr ⟨λ y hy=>?_,ih⟩
  rcases mc hy with rfl|hy
  ·exact UD
  ·exact KeyOrd.kle_trans UD ((dP.mp ih).1 y hy)
theorem mu:∀{l:List Str},sortedS l=true→l.Pairwise λ a b=>strKind.kle a.cps.toList b.cps.toList:=by
 intro w
 induction w with
 |nil=>
  intro z;exact .nil
 |cons x r ih=>
  intro h;exact nd x r h
theorem mx{α:Type}{R:α→α→Prop}(PO:∀a b,R a b→R b a→a=b):∀{qz l₂:List α},qz.Perm l₂→qz.Pairwise R→l₂.Pairwise R→qz=l₂
 |[],l₂,h,_,_=>(List.nil_perm.mp h).symm
 |a::qz,[],h,_,_=>by have:=h.length_eq;trivial
 |a::qz,b::l₂,h,h1,h2=>by
  have Mm:a=b:=by
   by_cases e:a=b
   ·exact e
   have ha:a∈l₂:=by
    have:=h.mem_iff.mp (sI (a:=a) (l:=qz))
    rcases aD.mp this with q|q
    ·exact absurd q e
    ·exact q
   have hb:b∈qz:=by
    have:=h.mem_iff.mpr (sI (a:=b) (l:=l₂))
    rcases aD.mp this with q|q
    ·exact absurd q.symm e
    ·exact q
   exact PO a b ((dP.mp h1).1 b hb) ((dP.mp h2).1 a ha)
  subst Mm;rw[mx PO ((List.perm_cons a).mp h) (dP.mp h1).2 (dP.mp h2).2]
theorem HB{a b:Str}(h:a.cps.toList=b.cps.toList):a=b:=by
 obtain⟨x⟩:=a;obtain⟨y⟩:=b;exact congrArg _ (Array.toList_inj.mp h)
theorem xf{xs ys zs:List Str}(hp:zs.Perm xs)(hs:sortedS zs=true)(Ao:ys.Perm xs)(eO:sortedS ys=true):zs=ys:=
 mx (λ z z h1 h2=>HB (KeyOrd.kle_antisymm h1 h2)) (hp.trans Ao.symm) (mu hs) (mu eO)
theorem vM.strs{xs ys:List Str}(hl:xs.length<64)(hp:ys.Perm xs)(hs:sortedS ys=true):vM c n [] (xs.map D.str) (ys.map D.str):= λ A O s a vs e R K ha hB ho r=>by
 have hS:=tS r;have hz:=r.length;refine bO sY ⟨_,ho,rfl⟩ qV (list_sort_treeK (n:=e) strKind_oneLt ho hS.keysOf (λ eR eQ rest e=>keyKind_strs (by rw[← e];exact hS)) (by rw[hz];simpa using hl) λ na WI zk=>⟨.none,rfl,?_⟩) (DW _);refine cH (sorted_out_str hS WI zk) λ Yh h1 h2 h3=>?_;refine Hl (nc (out:=(arrOf na).map (·.2)) ho K.br hB) λ g S e' h'=>?_;rw[xf hp hs h2 h3];exact⟨rfl,g,S,_,e',h',GO h1⟩
end
noncomputable def J1(c:Cx)(n:Nat)(d:D)(ds:List D):Prop:=
 ∀(A:aK) (O:List Addr) (s:ae) (v:ag),Rm A n→Ok c O s→bh c.w O s.heap v d→wpAny (model c.prog c.w) A (collect v) (λ vs s'=>aB c [] [] s s'∧bF c s'∧a7 c.w O s'.heap vs ds) aZ s
section
variable {c:Cx}{n:Nat}{E:VE}{ρ ρ':List Sl}{O:List Addr}{s:ae}
theorem l8{s:ae}{vs:List ag}(S:bF c s):aB c [] [] s {s with heap:=s.heap.push (bP vs 0)}∧bF c {s with heap:=s.heap.push (bP vs 0)}:=⟨aB.push (tk:=s.toks),S.push (tk:=s.toks)⟩
theorem J1.lst{ds:List D}(hl:ds.length≤1000):J1 c n (.lst ds) ds:= λ A O s v R K r=>by
 refine bh.n6 r ?_;clear r;intro a vs ha h r;have hz:=r.length;refine xa (l8 (vs:=[]) K.br) λ g1 S1=>?_;have hS:(s.heap.push (bP [] 0)).get? s.heap.objs.size=some (bP [] 0):=av _ rfl;have g2:aB c [s.heap.objs.size] [] {s with heap:=s.heap.push (bP [] 0)} {s with heap:=(s.heap.push (bP [] 0)).update s.heap.objs.size (aP (· ++vs.toArray))}:=dS (tk:=s.toks) hS du;have S2:bF c {s with heap:=(s.heap.push (bP [] 0)).update s.heap.objs.size (aP (· ++vs.toArray))}:=e_ (tk:=s.toks) S1 K.br.size;have g:=g1.comp g2 (λ a h=>.inr (by rw[aj]at h;subst h;exact az _)) λ z=>nn;exact collect_list h.isList ⟨g,S2,g.ka r⟩ (cQ (by exact af (de hz) hl))
theorem nV{x:ag}{A:aK}{ds lJ:List D}{s₀ s:ae}(R:Rm A (n+2))(hO:∀a∈O,a<s₀.heap.objs.size∧c.B≤a)(hB:c.B≤s₀.heap.objs.size)(Ik:s₀.heap.objs.size≤s.heap.objs.size)(hl:ds.length≤1000)(hc:wpAny (model c.prog c.w) A.in1 (collect x) (λ vs s'=>aB c [] [] s₀ s'∧bF c s'∧a7 c.w O s'.heap vs ds) aZ s)(hs:vM c n [] ds lJ):
  wpAny (model c.prog c.w) A (call (.builtin "sorted") [x]) (λ v s'=>aB c [] [] s₀ s'∧bF c s'∧bh c.w O s'.heap v (.lst lJ)) aZ s:=by
 refine yi kind_sorted plain_sorted entry_sorted (args_sorted1 _) ?_;refine aa (m:=checkCount "sorted" 1 1 _) (ah ?_);refine wb hc λ vs au q=>?_;refine jH q ?_;clear q;intro g1 S1 r1;have hz:=r1.length;refine aa (vh ?_ (by show vs.length≤_;rw[cG];exact u_ hz hl rfl));refine xa (l8 (vs:=vs) S1) λ g2 S2=>?_;have vd:=g1.size;have K:Ok c O {au with heap:=au.heap.push (bP vs 0)}:=⟨S2,λ a h=>ab (hO a h).1 (af vd g2.size),λ a h=>(hO a h).2⟩;have hn:au.heap.objs.size∉O:= λ h=>ak _ (ab (hO _ h).1 vd);have r2:a7 c.w (au.heap.objs.size::O) (au.heap.push (bP vs 0)) vs ds:=g2.fj (O:=O) (λ z=>nn) (λ a h=>(aD.mp h).elim (λ h=>.inr (h▸az _)) .inl) r1;refine aa (aV (wm (hs A.in1 O {au with heap:=au.heap.push (bP vs 0)} au.heap.objs.size vs 0 (R.in1.le (by exact bq _)) K hn (af hB vd) (av _ rfl) r2) λ v aH q=>?_));refine k7 q ?_;clear q;intro z1 g3 S3 i6 e' h' r3;subst z1;refine ah ⟨_,rfl,(g1.trans g2).comp g3 (λ a h=>.inr (by rw[aj]at h;subst h;exact vd)) (λ z=>nn),S3,?_⟩;exact⟨_,i6,rfl,hn,⟨_,e',h',rfl,rfl,rfl⟩,a7.kept (O:=au.heap.objs.size::O) (.refl _ _) (λ a h=>.inl (.tail _ h)) r3⟩
theorem Fn.sorted{d:D}{ds lJ:List D}(hc:J1 c n d ds)(hl:ds.length≤1000)(hs:vM c n [] ds lJ):Fn c (n+2) (.builtin "sorted") [d] [] (.lst lJ):= λ A O s vs ks R K ej r'=>by
 refine fy ej λ v r=>?_;refine fG r' ?_;exact nV R (λ a h=>⟨K.lt a h,K.low a h⟩) K.br.size (az _) hl (hc A.in1 O s v (R.in1.le (by exact bq _)) K r) hs
theorem J1.tup{ds:List D}(hl:ds.length≤1000):J1 c n (.tup ds) ds:= λ A O s v R K r=>by
 refine bh.qh r ?_;clear r;intro a vs ha y2 r;refine nN y2 ?_;clear y2;intro o ho hc m hd;have hz:=r.length;refine c9 (wpAny_collect_seq a (.inr rfl) ho hc hd (λ h' hk up=>?_) (cQ (by simp;lia)));have g:aB c [] [] s {s with heap:=h'}:=.step (tk:=s.toks) up.heap hk;exact⟨g,K.br.step (tk:=s.toks) up.heap hk,by simpa using g.ka r⟩
theorem vA(l:Addr)(items:Array ag)(o:Obj)(m:Nat)(hc:o.cls=.type "list")(hd:o.data=.seq items m)(hz:items.size≤sizeLine):
  Meets (Builtin.«tuple.__new__» ⟨[.type "tuple",.ref l],[]⟩) (λ z R s=>s.heap.get? l=some o∧
   ∀h':Heap,(∀b o',s.heap.get? b=some o'→h'.get? b=some o')→s.heap.objs.size≤h'.objs.size→R (.ok (.ret (.ref h'.objs.size))) {s with heap:=h'.push (EB items.toList 0)}):=by
 refine .of_wp λ prog w A R s h=>?_;refine xa h ?_;clear h;intro ho h;obtain⟨hp,g,d,tk,os⟩:=s;have h1:=PySem.sub_tuple_self;have h2:=PySem.init_tuple_lookup;have h3:=PySem.madeHere_tuple;have hT:i_ ⟨hp,g,d,tk,os⟩ (.ref l) "list":=⟨o,ho,hc⟩;have SG:∀{A:aK} {X:ag→ae→Prop} {Q:List ag→ae→Prop},(∀h':Heap,(∀b o',hp.get? b=some o'→h'.get? b=some o')→hp.objs.size≤h'.objs.size→Q items.toList ⟨h',g,d,tk,os⟩)→
   wpAny (model prog w) A (collect (.ref l)) Q X ⟨hp,g,d,tk,os⟩:= λ h=>c9 (wpAny_collect_seq l (.inl rfl) ho hc hd (λ h' hk up=>h h' hk up.heap) hz)
 wp_walk using wpAny_loadPart' ho,fZ hT,SG
 intro h' hk sO;refine aa (m:=Builtin.Tuple.tupleExact _) ?_;exact bo (ah ⟨_,rfl,h h' hk sO⟩) (by show items.toList.toArray.size≤sizeLine;simpa using hz)
theorem Fn.vX{ds:List D}(hl:ds.length≤1000):Fn c n (.type "tuple") [.lst ds] [] (.tup ds):= λ A O s vs ks R K ej r'=>by
 refine fy ej λ v r=>?_;refine fG r' ?_;refine bh.n6 r ?_;clear r;intro a vs ha h r;have hz:=r.length;refine bL h ?_;clear h;intro o m ho hc z hd;refine callType_new F.called_tuple (by decide) (F.typeCall_tuple_1 _) (F.newCall_tuple_1 _) (λ obj=>F.args_object_init_2 obj _) F.entry_tuple_new
  (vA a vs.toArray o m hc hd (cQ (by simp;lia))) ⟨ho,λ h' hk sO=>⟨⟨_,av _ rfl,rfl⟩,?_⟩⟩
 have g:aB c [] [] s {s with heap:=h'}:=.step (tk:=s.toks) sO hk;have S:bF c {s with heap:=h'}:=K.br.step (tk:=s.toks) sO hk;exact(tX (tk:=s.toks) (K.fT g S) (g.ka (by simpa using r))).after g
end
section
variable {c:Cx}{n:Nat}{E:VE}{ρ ρ':List Sl}{O:List Addr}{s:ae}
theorem Bk{s:ae}{a:Addr}{g:Nat}(h:s.heap.IsGen a g):∃o,s.heap.get? a=some o∧o.cls=.type "generator":=by
 refine c8 h ?_;clear h;intro o nm qn ho hc z;exact⟨o,ho,hc⟩
theorem sy{A:aK}{m:Nat}{x:Str}{p:Pos}{eL:List D}{s₀ s:ae}{a:Addr}{g:Nat}(R:Rm A (m+1))(K:Ok c O s₀)(fV:aB c [] [] s₀ s)(S:bF c s)(hg:s.heap.IsGen a g)(hi:iI c m (.Name x p) O O s₀ eL (.ref a) s)(hl:eL.length≤1000):
  wpAny (model c.prog c.w) A (collect (.ref a)) (λ vs s'=>aB c [] [] s₀ s'∧bF c s'∧a7 c.w O s'.heap vs eL) aZ s:=by
 refine cW (Bk hg) λ o ho hc=>?_;refine qI (T:="generator") K.br.size fV S ho hc (by decide) (by decide) hl (λ s' hT=>?_) ?_
 ·unfold gv;refine aa (iJ hT PySem.F.gen_no_len ?_);show wpAny _ A.in1 (specialOf (dR a) (d_ "__length_hint__")>>=_) _ _ _;refine aa (iJ hT PySem.F.gen_no_hint ?_);exact ah rfl
 ·refine dj (hi.wk fV.size K.lt K.lt K.br.size λ z=>rfl) λ F G hF hG hi=>?_;refine cW (hi A.in1 R.in1) λ P Kw p=>?_;refine xa (l8 (vs:=[]) S) λ g1 S1=>?_;have p1:=Kw.T.frame p g1 S1 (λ z=>nn) λ z=>nn;refine wm (Kw.T.self S1 p1) λ v aH q=>?_;refine xa q ?_;clear q;intro z1 z2;subst z1;subst z2;exact⟨.refl ..,S1,_,_,F,G,P,Kw,p1,(cA.refl (c:=c) (k:=⟨s,F++O,O⟩)).step g1 (λ z=>nn),.inr (az _),λ h=>ak _ (hF _ h).2,
   λ h=>ak _ (ab (K.lt _ h) fV.size),λ b hb=>ao _ hb,λ b hb=>(hF b hb).1,λ e he=>(hG e he).1⟩
theorem x8.sorted{m:Nat}{x:Str}{p:Pos}{ds lJ:List D}(hm:m≤n)(hl:ds.length≤1000)(hs:vM c n [] ds lJ):x8 c (n+2) m (.builtin "sorted") (.Name x p) ds (.lst lJ):= λ A O s₀ s a g R K fV S hg hi=>
 nV R (λ a h=>⟨K.lt a h,K.low a h⟩) K.br.size fV.size hl (sy (R.in1.le (by exact cX hm)) K fV S hg hi hl) hs
theorem ug{w:a0}{h:Heap}{a:Int}:∀{vs:List ag} {k:Nat},(∀j v,vs[j]? =some v→∃t,v=nG (a+((k+j:Nat):Int)) t)→a7 w O h vs ((vO k vs.length).map λ (i:Nat)=>D.int (a+(i:Int)))
 |[],k,_=>by trivial
 |v::vs,k,hv=>by
  refine⟨?_,ug λ j u hu=>?_⟩
  ·obtain⟨t,rfl⟩:=hv 0 v rfl;exact⟨t,by simp⟩
  ·obtain⟨t,rfl⟩:=hv (j+1) u (by simpa using hu);exact⟨t,by rw[show k+1+j=k+(j+1) by exact dq _ _ _]⟩
theorem Fn.Fv{a b:Int}(ha: -1000≤a)(Hc:a≤1000)(hb: -1000≤b)(wA:b≤1000):Fn c n (.type "list") [.D7 a b] [] (.lst (D.ints (qp a b))):= λ A O s vs ks R K ej r'=>by
 refine fy ej λ v r=>?_;refine fG r' ?_;refine bh.EW r ?_;clear r;intro r t u t' hr ho;refine c9 (call_list_range (n:=(b-a).toNat) R.handled ho (sd ha Hc hb wA) (by unfold fF;simp;split<;>lia) (by lia) λ h' tk uS c' hk F_ fU up=>?_);have g:aB c [] [] s {s with heap:=h',toks:=tk}:=.step up.heap hk;refine⟨g,K.br.step up.heap hk,?_⟩;refine⟨_,uS.toList,rfl,K.next,⟨_,c',by simpa using F_,rfl,rfl,by simp⟩,?_⟩;have:=ug (w:=c.w) (O:=O) (h:=h') (a:=a) (vs:=uS.toList) (k:=0) λ j v hv=>by
  refine xe (fU.2 j v (by simpa using hv)) λ t z1=>?_;subst z1;exact⟨t,by rfl⟩
 rw[show uS.toList.length=(b-a).toNat by rw[i5,fU.1]]at this;unfold D.ints qp;rw[bI,Eo];exact this
end
section
variable {c:Cx}{n:Nat}{E:VE}{ρ ρ':List Sl}{O:List Addr}{s:ae}
noncomputable def kJ:List (List Nat):=[[],[0],[1],[2],[3],[0,1],[0,2],[0,3],[1,2],[1,3],[2,3],[0,1,2],[0,1,3],[0,2,3],[1,2,3],[0,1,2,3]]
noncomputable def Hy:List Nat→List (List Nat)
 |[]=>[[]]
 |a::l=>Hy l++(Hy l).map (a:: ·)
theorem EJ{l xs:List Nat}(h:xs.Sublist l):xs∈Hy l:=by
 induction h with
 |slnil=>exact .head _
 |cons a h ih=>exact aF _ ih
 |cons_cons a h ih=>exact ao _ (aM.mpr ⟨_,ih,rfl⟩)
theorem oA{xs:List Nat}(h:xs.Sublist [0,1,2,3]):xs∈kJ:=
 (by decide:∀y∈Hy [0,1,2,3],y∈kJ) _ (EJ h)
theorem Uk{x:Nat}(h:x∈[0,1,2,3]):x≤3:=(by decide:∀x∈[0,1,2,3],x≤3) x h
theorem sk{xs:List Nat}{ts:List Tok}(hl:ts.length=xs.length):(aT xs ts).toArray.size=xs.length:=by simp[aT,hl]
theorem iZ{w:a0}{xs:List Nat}{ts:List Tok}(hl:ts.length=xs.length)(hx:xs.Sublist [0,1,2,3]):(dc w xs).fits (aT xs ts).toArray.size=true:=by
 have h4:xs.length≤4:=hx.length_le;simp[pT,dc,aT,hl,mj];exact af h4 (by decide)
theorem pd{x:Nat}(h:x≤3):hashInt (x:Int)=x:=(by decide +kernel:∀x<4,hashInt ((x:Nat):Int)=x) x (kq h)
noncomputable def PZ(xs:List Nat)(x:Nat):Prop:=∀(b:Bool) (ts:List Tok) (t:Tok),ts.length=xs.length→
  layNew {mask:=7,place:=xs.toArray,dummies:= #[],finger:=0,led:=b,moves:=0,plain:=true} (aT xs ts).toArray (x:Int) (.int (x:Int) t)=
   ((aT (xs++[x]) (ts++[t])).toArray,{mask:=7,place:=(xs++[x]).toArray,dummies:= #[],finger:=0,led:=b,moves:=0,plain:=true},false,false)
theorem lay0:∀x∈[0,1,2,3],PZ [] x:=by
 intro x h b ts t e;refine y6 e ?_;revert x;refine aU.mpr ⟨by kernel_rfl,aU.mpr ⟨by kernel_rfl,aU.mpr ⟨by kernel_rfl,aU.mpr ⟨by kernel_rfl,nofun⟩⟩⟩⟩
theorem H9:∀y∈kJ,PZ y.dropLast (y.getLastD 0):=
 aU.mpr ⟨lay0 0 (by decide),aU.mpr ⟨lay0 0 (by decide),aU.mpr ⟨lay0 1 (by decide),aU.mpr ⟨lay0 2 (by decide),aU.mpr ⟨lay0 3 (by decide),
 aU.mpr ⟨λ b ts t h=>ud h λ z=>by kernel_rfl,aU.mpr ⟨λ b ts t h=>ud h λ z=>by kernel_rfl,aU.mpr ⟨λ b ts t h=>ud h λ z=>by kernel_rfl,
 aU.mpr ⟨λ b ts t h=>ud h λ z=>by kernel_rfl,aU.mpr ⟨λ b ts t h=>ud h λ z=>by kernel_rfl,aU.mpr ⟨λ b ts t h=>ud h λ z=>by kernel_rfl,
 aU.mpr ⟨λ b ts t h=>uc h λ z z=>by kernel_rfl,aU.mpr ⟨λ b ts t h=>uc h λ z z=>by kernel_rfl,aU.mpr ⟨λ b ts t h=>uc h λ z z=>by kernel_rfl,aU.mpr ⟨λ b ts t h=>uc h λ z z=>by kernel_rfl,
 aU.mpr ⟨λ b ts t h=>Js h λ z z z=>by kernel_rfl,nofun⟩⟩⟩⟩⟩⟩⟩⟩⟩⟩⟩⟩⟩⟩⟩⟩
theorem y7{b:Bool}{xs:List Nat}{ts:List Tok}{x:Nat}{t:Tok}(hl:ts.length=xs.length)(hx:xs++[x]∈kJ):
  layNew {mask:=7,place:=xs.toArray,dummies:= #[],finger:=0,led:=b,moves:=0,plain:=true} (aT xs ts).toArray (x:Int) (.int (x:Int) t)=
   ((aT (xs++[x]) (ts++[t])).toArray,{mask:=7,place:=(xs++[x]).toArray,dummies:= #[],finger:=0,led:=b,moves:=0,plain:=true},false,false):=by
 have h:=H9 _ hx;rw[List.dropLast_concat,List.getLastD_concat]at h;exact h b ts t hl
theorem uE{p:Program}{w:a0}{xs:List Nat}{ts:List Tok}(hx:xs.Sublist [0,1,2,3]):ElemsOf (intKind p w) (aT xs ts).toArray.toList:=by
 intro e he;simp only[aT,aM]at he;obtain⟨q,hq,rfl⟩:=he;have h1:=(js hq).1;have h3:=Uk (hx.subset h1);exact⟨⟨(q.1:Int),qO _ _ _ _,(pd h3).symm⟩,rfl⟩
theorem DC{p:Program}{w:a0}{xs:List Nat}{ts:List Tok}{x:Nat}(hx:x∉xs):(aT xs ts).toArray.toList.findIdx? (λ e=>(intKind p w).is (x:Int) e.2)=none:=by
 rw[List.findIdx?_eq_none_iff];intro e he;simp only[aT,aM]at he;obtain⟨q,hq,rfl⟩:=he;have h1:=(js hq).1;have:q.1≠x:= λ e=>hx (e▸h1);show vi (x:Int) (.int (q.1:Int) q.2)=false;simp only[vi,beq_eq_false_iff_ne,ne_eq];lia
theorem yy{A:aK}{X:ag→ae→Prop}{a:Addr}{xs:List Nat}{ts:List Tok}{m x:Nat}{t:Tok}{Q:Bool→ae→Prop}(ho:s.heap.get? a=some (cR (aT xs ts).toArray m (dc c.w xs)))(hl:ts.length=xs.length)(hx:(xs++[x]).Sublist [0,1,2,3])(h:∀h',c7 a s.heap h'→h'.get? a=some (cR (aT (xs++[x]) (ts++[t])).toArray (m+1) (dc c.w (xs++[x])))→Q true {s with heap:=h'}):
  wpAny (model c.prog c.w) A (setAddHashed a (.int (x:Int) t) (hashInt (x:Int))) Q X s:=by
 have RU:xs.Sublist [0,1,2,3]:=(AD xs [x]).trans hx;have h3:=Uk (hx.subset (ao _ (.head _)));have WO:x∉xs:=by
  have xE:(xs++[x]).Nodup:=hx.nodup (by decide);rw[j0]at xE;exact λ hm=>xE.2.2 x hm x (by simp) rfl
 have hf:=iZ (w:=c.w) hl RU;have Mi:=uE (p:=c.prog) (w:=c.w) (ts:=ts) RU;have h4:xs.length≤4:=RU.length_le;have lb:=sk hl;refine aV (aa (a8 ho rfl hf ?_));dsimp only;rw[byScan_of (knd:=intKind c.prog c.w) rfl (by rw[lb];exact b8 h4 (by decide)) Mi];simp only[↓reduceIte];refine aa (aa (gm ?_));refine aa (wpAny_setScan_of (knd:=intKind c.prog c.w) (k:=(x:Int)) (qO _ _ _ _) ho rfl hf Mi ?_);rw[DC WO];rw[pd h3];unfold dc;rw[y7 hl (oA hx)];refine vW ?_;refine wT ?_;refine aa ?_;rw[hashByValue_scannable 8 (show Value.scannable (.int (x:Int) t)=true from rfl)];refine ah ?_;simp only[show plainKind (.int (x:Int) t)=true from rfl,if_true];have h5:(xs++[x]).length≤4:=hx.length_le;have zr:∀b:Bool,(Av 7 (xs++[x]).toArray #[] 0 b 0 true).tooFull=false:= λ b=>
  decide_eq_false (Nat.not_le_of_lt (b8 (Nat.mul_le_mul_right 5 h5) (by decide:4*5<7*3)))
 refine aa (oL ho rfl ?_ (by rw[sk (by rw[aY,aY,hl];rfl)];exact cQ (af h5 (by decide))));rw[if_neg (by rw[zr];decide)];refine ah (ah (h _ (bC ..) ?_));have:=b0 (jB (aT (xs++[x]) (ts++[t])).toArray (dc c.w (xs++[x]))) ho (by rfl);rw[putSet_of _ _ rfl]at this;exact this
end
section
variable {c:Cx}{n:Nat}{E:VE}{ρ ρ':List Sl}{O:List Addr}{s:ae}
noncomputable abbrev bT(w:a0):Obj:=cR #[] 0 (dc w [])
theorem uJ{p:Program}{w:a0}{A:aK}{X:ag→ae→Prop}{s:ae}(as:List ag)(hn:checkBuiltinCall "set.__new__" ⟨.type "set"::as,[]⟩=pure ()){Q₁:ag→ae→Prop}(h:Q₁ (.ref s.heap.objs.size) {s with heap:=s.heap.push (bT w)}):
  codeAny (model p w) A (.call (.builtin "set.__new__") ⟨.type "set"::as,[]⟩) (wants Q₁ X) s:=by
 refine iK ?_;show wpAny _ A.in1 (do checkBuiltinCall "set.__new__" ⟨.type "set"::as,[]⟩;again (.builtin "set.__new__" ⟨.type "set"::as,[]⟩)) _ _ s;refine aa (dg hn (ah ⟨bX AB _,bx PySem.F.entry_set_new ?_⟩));rw[Around.under_plainId AB _];unfold Builtin.«set.__new__» Builtin.Frozenset.newClass;have ic:=rX;obtain⟨hp,g,d,tk,os⟩:=s
 wp_walk
 refine df (ah ?_);simp only[newObj];refine aa (wpAny_alloc (ah ?_));exact ah h
set_option maxHeartbeats 3200000 in
theorem uN{p:Program}{w:a0}{A:aK}{X:ag→ae→Prop}{s:ae}{Q:ag→ae→Prop}(as:List ag)(hn:checkBuiltinCall "set.__new__" ⟨.type "set"::as,[]⟩=pure ())(Xj:checkTypeCall "set" ⟨as,[]⟩=pure ())(hi:codeAny (model p w) A.in1 (.call (.builtin "set.__init__") ⟨.ref s.heap.objs.size::as,[]⟩) (wants (λ r aH=>r=.none∧Q (.ref s.heap.objs.size) aH) X) {s with heap:=s.heap.push (bT w)}):
  wpAny (model p w) A (call (.type "set") as) Q X s:=by
 obtain⟨c,tl,Sf⟩:=dJ.mro;have Oi:=dJ.made;have ic:=dJ.sub;refine lW (iK ?_);show wpAny _ _ (callAny (.type "set") _) _ _ _;refine ah ⟨Code.quiet_builtin _ (by decide +kernel),bx yf ?_⟩;rw[Er (weight_type_call_type "set" as []) rfl];have h1:=dJ.notType;have h2:=dJ.canCreate
 repeat (any_goals (first|assumption|wp_step))
 refine bc (uJ as hn (X:=X) (Q₁:= λ obj au=>obj=.ref s.heap.objs.size∧au={s with heap:=s.heap.push (bT w)}) ⟨rfl,rfl⟩) λ r au hr=>?_;cases r with
 |error e=>exact hr
 |ok fl=>
  cases fl with
  |ret obj=>
   obtain⟨rfl,rfl⟩:=hr;have hS:(s.heap.push (bT w)).get? s.heap.objs.size=some (bT w):=av _ rfl;have hT:i_ {s with heap:=s.heap.push (bT w)} (.ref s.heap.objs.size) "set":=⟨_,hS,rfl⟩;have Yq:=dJ.init.lookup;have Qz:=dJ.init.bind (.ref s.heap.objs.size)
   repeat (any_goals (first|assumption|wp_step))
   refine bc hi λ bB aH qF=>?_;cases bB with
   |error e=>exact qF
   |ok OZ=>
    cases OZ with
    |ret r=>
     obtain⟨rfl,hq⟩:=qF
     repeat (any_goals (first|assumption|wp_step))
    |_=>exact qF.elim
  |_=>exact hr.elim
theorem me{p:Program}{w:a0}{A:aK}{X:ag→ae→Prop}{s:ae}{l:Addr}{Q:ag→ae→Prop}(R:Rm A (n+4))(h:∀A',Rm A' n→wpAny (model p w) A' (o6 "set.__init__" s.heap.objs.size (.ref l)) (λ z s'=>Q (.ref s.heap.objs.size) s') X {s with heap:=s.heap.push (bT w)}):
  wpAny (model p w) A (call (.type "set") [.ref l]) Q X s:=
 uN [.ref l] (PySem.F.newCall_set_1 _) (PySem.F.typeCall_set_1 _) (f7 dJ.init.plain Ad (check_set_init_1 ⟨_,av _ rfl,rfl⟩ (by
  unfold Builtin.«set.__init__» noKeywords;generalize XD:o6=PI
  wp_walk
  subst XD;exact wk (h A.in1.in1 (R.in1.in1.le (by exact cD _ _))) λ z s' q=>ah ⟨rfl,q⟩)))
theorem zQ{p:Program}{w:a0}{A:aK}{X:ag→ae→Prop}{s:ae}{Q:ag→ae→Prop}(h:Q (.ref s.heap.objs.size) {s with heap:=s.heap.push (bT w)}):wpAny (model p w) A (call (.type "set") []) Q X s:=
 uN [] PySem.F.newCall_set_0 PySem.F.typeCall_set_0 (f7 dJ.init.plain Ad (check_set_init ⟨_,av _ rfl,rfl⟩ (by
  unfold Builtin.«set.__init__» noKeywords
  wp_walk
  exact⟨rfl,h⟩)))
end
section
variable {c:Cx}{n:Nat}{E:VE}{ρ ρ':List Sl}{O:List Addr}{s:ae}
variable {A:aK}{tg:Expr}{it:ag}{k:Snap}{F F':List Addr}{G:List Nat}{P:List Addr→List D→ae→Prop}
noncomputable def D.nats(xs:List Nat):List D:=xs.map λ (x:Nat)=>D.int (x:Int)
theorem eZ{es:Array (Int×ag)}{m:Nat}{t:SetTable}:qB (cR es m t)=false:=bU (by simp)
theorem sa{S:Addr}(zz:c.B≤S)(zy:S∈k.O∨k.s.heap.objs.size≤S)(Eh:S∉k.K):∀(zs xs:List Nat) (ts:List Tok) (m:Nat) (F:List Addr) (s:ae),Wk c A.in1 tg it k F G P→S∉F→bF c s→cA c k s→P F (D.nats zs) s→
  s.heap.get? S=some (cR (aT xs ts).toArray m (dc c.w xs))→ts.length=xs.length→(xs++zs).Sublist [0,1,2,3]→
  codeAny (model c.prog c.w) A (.builtin "set.update.loop" ⟨[.ref S,it],[]⟩) (λ r s'=>r=.ok (.ret .none)∧aB c (S::F) G s s'∧bF c s'∧∃CO m',s'.heap.get? S=some (cR (aT (xs++zs) CO).toArray m' (dc c.w (xs++zs)))∧CO.length=(xs++zs).length) s:=by
 intro w
 induction w with
 |nil=>
  intro xs ts m F s K sr St hs p hS hl hx;refine bx nv ?_;show wpAny _ A.in1 (pyNext it>>=_) _ _ s;refine K.done St hs p λ s' x S'=>ah ⟨rfl,x.mono (λ a h=>.inl (.tail _ h)) (λ j h=>.inl h),S',ts,m,?_⟩;rw[bK];exact⟨x.keep _ _ sr hS eZ,hl⟩
 |cons z zs ih=>
  intro xs ts m F s K sr St hs p hS hl hx;have wt:(xs++[z]++zs).Sublist [0,1,2,3]:=by simpa using hx
  refine bx nv ?_;show wpAny _ A.in1 (pyNext it>>=_) _ _ s;refine K.next St hs p λ v s' F' g S' eO hu K' r p'=>?_;have pF:=hu.not sr (aI hS);have r:=K.nice hs r;refine bh.ek r ?_;clear r;intro t;have vg:=g.keep _ _ sr hS eZ;show wpAny _ A.in1 (holding [nG (z:Int) t] (setAdd S (.int (z:Int) t))>>=_) _ _ s';refine aa (aV ?_);refine aV (aa ((intKind c.prog c.w).pyHash (k:=(z:Int)) (qO _ _ _ _) ?_));refine yy (s:={s' with toks:=s'.toks+1}) vg hl ((AD _ zs).trans wt) λ h' An zA=>?_;have g2:aB c [S] [] s' {s' with heap:=h',toks:=s'.toks+1}:=SameBut.grow An vg eZ;have S2:bF c {s' with heap:=h',toks:=s'.toks+1}:=SameBut.br S' An zz;have p2:=K.T.frame p' g2 S2 (λ a h hf=>by obtain rfl:=m1 h;exact pF hf) λ j=>nn;have Ce:=eO.step g2 λ a h=>by obtain rfl:=m1 h;exact⟨zy,Eh⟩
  refine ah ⟨bX PyProof.Rows.F.plain_set_update_loop _,?_⟩;refine bc (ih (xs++[z]) (ts++[t]) (m+1) F' _ K' pF S2 Ce p2 zA (by simp[hl]) wt) λ r k_ q=>?_;refine k7 q ?_;clear q;intro z1 g3 S3 CO m' h3 l3;subst z1;refine⟨rfl,?_,S3,CO,m',by simpa using h3,by simpa using l3⟩;exact((g.mono (O':=S::F) (G':=G) (λ a h=>.inl (.tail _ h)) λ j h=>.inl h).trans (g2.mono (λ a h=>.inl (by obtain rfl:=m1 h;exact .head _)) λ j=>nn)).comp g3 (λ a h=>(aD.mp h).elim (λ h=>.inl (h▸ .head _)) λ h=>(hu a h).imp (λ h=>.tail _ h) And.left) λ j h=>.inl h
noncomputable def sS(c:Cx)(n:Nat)(f:ag)(ds:List D)(xs:List Nat):Prop:=∀(A:aK) (O:List Addr) (s:ae) (vs:List ag) (ks:List (Str×ag)),Rm A n→Ok c O s→a7 c.w O s.heap vs ds→eA c.w O s.heap ks []→
 wpAny (model c.prog c.w) A (call f vs ks) (λ v s'=>aB c [] [] s s'∧bF c s'∧∃ts m,v=.ref s.heap.objs.size∧s'.heap.get? s.heap.objs.size=some (cR (aT xs ts).toArray m (dc c.w xs))∧ts.length=xs.length∧xs.Sublist [0,1,2,3]) aZ s
theorem sS.o{f:ag}{ds:List D}{xs:List Nat}(h:sS c n f ds xs):mG c n f ds [] (.dm xs):= λ A O s vs ks R K r r'=>wm (h A O s vs ks R K r r') λ v s' q=>by
 refine xa q ?_;clear q;intro g zh;refine lY zh ?_;clear zh;intro S ts m z1 h l hx;subst z1;exact⟨[s.heap.objs.size],g,S,⟨_,ts,m,rfl,rfl,h,l,hx⟩,λ a ha=>by rw[aj]at ha;subst ha;exact⟨az _,aI h⟩⟩
theorem sS.lst{xs:List Nat}(hx:xs.Sublist [0,1,2,3]):sS c (n+6) (.type "set") [.lst (D.nats xs)] xs:= λ A O s vs ks R K ej r'=>by
 refine fy ej λ v r=>?_;refine fG r' ?_;have r1:=r;refine bL r1 ?_;clear r1;intro a ws z1 ha hl hr;subst z1;refine me (n:=n+2) R λ A' R'=>?_;have g1:aB c [] [] s {s with heap:=s.heap.push (bT c.w)}:=aB.push (tk:=s.toks);have S1:bF c {s with heap:=s.heap.push (bT c.w)}:=K.br.push (tk:=s.toks);have zB:(s.heap.push (bT c.w)).get? s.heap.objs.size=some (bT c.w):=av _ rfl;have K1:Ok c (s.heap.objs.size::O) {s with heap:=s.heap.push (bT c.w)}:=⟨S1,λ b h=>(aD.mp h).elim (λ h=>h▸aI zB) λ h=>ab (K.lt b h) g1.size,
  λ b h=>(aD.mp h).elim (λ h=>h▸K.br.size) (K.low b)⟩
 have r1:bh c.w (s.heap.objs.size::O) (s.heap.push (bT c.w)) (.ref a) (.lst (D.nats xs)):=g1.rep (O:=O) (λ z=>nn) (λ b h=>(aD.mp h).elim (λ h=>.inr (h▸az _)) .inl) r;have hT:i_ {s with heap:=s.heap.push (bT c.w)} (.ref a) "list":=(hl.keeps λ z z e=>aA _ e).isList.typeIs;generalize zk:({s with heap:=s.heap.push (bT c.w)}:ae)=au at*;have Gh:au.heap.get? s.heap.objs.size=some (bT c.w):=by rw[← zk];exact zB
 have r2:bh c.w (s.heap.objs.size::O) au.heap (.ref a) (.lst (D.nats xs)):=by rw[← zk];exact r1
 refine aa (aa (cg (T:="list") hT PySem.F.sub_list_set ?_));refine cg (T:="list") hT PySem.F.sub_list_frozenset ?_;refine wF ?_;refine aa (fZ (T:="list") hT ?_);refine wN (by decide) ?_;refine wb (Ib.list (n:=n) (tg:=.Name "x" default) A' _ au (.ref a) (R'.le (by exact cD _ _)) K1 r2) λ it aH q=>?_;refine nO q ?_;clear q;intro cE jy ds z1 hi;subst z1;refine dj (hi.wk cE.size K1.lt (by simp) S1.size λ z=>rfl) λ F G hF hG hi=>?_;refine cW (hi A'.in1 (R'.in1.le (by exact bq _))) λ P Kw p=>?_;have Ij:s.heap.objs.size<au.heap.objs.size:=aI Gh;refine aa (DS (bc (sa (S:=s.heap.objs.size) K.br.size (.inl (ao _ (.head _))) (by simp) xs [] [] 0 F aH Kw (λ h=>ak _ (ab Ij (hF _ h).1)) jy .refl p (cE.keep _ _ (by simp) Gh eZ) rfl hx) λ r s' q=>?_));refine k7 q ?_;clear q;intro z1 g S' CO m' h' l';subst z1;refine ah ⟨(g1.trans cE).comp g (λ b hb=>.inr ?_) (λ e he=>.inr ?_),S',?_⟩
 ·rcases mc hb with rfl|hb
  ·exact az _
  ·exact af g1.size (hF b hb).1
 ·exact af g1.dv (hG e he).1
 ·exact⟨CO,m',by first|rfl|trivial,h',l',hx⟩
theorem tQ:isSubtype (.type "tuple") (.type "set")=pure false:=by kernel_rfl
theorem nU:isSubtype (.type "tuple") (.type "frozenset")=pure false:=by kernel_rfl
theorem sS.tup{xs:List Nat}(hx:xs.Sublist [0,1,2,3]):sS c (n+6) (.type "set") [.tup (D.nats xs)] xs:= λ A O s vs ks R K ej r'=>by
 refine fy ej λ v r=>?_;refine fG r' ?_;have r1:=r;refine bL r1 ?_;clear r1;intro a ws z1 ha hl hr;subst z1;refine me (n:=n+2) R λ A' R'=>?_;have g1:aB c [] [] s {s with heap:=s.heap.push (bT c.w)}:=aB.push (tk:=s.toks);have S1:bF c {s with heap:=s.heap.push (bT c.w)}:=K.br.push (tk:=s.toks);have zB:(s.heap.push (bT c.w)).get? s.heap.objs.size=some (bT c.w):=av _ rfl;have K1:Ok c (s.heap.objs.size::O) {s with heap:=s.heap.push (bT c.w)}:=⟨S1,λ b h=>(aD.mp h).elim (λ h=>h▸aI zB) λ h=>ab (K.lt b h) g1.size,
  λ b h=>(aD.mp h).elim (λ h=>h▸K.br.size) (K.low b)⟩
 have r1:bh c.w (s.heap.objs.size::O) (s.heap.push (bT c.w)) (.ref a) (.tup (D.nats xs)):=g1.rep (O:=O) (λ z=>nn) (λ b h=>(aD.mp h).elim (λ h=>.inr (h▸az _)) .inl) r;have hT:i_ {s with heap:=s.heap.push (bT c.w)} (.ref a) "tuple":=(by refine cH hl ?_;clear hl;intro o ho hc z;exact⟨o,aA _ ho,hc⟩);generalize zk:({s with heap:=s.heap.push (bT c.w)}:ae)=au at*;have Gh:au.heap.get? s.heap.objs.size=some (bT c.w):=by rw[← zk];exact zB
 have r2:bh c.w (s.heap.objs.size::O) au.heap (.ref a) (.tup (D.nats xs)):=by rw[← zk];exact r1
 refine aa (aa (cg (T:="tuple") hT tQ ?_));refine cg (T:="tuple") hT nU ?_;refine wF ?_;refine aa (fZ (T:="tuple") hT ?_);refine wN (by decide) ?_;refine wb (Ib.tuple (n:=n) (tg:=.Name "x" default) A' _ au (.ref a) (R'.le (by exact cD _ _)) K1 r2) λ it aH q=>?_;refine nO q ?_;clear q;intro cE jy ds z1 hi;subst z1;refine dj (hi.wk cE.size K1.lt (by simp) S1.size λ z=>rfl) λ F G hF hG hi=>?_;refine cW (hi A'.in1 (R'.in1.le (by exact bq _))) λ P Kw p=>?_;have Ij:s.heap.objs.size<au.heap.objs.size:=aI Gh;refine aa (DS (bc (sa (S:=s.heap.objs.size) K.br.size (.inl (ao _ (.head _))) (by simp) xs [] [] 0 F aH Kw (λ h=>ak _ (ab Ij (hF _ h).1)) jy .refl p (cE.keep _ _ (by simp) Gh eZ) rfl hx) λ r s' q=>?_));refine k7 q ?_;clear q;intro z1 g S' CO m' h' l';subst z1;refine ah ⟨(g1.trans cE).comp g (λ b hb=>.inr ?_) (λ e he=>.inr ?_),S',?_⟩
 ·rcases mc hb with rfl|hb
  ·exact az _
  ·exact af g1.size (hF b hb).1
 ·exact af g1.dv (hG e he).1
 ·exact⟨CO,m',by first|rfl|trivial,h',l',hx⟩
theorem uh{w:a0}{m:Nat}(h:m≤4):(dc w []).roomFor m=none:=by
 simp[SetTable.roomFor,dc,mj];lia
theorem sS.dm{xs:List Nat}:sS c (n+6) (.type "set") [.dm xs] xs:= λ A O s vs ks R K ej r'=>by
 refine fy ej λ v r=>?_;refine fG r' ?_;refine bh.sj r ?_;clear r;intro a ts m ha ho hl hx;have zx:a<s.heap.objs.size:=aI ho;refine me (n:=n+2) R λ A' R'=>?_;have g1:aB c [] [] s {s with heap:=s.heap.push (bT c.w)}:=aB.push (tk:=s.toks);have S1:bF c {s with heap:=s.heap.push (bT c.w)}:=K.br.push (tk:=s.toks);have zB:(s.heap.push (bT c.w)).get? s.heap.objs.size=some (bT c.w):=av _ rfl;have zm:(s.heap.push (bT c.w)).get? a=some (cR (aT xs ts).toArray m (dc c.w xs)):=aA _ ho;have hT:i_ {s with heap:=s.heap.push (bT c.w)} (.ref a) "set":=⟨_,zm,rfl⟩;have hf:=iZ (w:=c.w) hl hx;have h4:=hx.length_le;simp only[aJ,dp]at h4;have lb:(aT xs ts).toArray.size=xs.length:=by simp[aT,hl]
 refine aa (aa (cg (T:="set") hT rX ?_));refine ah ?_;refine wT ?_;refine vW ?_;refine aa (xX zm rfl hf ?_);refine wN (by simp;exact dA zx) ?_;refine aa (a8 zm rfl hf ?_);dsimp only;have fin:∀(CO:List Tok) (m':Nat) (s':ae),aB c [] [] s s'→bF c s'→s'.heap.get? s.heap.objs.size=some (cR (aT xs CO).toArray m' (dc c.w xs))→CO.length=xs.length→aB c [] [] s s'∧bF c s'∧∃ts m,dR s.heap.objs.size=dR s.heap.objs.size∧s'.heap.get? s.heap.objs.size=some (cR (aT xs ts).toArray m (dc c.w xs))∧ts.length=xs.length∧xs.Sublist [0,1,2,3]:= λ CO m' s' g S h l=>⟨g,S,CO,m',rfl,h,l,hx⟩
 by_cases he:xs=[]
 ·subst he;exact ah (fin [] 0 _ g1 S1 zB rfl)
 ·rw[if_neg (by rw[Array.isEmpty_iff_size_eq_zero,lb];simpa using he)];have UZ:(dc c.w []).fits (#[]:Array (Int×ag)).size=true:=rfl;refine aa (aa (a8 zB rfl UZ ?_));rw[uh (by rw[lb];exact h4)];refine ah (aa (a8 zB rfl UZ ?_));have UB:(dc c.w []).road (dc c.w xs)=.slotForSlot:=rfl;refine oL zB rfl ?_ (by rw[lb,cG];exact rC h4 rfl);have h2:=b0 (jB (aT xs ts).toArray (dc c.w xs)) zB (by rfl);have e:({dc c.w xs with finger:=(dc c.w []).finger,led:=(dc c.w []).led&&(dc c.w xs).led,moves:=(dc c.w []).moves,plain:=(dc c.w []).plain&&(dc c.w xs).plain}:SetTable)=dc c.w xs:=by
   simp[dc]
  rw[e];have g2:aB c [s.heap.objs.size] [] {s with heap:=s.heap.push (bT c.w)} {s with heap:=(s.heap.push (bT c.w)).update s.heap.objs.size (jB (aT xs ts).toArray (dc c.w xs))}:=dS (tk:=s.toks) zB eZ;have S2:bF c {s with heap:=(s.heap.push (bT c.w)).update s.heap.objs.size (jB (aT xs ts).toArray (dc c.w xs))}:=e_ (tk:=s.toks) S1 K.br.size;exact fin ts _ _ (g1.comp g2 (λ b h=>.inr (by rw[aj]at h;subst h;exact az _)) λ z=>nn) S2 h2 hl
end
section
variable {c:Cx}{n:Nat}{E:VE}{ρ ρ':List Sl}{O:List Addr}{s:ae}
theorem Bo{α:Type}{l:List α}{i:Nat}(h:i<l.length):(l[i]::l.eraseIdx i).Perm l:=by
 rw[List.eraseIdx_eq_take_drop_succ];refine List.perm_middle.symm.trans ?_;rw[← et h,D2]
theorem yN{α:Type}(next:Nat→Nat)(fuel k:Nat)(left:List α)(out:Array α)(h:left.length≤fuel):(pickOrder.go next fuel k left out).toList.Perm (out.toList++left):=by
 induction fuel generalizing k left out with
 |zero=>exact y6 (Nat.eq_zero_of_le_zero h) (.of_eq (bK _).symm)
 |succ fuel ih=>
  conv=>arg 1;arg 1;whnf
  by_cases h0:left.length=0
  ·exact y6 h0 (.of_eq (bK _).symm)
  ·have gy:next k%left.length<left.length:=Nat.mod_lt _ (Nat.pos_of_ne_zero h0)
   rw[aq gy];refine(ih (k+1) _ _ (by rw[List.length_eraseIdx_of_lt gy];exact Nat.sub_le_of_le_add h)).trans ?_;rw[Array.toList_push,j6];exact List.Perm.append_left _ (Bo gy)
theorem tZ{α:Type}(next:Nat→Nat)(xs:Array α):(pickOrder next xs).toList.Perm xs.toList:=
 yN next xs.size 0 xs.toList #[] (az _)
end
theorem c_:Slot "set_iterator" "__next__" "set_iterator.__next__":=
 .of (owner:="set_iterator") (n:="__next__") (by kernel_rfl) (by decide +kernel) (by decide +kernel) (by decide +kernel)
  (by first|exact .inl (by decide +kernel)|exact .inr (by decide +kernel)) (by kernel_rfl)
theorem nW:Slot "set_iterator" "__iter__" "set_iterator.__iter__":=
 .of (owner:="set_iterator") (n:="__iter__") (by kernel_rfl) (by decide +kernel) (by decide +kernel) (by decide +kernel)
  (by first|exact .inl (by decide +kernel)|exact .inr (by decide +kernel)) (by kernel_rfl)
theorem iS:entryFor table "set_iterator.__next__"=some Builtin.«set_iterator.__next__»:=z6 (by kernel_rfl)
theorem sQ:entryFor table "set_iterator.__iter__"=some Builtin.«dict_keyiterator.__iter__»:=
 DV (id':="dict_keyiterator.__iter__") (by kernel_rfl) (by first|rfl|decide +kernel|(simp +decide [sH])) (by decide +kernel) (by kernel_rfl)
theorem jq(a:ag):argsOk "set_iterator.__next__" ⟨[a],[]⟩:=by kernel_rfl
theorem uQ(a:ag):argsOk "set_iterator.__iter__" ⟨[a],[]⟩:=by kernel_rfl
theorem nj:entryFor table "set.__iter__"=some Builtin.«frozenset.__iter__»:=
 DV (id':="frozenset.__iter__") (by kernel_rfl) (by first|rfl|decide +kernel|(simp +decide [sH])) (by decide +kernel) (by kernel_rfl)
theorem oq(a:ag):argsOk "set.__iter__" ⟨[a],[]⟩:=by kernel_rfl
section
variable {c:Cx}{n:Nat}{E:VE}{ρ ρ':List Sl}{O:List Addr}{s:ae}
noncomputable abbrev fW(slot i:Nat)(a:ag)(z m:Nat):Obj:={cls:=.type "set_iterator",data:=.fields #[.int slot 0,.int i 0,a,.int z 0,.int m 0]}
noncomputable def told(w:a0)(a:Addr)(m:Nat)(es:Array (Int×ag)):List (Int×ag):=if cN w then(pickOrder (w.params.setOrder a m) es).toList else es.toList
theorem jQ(w:a0)(a:Addr)(m:Nat)(es:Array (Int×ag)):(told w a m es).Perm es.toList:=by
 unfold told
 split
 ·exact tZ _ _
 ·exact .refl _
noncomputable def slotAt(xs:List Nat)(i:Nat):Nat:=if i=0 then 0 else xs.getD (i-1) 0+1
theorem Bt{xs:List Nat}(h:xs∈kJ):∀i,i≤xs.length→b7 xs.toArray (slotAt xs i)=i:=by
 have:∀xs∈kJ,∀i∈aw (xs.length+1),b7 xs.toArray (slotAt xs i)=i:=by decide +kernel
 intro i hi;exact this xs h i (aO.mpr (by exact cX hi))
theorem tC{A:aK}{X:ag→ae→Prop}{a:Addr}{xs:List Nat}{ts:List Tok}{m slot i:Nat}{Q:Option (ag×Nat)→ae→Prop}(ho:s.heap.get? a=some (cR (aT xs ts).toArray m (dc c.w xs)))(hl:ts.length=xs.length)(hx:xs.Sublist [0,1,2,3])(hs:cN c.w=false→slot=slotAt xs i)(hi:i≤xs.length)(h:∀ia,(cN c.w=false→i<xs.length→ia=slotAt xs (i+1))→Q (((told c.w a m (aT xs ts).toArray)[i]?).map λ e=>(e.2,ia)) s):
  wpAny (model c.prog c.w) A (setNext a slot i m) Q X s:=by
 have hf:=iZ (w:=c.w) hl hx;refine aa (a8 ho rfl hf ?_);refine aa (aa (df (ah ?_)));show wpAny _ _ (if(cN c.w)=true then _ else _) _ _ _;cases hb:cN c.w with
 |true=>
  refine wP rfl ?_;simp only[bne_self_eq_false,aR,if_false];refine aa (aa (a8 ho rfl hf ?_));refine aa (aa (df (ah ?_)));show wpAny _ _ (if(cN c.w)=true then _ else _) _ _ _;rw[hb,if_pos rfl];refine aa (df (ah (ah ?_)));have:=h slot (by simp[hb]);unfold told at this;rw[hb,if_pos rfl]at this;show Q (Option.map (λ e=>(e.snd,slot)) (pickOrder (c.w.params.setOrder a m) (aT xs ts).toArray)[i]?) s;simpa using this
 |false=>
  have ng:=hs hb;subst ng;refine wN (by decide) ?_;have Wy:=oA hx;have Li:=Bt Wy i hi;show wpAny _ _ (if(!true&&decide ((aT xs ts).toArray.size>1))=true then _ else _) _ _ _;refine wN (by simp) ?_;refine aa ?_;show wpAny _ _ (if(!(dc c.w xs).led&& !(aT xs ts).toArray.isEmpty)=true then _ else _) _ _ _;rw[if_neg (by simp[dc,hb])];refine ah ?_;have Xr:b7 (dc c.w xs).place (slotAt xs i)=i:=Li;rw[Xr];show wpAny _ _ (pure (match (aT xs ts).toArray[i]?,xs.toArray[i]? with
   |some (_,x),some j=>some (x,j+1)
   |_,_=>none)) _ _ _
  refine ah ?_;have key:=h (xs.getD i 0+1) λ z gy=>by rfl
  unfold told at key;rw[hb,if_neg (by decide)]at key
  by_cases gy:i<xs.length
  ·have e1:xs.toArray[i]? =some xs[i]:=by simp[gy]
   have hz:i<(aT xs ts).length:=by simp[aT,hl];exact gy
   have e2:(aT xs ts).toArray[i]? =some (aT xs ts)[i]:=by simp[hz]
   rw[e1,e2];have e3:(aT xs ts)[i]? =some (aT xs ts)[i]:=by simp[hz]
   rw[show(aT xs ts).toArray.toList=aT xs ts from rfl,e3,show xs.getD i 0=xs[i] by simp[gy]]at key;exact key
  ·have e1:xs.toArray[i]? =none:=by simp;exact cu gy
   have e3:(aT xs ts)[i]? =none:=by simp[aT,hl];lia
   have e2:(aT xs ts).toArray[i]? =none:=by simpa using e3
   rw[e1,e2];rw[show(aT xs ts).toArray.toList=aT xs ts from rfl,e3]at key;exact key
end
section
variable {c:Cx}{n:Nat}{E:VE}{ρ ρ':List Sl}{O:List Addr}{s:ae}
theorem w2{A:aK}{X:ag→ae→Prop}{I a:Addr}{xs:List Nat}{ts:List Tok}{m slot i:Nat}{e:Int×ag}{Q:Option ag→ae→Prop}(hI:s.heap.get? I=some (fW slot i (.ref a) xs.length m))(ho:s.heap.get? a=some (cR (aT xs ts).toArray m (dc c.w xs)))(hl:ts.length=xs.length)(hx:xs.Sublist [0,1,2,3])(hs:cN c.w=false→slot=slotAt xs i)(hi:i<xs.length)(he:(told c.w a m (aT xs ts).toArray)[i]? =some e)(hQ:∀h' ia,h'.get? I=some (fW ia (i+1) (.ref a) xs.length m)→c7 I s.heap h'→(cN c.w=false→ia=slotAt xs (i+1))→Q (some e.2) {s with heap:=h'}):
  wpAny (model c.prog c.w) A (pyNext (.ref I)) Q X s:=by
 have hT:s.TypeIs (.ref I) "set_iterator":=⟨_,hI,rfl⟩;have hf:=iZ (w:=c.w) hl hx;have lb:(aT xs ts).toArray.size=xs.length:=by simp[aT,hl]
 refine aa (gq (cC (name:=d_ "__next__") hT c_ (bO c_ hT iS ?_ (jq _))));show wpAny _ _ (fieldsOf (.ref I)>>=_) _ _ s;refine aa (sX hI rfl ?_);show wpAny _ _ (setEntries a>>=_) _ _ s;refine aa (aa (a8 ho rfl hf (ah ?_)));dsimp only;rw[if_neg (by rw[lb];simp)];refine aa (tC (slot:=slot) (i:=i) ho hl hx hs (bV hi) λ ia eO=>?_);rw[show((m:Int)).toNat=m from rfl,he];dsimp only[jf];have h1:=b0 (sG (·.setIfInBounds 0 (rawInt ia))) hI rfl;refine aa (ll hI rfl (by exact bD _) ?_);refine aa (ll h1 rfl (by exact aG _ _) ?_);refine ah ⟨_,rfl,ah (hQ _ ia ?_ ((bC ..).trans (bC ..)) λ hb=>eO hb hi)⟩;exact b0 (sG (·.setIfInBounds 1 (rawInt ((i:Int)+1)))) h1 rfl
theorem w3{A:aK}{X:ag→ae→Prop}{I a:Addr}{xs:List Nat}{ts:List Tok}{m slot:Nat}{Q:Option ag→ae→Prop}(hh:A.handled=none)(hI:s.heap.get? I=some (fW slot xs.length (.ref a) xs.length m))(ho:s.heap.get? a=some (cR (aT xs ts).toArray m (dc c.w xs)))(hl:ts.length=xs.length)(hx:xs.Sublist [0,1,2,3])(hs:cN c.w=false→slot=slotAt xs xs.length)(hQ:∀h',pW I s.heap h'→Q none {s with heap:=h'}):
  wpAny (model c.prog c.w) A (pyNext (.ref I)) Q X s:=by
 have hT:s.TypeIs (.ref I) "set_iterator":=⟨_,hI,rfl⟩;have hf:=iZ (w:=c.w) hl hx;have lb:(aT xs ts).toArray.size=xs.length:=by simp[aT,hl]
 have he:(told c.w a m (aT xs ts).toArray)[xs.length]? =none:=by
  have:=(jQ c.w a m (aT xs ts).toArray).length_eq;have h2:(aT xs ts).toArray.toList.length=xs.length:=by trivial
  have h3:(told c.w a m (aT xs ts).toArray).length=(aT xs ts).toArray.toList.length:=this;exact bk (by lia)
 refine aa (gq (cC (name:=d_ "__next__") hT c_ (bO c_ hT iS ?_ (jq _))));show wpAny _ _ (fieldsOf (.ref I)>>=_) _ _ s;refine aa (sX hI rfl ?_);show wpAny _ _ (setEntries a>>=_) _ _ s;refine aa (aa (a8 ho rfl hf (ah ?_)));dsimp only;rw[if_neg (by rw[lb];simp)];refine aa (tC (slot:=slot) (i:=xs.length) ho hl hx hs (az _) λ ia eO=>?_);rw[show((m:Int)).toNat=m from rfl,he];dsimp only[Option.map_none];refine aa (ll hI rfl (by exact aG _ _) ?_);show wpAny _ _ (newExc (.type "StopIteration") []>>=_) _ _ _;refine aa ?_;refine aa (bo ?_ (by exact bS _));refine aa (m:=firstArgMember _ _) (dg (a:=di) (by first|rfl|(simp only[firstArgMember];rfl)) ?_);refine bo ?_ (by size_fits);refine aa (oU ?_);rw[show A.in1.handled=none from hh];refine aa (ah (sU ?_));refine aa (cg (T:="StopIteration") (b:=true) ⟨_,av _ rfl,rfl⟩ nH ?_);exact ah (hQ _ (((bC ..).extBut.push _).push _))
theorem qb{A:aK}{X:ag→ae→Prop}{I:Addr}{o:Obj}{Q:ag→ae→Prop}(hI:s.heap.get? I=some o)(hc:o.cls=.type "set_iterator")(h:Q (.ref I) s):wpAny (model c.prog c.w) A (pyIter (.ref I)) Q X s:=by
 have hT:s.TypeIs (.ref I) "set_iterator":=⟨_,hI,hc⟩;refine oM hT nW (bO nW hT sQ ?_ (uQ _));show wpAny _ _ (ret (.ref I)) _ _ s;exact ah ⟨_,rfl,"set_iterator",_,hT,c_.lookup,h⟩
theorem cA.obj{k:Snap}{a:Addr}{o:Obj}(h:cA c k s)(ha:a∉k.O)(ho:k.s.heap.get? a=some o)(ht:qB o=false):s.heap.get? a=some o:=by
 refine ez h ?_;clear h;intro V G' g hV;exact g.keep _ _ (λ hm=>(hV a hm).1.elim ha λ hle=>ak _ (ab (aI ho) hle)) ho ht
noncomputable def l5(w:a0)(a:Addr)(m:Nat)(xs:List Nat)(ts:List Tok):List Nat:=(told w a m (aT xs ts).toArray).map λ e=>e.1.toNat
theorem jR{w:a0}{a:Addr}{m:Nat}{xs:List Nat}{ts:List Tok}(hl:ts.length=xs.length):(l5 w a m xs ts).Perm xs:=by
 have:=(jQ w a m (aT xs ts).toArray).map λ e=>e.1.toNat;refine this.trans ?_;unfold aT;rw[bI];have e:(xs.zip ts).map ((λ e:Int×ag=>e.1.toNat)∘λ p=>((p.1:Int),nG (p.1:Int) p.2))=(xs.zip ts).map Prod.fst:=cj λ p z=>by simp
 rw[e,List.map_fst_zip (by exact de hl.symm)]
theorem EE{w:a0}{a:Addr}{m:Nat}{xs:List Nat}{ts:List Tok}{e:Int×ag}(h:e∈told w a m (aT xs ts).toArray):∃t,e.2=.int (e.1.toNat:Int) t:=by
 have:=(jQ w a m (aT xs ts).toArray).mem_iff.mp h;simp only[aT,aM]at this;obtain⟨p,_,rfl⟩:=this;exact⟨p.2,by simp⟩
theorem nM.dm{A:aK}{tg:Expr}{I a:Addr}{k:Snap}{xs:List Nat}{ts:List Tok}{m:Nat}(hh:A.handled=none)(ho:k.s.heap.get? a=some (cR (aT xs ts).toArray m (dc c.w xs)))(ha:a∉k.O)(hl:ts.length=xs.length)(hx:xs.Sublist [0,1,2,3])(hI:I∈k.O)(hK:I∉k.K):
  nM c A tg (.ref I) k [] (λ F ds s=>F=[I]∧∃i slot,s.heap.get? I=some (fW slot i (.ref a) xs.length m)∧i≤xs.length∧(cN c.w=false→slot=slotAt xs i)∧ds=D.nats ((l5 c.w a m xs ts).drop i)) where
 det:= λ h h'=>h.1.trans h'.1.symm
 frame:=by
  rintro F V G' ds s s' ⟨rfl,i,slot,fU,r⟩ x S hV _
  exact⟨rfl,i,slot,x.keep _ _ (λ h=>hV _ h (.head _)) fU (bU (by simp)),r⟩
 next:= λ {F ds d s} S hs hB w0=>by
  refine lY w0 ?_;clear w0;intro hF i slot fU hi ng e;subst hF;have hlen:(l5 c.w a m xs ts).length=xs.length:=(jR hl).length_eq;have gy:i<xs.length:=by
   rcases oW i xs.length with h|h
   ·exact h
   ·rw[oO (by exact af (de hlen) h)]at e;cases e
  have Oj:i<(told c.w a m (aT xs ts).toArray).length:=by unfold l5 at hlen;rw[aE]at hlen;exact Ea hlen gy
  have he:(told c.w a m (aT xs ts).toArray)[i]? =some (told c.w a m (aT xs ts).toArray)[i]:=aq Oj;have hd:(l5 c.w a m xs ts).drop i=(told c.w a m (aT xs ts).toArray)[i].1.toNat::(l5 c.w a m xs ts).drop (i+1):=by
   rw[et (by exact Ea hlen gy)]
   congr 1
   simp[l5]
  rw[hd]at e;refine xe (EE (f_ Oj)) λ t hv=>?_;have e':d::ds=D.int ((told c.w a m (aT xs ts).toArray)[i].1.toNat:Int)::D.nats ((l5 c.w a m xs ts).drop (i+1)):=e;injection e' with e1 e2
  subst e1;refine w2 fU (hs.obj ha ho eZ) hl hx ng gy he λ h' ia mX eO K0=>⟨_,rfl,?_⟩;have g:aB c [I] [] s {s with heap:=h'}:=SameBut.grow (tk:=s.toks) eO fU (bU (by simp));refine hY mX rfl (by decide) ⟨g,SameBut.br (tk:=s.toks) S eO (hB I (.head _)),[I],rU.refl _ _ _,λ O z z=>by rw[hv];exact⟨t,rfl⟩,rfl,i+1,ia,mX,by trivial,K0,e2⟩
 done:= λ {F s} S hs hB w0=>by
  refine lY w0 ?_;clear w0;intro hF i slot fU hi ng e;subst hF;have hlen:(l5 c.w a m xs ts).length=xs.length:=(jR hl).length_eq;have Qv:i=xs.length:=by
   have:((l5 c.w a m xs ts).drop i).length=0:=by
    have:=congrArg vP e;simpa[D.nats]using this.symm
   rw[vm,hlen]at this;exact Nat.le_antisymm (by assumption) (Nat.le_of_sub_eq_zero this)
  subst Qv;refine c9 (w3 hh fU (hs.obj ha ho eZ) hl hx ng λ h' he up=>⟨rfl,ExtBut.grow (tk:=s.toks) up.heap he fU (bU (by simp)),ExtBut.br (tk:=s.toks) S up.heap he (hB I (.head _))⟩)
 self:= λ {A' F ds s} S w0=>by obtain⟨_,i,slot,fU,_⟩:=w0;exact qb fU rfl ⟨rfl,rfl⟩
end
section
variable {c:Cx}{n:Nat}{E:VE}{ρ ρ':List Sl}{O:List Addr}{s:ae}
theorem wq{A:aK}{tg:Expr}{a:Addr}{xs:List Nat}{ts:List Tok}{m:Nat}(K:Ok c O s)(ha:a∉O)(ho:s.heap.get? a=some (cR (aT xs ts).toArray m (dc c.w xs)))(hl:ts.length=xs.length)(hx:xs.Sublist [0,1,2,3]):
  wpAny (model c.prog c.w) A (pyIter (.ref a)) (λ it s'=>aB c [] [] s s'∧bF c s'∧iI c n tg O [] s (D.nats (l5 c.w a m xs ts)) it s') aZ s:=by
 have hT:s.TypeIs (.ref a) "set":=⟨_,ho,rfl⟩;have hf:=iZ (w:=c.w) hl hx;have lb:(aT xs ts).toArray.size=xs.length:=by simp[aT,hl]
 refine oM hT j8 (bO j8 hT nj ?_ (oq _));refine vW ?_;refine aa (aa (aa (a8 ho rfl hf (ah (ah ?_)))));refine aa (aa (a8 ho rfl hf ?_));refine aa (aa (df (ah ?_)));refine ah ?_;rw[if_neg (by
  show¬((!cN c.w&&(!(dc c.w xs).plain&&decide ((aT xs ts).toArray.size>1)))=true);simp[dc])]
 refine aa (ah (aa (xX ho rfl hf ?_)));simp only[newFields];refine aa (bo ?_);rw[lb];have g:aB c [] [] s {s with heap:=s.heap.push (fW 0 0 (.ref a) xs.length m)}:=aB.push (tk:=s.toks);have zx:a≠s.heap.objs.size:=dO (aI ho);have hI:(s.heap.push (fW 0 0 (.ref a) xs.length m)).get? s.heap.objs.size=some (fW 0 0 (.ref a) xs.length m):=av _ rfl;refine ah ⟨_,rfl,"set_iterator",_,⟨_,hI,rfl⟩,c_.lookup,g,K.br.push (tk:=s.toks),[s.heap.objs.size],[],λ b h=>?_,λ z=>nn,λ A' R'=>
  ⟨_,nM.dm (xs:=xs) (ts:=ts) (a:=a) (m:=m) R'.handled (aA _ ho) (λ h=>?_) hl hx (.head _) (by simp),rfl,0,0,hI,bS _,λ z=>rfl,rfl⟩⟩
 ·rw[aj]at h;subst h;exact⟨az _,by rw[aW];exact aS _⟩
 ·rcases aC.mp h with h|h
  ·exact zx (aj.mp h)
  ·exact ha h
theorem Ib.dm{tg:Expr}{xs:List Nat}:Ib c n tg (.dm xs) (λ ds=>∃ys:List Nat,ys.Perm xs∧ds=D.nats ys):= λ A O s v R K r=>by
 refine bh.sj r ?_;clear r;intro a ts m ha ho hl hx;exact wm (wq K ha ho hl hx) λ it s' q=>⟨q.1,q.2.1,_,⟨_,jR hl,rfl⟩,q.2.2⟩
theorem dX(xs:List Nat):D.nats xs=D.ints (xs.map λ (x:Nat)=>(x:Int)):=by simp[D.nats,D.ints]
theorem EM{A:aK}{s:ae}{a:Addr}(hT:s.TypeIs (.ref a) "set"):wpAny (model c.prog c.w) A (gv (.ref a)) (λ z k_=>k_=s) aZ s:=by
 refine aa (iJ hT PySem.F.slot_set_len.lookup ?_);have Uw:splitId "set.__len__"=some ("set","__len__"):=by kernel_rfl
 dsimp only;refine aa (cg (T:="set") hT rX ?_);refine wF ?_;exact aa (fZ hT (ah rfl))
theorem xP{A:aK}{a:Addr}{xs:List Nat}{ts:List Tok}{m:Nat}(R:Rm A (n+2))(K:Ok c O s)(ha:a∉O)(ho:s.heap.get? a=some (cR (aT xs ts).toArray m (dc c.w xs)))(hl:ts.length=xs.length)(hx:xs.Sublist [0,1,2,3]):
  wpAny (model c.prog c.w) A (collect (.ref a)) (λ vs s'=>aB c [] [] s s'∧bF c s'∧a7 c.w O s'.heap vs (D.nats (l5 c.w a m xs ts))) aZ s:=by
 have h4:=hx.length_le;simp only[aJ,dp]at h4;have hlen:(D.nats (l5 c.w a m xs ts)).length≤1000:=by
  have:=(jR (w:=c.w) (a:=a) (m:=m) hl).length_eq;simp only[D.nats,aE];exact u_ this h4 rfl
 have g1:aB c [] [] s {s with heap:=s.heap.push (bP [] 0)}:=aB.push (tk:=s.toks);have S1:bF c {s with heap:=s.heap.push (bP [] 0)}:=K.br.push (tk:=s.toks);have zB:(s.heap.push (bP [] 0)).get? s.heap.objs.size=some (bP [] 0):=av _ rfl;have K1:Ok c (s.heap.objs.size::O) {s with heap:=s.heap.push (bP [] 0)}:=⟨S1,λ b h=>(aD.mp h).elim (λ h=>h▸aI zB) λ h=>ab (K.lt b h) g1.size,
  λ b h=>(aD.mp h).elim (λ h=>h▸K.br.size) (K.low b)⟩
 have zx:a≠s.heap.objs.size:=dO (aI ho);refine qI (T:="set") K.br.size (.refl ..) K.br ho rfl (by decide) (by decide) hlen (λ s' hT=>EM hT) ?_;refine wm (wq (n:=n) (tg:=.Name "x" default) K1 (λ h=>(aD.mp h).elim zx ha) (aA _ ho) hl hx) λ it aH q=>?_;refine jH q ?_;clear q;intro cE jy hi;refine dj (iI.wk (n:=n) hi cE.size K1.lt (by simp) S1.size λ z=>rfl) λ F G hF hG hi=>?_;refine cW (hi A.in1 (R.in1.le (by exact bq _))) λ P Kw p=>?_;have Ij:s.heap.objs.size<(s.heap.push (bP [] 0)).objs.size:=aI zB;exact⟨cE,jy,_,_,F,G,P,Kw,p,.refl,.inl (ao _ (.head _)),λ h=>ak _ (ab Ij (hF _ h).1),by simp,λ b hb=>ao _ (.tail _ hb),
  λ b hb=>af g1.size (hF b hb).1,λ e he=>af g1.dv (hG e he).1⟩
theorem AM{xs ys:List Nat}(hp:ys.Perm xs)(hx:xs.Sublist [0,1,2,3]):D.ints (ql (ys.map λ (x:Nat)=>(x:Int)))=D.nats xs:=by
 rw[dX]
 congr 1
 refine(pn (hp.symm.map _) ?_).symm;rw[tv];exact(List.Pairwise.sublist hx (R:=(· < ·)) (by decide)).imp λ h=>by lia
theorem Fn.sb{xs:List Nat}:Fn c (n+4) (.builtin "sorted") [.dm xs] [] (.lst (D.nats xs)):= λ A O s vs ks R K ej r'=>by
 refine fy ej λ v r=>?_;refine fG r' ?_;refine bh.sj r ?_;clear r;intro a ts m ha ho hl hx;have h4:=hx.length_le;simp only[aJ,dp]at h4;have hlen:=(jR (w:=c.w) (a:=a) (m:=m) hl).length_eq;have hS:vM c (n+2) [] (D.nats (l5 c.w a m xs ts)) (D.nats xs):=by
  rw[← AM (jR hl) hx,dX];exact vM.ints (by simp;exact Qb hlen h4 rfl)
 exact nV R (λ a h=>⟨K.lt a h,K.low a h⟩) K.br.size (az _) (by simp[D.nats];exact u_ hlen h4 rfl) (xP (n:=n) (R.in1.le (by exact bq _)) K ha ho hl hx) hS
end
section
variable {c:Cx}{n:Nat}{E:VE}{ρ ρ':List Sl}{O:List Addr}{s:ae}
theorem Fn.str{a:Int}(ha:a.natAbs<2^60):Fn c n (.type "str") [.int a] [] (.str (toString a)):= λ A O s vs ks R K ej r'=>by
 refine fy ej λ v r=>?_;refine fG r' ?_;refine bh.ek r λ t=>?_;refine PySem.P.str_of_int ?_ (Res.tok K.br qr)
 by_cases h0:a.natAbs=0
 ·rw[h0];decide
 ·exact ab ((Nat.log2_lt h0).mpr ha) (by decide)
theorem gF.PU{x y:Str}(h:x.length+y.length≤1000):gF c n .Add (.str x) (.str y) (.str (x++y)):= λ A O s eR eQ R K bE bB=>by
 refine bh.rg bE λ t=>?_;refine bh.rg bB λ u=>?_;exact PyProof.Rows.add_str (λ t' tk=>Res.tok K.br qr) (cQ h)
theorem Fn.isInt{i:Int}:Fn c n (.builtin "isinstance") [.int i,.lit (.type "int")] [] (.bool true):= λ A O s vs ks R K ej r'=>by
 refine pw ej λ v u r q=>?_;refine fG r' ?_;refine bh.ek r λ t=>?_;subst q;exact call_isinstance_yes (qN s i t) (by kernel_rfl) (by kernel_rfl) (Res.here K.br cO)
end
section
variable {c:Cx}{n:Nat}{E:VE}{ρ ρ':List Sl}{O:List Addr}{s:ae}
theorem a7.rep{w:a0}{h:Heap}{vs:List ag}{ds:List D}(r:a7 w O h vs ds):∀k:Nat,a7 w O h (al k vs).flatten (al k ds).flatten
 |0=>by show a7 w O h [] [];trivial
 |k+1=>by exact r.app (a7.rep r k)
theorem gz.mulL{l r:Expr}{pos:Pos}{ds:List D}{k:Int}(cq:Ev c n E ρ l (.lst ds))(cM:Ev c n E ρ r (.int k))(h0:0≤k)(hk:k≤1000)(hz:ds.length*k.toNat≤1000):gz c n E ρ (.BinOp l .Mult r pos) (.lst (al k.toNat ds).flatten):= λ A β O ad s R I=>
 wpAny_BinOp (cq.go R I λ v au cY bj bE=>cM.go R bj λ u aH cE ct bB=>by
  have bE:=cE.rep0 bE;obtain⟨a,vs,rfl,ha,⟨⟨cls,d,data,sl⟩,m,ho,ux,xG,hd⟩,q⟩:=bE;refine bh.ek bB λ t=>?_;simp only at ux xG hd;subst ux xG hd;have Eb:=q.length;have h9:vs.length*k.toNat≤1000:=by rw[Eb];exact hz
  have N3:vs.toArray.size*k.toNat≤1000:=by trivial
  refine wpAny_binaryOp_repeat_ref (T:="list") (U:="int") (by decide) ⟨_,ho,rfl⟩ (λ s'=>qN s' k t) noFill_list_mul PySem.F.fills_int_mul AA repeat_list PySem.F.slot_int_index.lookup
   (DR AA (qN aH k t) PySem.F.entry_int_rmul (PySem.F.args_int_rmul_2 _ _) (lm_int_rmul_list_any k t a vs.toArray m none sl)
    ⟨ho,rfl,⟨_,ho,rfl⟩,DR PySem.F.slot_list_mul ⟨_,ho,rfl⟩ PySem.F.entry_list_mul (PySem.F.args_list_mul_2 _ _)
     (lm_list_mul_any a vs.toArray m none sl k t (by simp[Builtin.List.listFitsIndex];lia) (by lia) (by simp[Builtin.List.listTooLong,sizeLine];exact af h9 (aG _ _)))
     ⟨ho,?_⟩⟩)
  rw[listMul_foldl_if];have hq:=q.rep k.toNat;have jy:=ct.br;refine⟨[aH.heap.objs.size],(cY.trans cE).trans (aB.push (tk:=aH.toks)),jy.push (tk:=aH.toks),⟨_,(al k.toNat vs).flatten,rfl,rfl,⟨_,0,av _ rfl,rfl,rfl,rfl⟩,?_⟩,λ b hb=>?_⟩
  ·exact(aB.push (c:=c) (G:=[]) (tk:=aH.toks)).fj (O:=O) (λ z=>nn) (λ b h=>(aC.mp h).elim (λ h=>.inr (by rw[aj]at h;exact h▸az _)) .inl) hq
  ·rw[aj]at hb;subst hb;exact⟨(cY.trans cE).size,by rw[aW];exact aS _⟩)
end
section
variable {c:Cx}{n:Nat}{E:VE}{ρ ρ':List Sl}{O:List Addr}{s:ae}
theorem Kh{p:Program}{w:a0}{h:Heap}{a:Addr}{xs:List Nat}{ts:List Tok}{m:Nat}(ho:h.get? a=some (cR (aT xs ts).toArray m (dc w xs)))(hl:ts.length=xs.length)(hx:xs.Sublist [0,1,2,3]):
  h.SetOf (intKind p w) a (λ k=>xs.any λ x=>decide ((x:Int)=k)) xs.length:=by
 have h4:=hx.length_le;simp only[aJ,dp]at h4;have lb:(aT xs ts).toArray.size=xs.length:=by simp[aT,hl]
 refine⟨_,_,_,_,ho,⟨rfl,rfl,rfl⟩,rfl,uE hx,λ k=>?_,by rw[lb];show xs.length<4096;exact L4 h4 rfl,iZ hl hx,lb⟩;rw[iV];constructor
 ·rintro⟨x,G8,hk⟩
  have hk:=of_decide_eq_true hk;obtain⟨i,hi,rfl⟩:=pZ.mp G8;refine⟨((xs[i]:Int),.int (xs[i]:Int) (ts[i]'(by exact Ea hl hi))),?_,?_⟩
  ·show _∈aT xs ts;simp only[aT,aM];exact⟨(xs[i],ts[i]'(by lia)),pZ.mpr ⟨i,by simp;exact KJ hl hi,by simp⟩,rfl⟩
  ·subst hk;exact qO _ _ _ _
 ·rintro⟨e,he,hk⟩
  have he:e∈aT xs ts:=he;simp only[aT,aM]at he;obtain⟨q,hq,rfl⟩:=he;refine⟨q.1,(js hq).1,?_⟩;have hk:vi k (.int (q.1:Int) q.2)=true:=hk;simp only[vi,beq_iff_eq]at hk;trivial
theorem cB.inSet{x:Nat}{xs:List Nat}:cB c n .In (.int (x:Int)) (.dm xs) (decide (x∈xs)):= λ A O s eR eQ R K bE bB=>by
 refine bh.ek bE ?_;clear bE;intro t;refine bh.sj bB ?_;clear bB;intro a ts m ha ho hl hx;refine wpAny_inSet_of (knd:=intKind c.prog c.w) (k:=(x:Int)) (qO _ _ _ _) rfl (Kh ho hl hx) ?_;have e:(xs.any λ y=>decide ((y:Int)=(x:Int)))=decide (x∈xs):=by
  rw[o4,iV];simp only[decide_eq_true_eq];exact⟨λ ⟨y,hy,e⟩=>by have:y=x:=(by lia);exact this▸hy,λ h=>⟨x,h,rfl⟩⟩
 rw[e];exact Res.tok K.br cO
end
section
variable {c:Cx}{n:Nat}{E:VE}{ρ ρ':List Sl}{O:List Addr}{s:ae}
theorem yq{vs:List ag}{xs:List Str}(q:oI vs xs):∃l:List (Str×Tok),vs=strValues l∧l.map (·.1)=xs:=by
 induction q with
 |nil=>exact⟨[],rfl,rfl⟩
 |cons x t _ ih=>
  obtain⟨l,rfl,rfl⟩:=ih;exact⟨(x,t)::l,rfl,rfl⟩
theorem Ev.join{o e:Expr}{apos pos:Pos}{sep:Str}{xs:List Str}(cq:Ev c n E ρ o (.str sep))(cM:Ev c n E ρ e (.lst (xs.map D.str)))(hj:JoinOk sep xs=true)(i9:autoParam (attributeBase o "join" E.env (eval o E.env)=eval o E.env) rf)(hs:autoParam (starEach [e] E.env=[(false,eval e E.env)]) rf)(iO:autoParam ((apos.endLine==pos.line)=true) rf):
  Ev c n E ρ (.Call (.Attribute o "join" apos) [e] [] pos) (.str (Txt.join sep xs)):= λ A β O ad s R I=>
 Call_method1 i9 hs iO (cq.go R I λ v au cY bj bE=>by
  refine bh.rg bE ?_;clear bE;intro t;refine SB.join (cM.go R bj λ u aH cE ct bB=>?_);refine bh.n6 bB ?_;clear bB;intro a vs ha hl q;refine cW (yq (tS q)) λ l z1 e=>?_;subst z1;exact⟨a,l,rfl,hl.isList,xs,e,hj,λ t' k=>Res.after (cY.trans cE) (Res.tok ct.br qr)⟩)
end
noncomputable def jT{α:Type}(n:Nat)(lt:Nat→Nat→Bool):KasT α→Option α
 |.ret a=>some a
 |.ask i j k=>if i<n∧j<n then jT n lt (k (lt i j))else none
theorem rE{α:Type}{n:Nat}{lt:Nat→Nat→Bool}{cmp:Nat→Nat→(Bool→ae→Prop)→ae→Prop}{s:ae}{Q:α→ae→Prop}(hc:∀i j C,i<n→j<n→C (lt i j) s→cmp i j C s):∀(t:KasT α) (a:α),jT n lt t=some a→Q a s→t.kasWp cmp Q s
 |.ret a,b,e,h=>by cases e;exact h
 |.ask i j k,b,e,h=>by
  replace e:(if i<n∧j<n then jT n lt (k (lt i j))else none)=some b:=e
  by_cases rH:i<n∧j<n
  ·rw[if_pos rH]at e;exact hc i j _ rH.1 rH.2 (rE hc (k (lt i j)) b e h)
  ·rw[if_neg rH]at e;cases e
theorem qA{α:Type}{n:Nat}{lt lt':Nat→Nat→Bool}(h:∀i j,i<n→j<n→lt i j=lt' i j):∀t:KasT α,jT n lt t=jT n lt' t
 |.ret _=>rfl
 |.ask i j k=>by
  show(if i<n∧j<n then jT n lt (k (lt i j))else none)=if i<n∧j<n then jT n lt' (k (lt' i j))else none
  by_cases rH:i<n∧j<n
  ·rw[if_pos rH,if_pos rH,h i j rH.1 rH.2];exact qA h _
  ·rw[if_neg rH,if_neg rH]
noncomputable def qt:List Nat→List (List Nat)
 |[]=>[[]]
 |x::xs=>(qt xs).flatMap λ p=>(aw (p.length+1)).map λ i=>p.take i++x::p.drop i
noncomputable def xc(r:List Nat):Bool:=match jT r.length (λ i j=>decide (r.getD i 0<r.getD j 0)) (nF r.length)with
 |some p=>p.toList.map (λ i=>r.getD i 0)==aw r.length&&p.toList.all λ i=>decide (i<r.length)
 |none=>false
noncomputable def A_(r:List Nat)(p:Array Nat):Bool:=p.toList.map (λ i=>r.getD i 0)==aw r.length&&p.toList.all λ i=>decide (i<r.length)
noncomputable def w6(n:Nat):KasT (Array Nat)→List (List Nat)→Bool
 |.ret p,rs=>rs.all λ r=>A_ r p
 |.ask i j k,rs=>rs.isEmpty||(DQ i n&&DQ j n&&w6 n (k true) (rs.filter λ r=>DQ (r.getD i 0) (r.getD j 0))&&w6 n (k false) (rs.filter λ r=> !DQ (r.getD i 0) (r.getD j 0)))
theorem Ho{n:Nat}(t:KasT (Array Nat))(rs:List (List Nat))(h:w6 n t rs=true)(r:List Nat)(hr:r∈rs):∃p,jT n (λ i j=>decide (r.getD i 0<r.getD j 0)) t=some p∧A_ r p=true:=by
 induction t generalizing rs with
 |ret p=>exact⟨p,rfl,bf.mp h r hr⟩
 |ask i j k ih=>
  have h:=(qZ.mp h).resolve_left (by
   cases rs with
   |nil=>exact nn hr
   |cons=>exact bz)
  have a:=aL.mp h;have b:=aL.mp a.1;have d:=aL.mp b.1;show∃p,(if i<n∧j<n then jT n _ (k (decide (r.getD i 0<r.getD j 0)))else none)=some p∧_;rw[if_pos ⟨cK d.1,cK d.2⟩]
  by_cases hl:r.getD i 0<r.getD j 0
  ·rw[decide_eq_true hl];exact ih true _ b.2 (aN.mpr ⟨hr,Nat.ble_eq_true_of_le hl⟩)
  ·rw[decide_eq_false hl];refine ih false _ a.2 (aN.mpr ⟨hr,?_⟩);cases e:DQ (r.getD i 0) (r.getD j 0)with
   |true=>exact absurd (cK e) hl
   |false=>rfl
theorem Kg:∀n,n≤6→∀r∈qt (aw n),xc r=true:=by
 intro n hn r hr;have all:(aw 7).all (λ n=>(qt (aw n)).all (λ r=>Nat.beq r.length n)&&w6 n (nF n) (qt (aw n)))=true:=by decide +kernel
 have h:=aL.mp (bf.mp all n (aO.mpr (cX hn)));refine cW (Ho _ _ h.2 r hr) λ p e l=>?_;have hz:=En (bf.mp h.1 r hr);unfold xc;rw[hz,e];unfold A_ at l;rw[hz]at l;exact l
section
variable {c:Cx}{n:Nat}{E:VE}{ρ ρ':List Sl}{O:List Addr}{s:ae}
noncomputable def A9:List Int→List Int→Bool
 |[],[]=>false
 |[],_::_=>true
 |_::_,[]=>false
 |x::xs,y::ys=>if x=y then A9 xs ys else decide (x<y)
theorem Fs(x y:Int)(xs ys:List Int):A9 (x::xs) (y::ys)=if x=y then A9 xs ys else decide (x<y):=rfl
theorem uk{vs:List ag}{i:Nat}(h:fb (vs.drop i) []):vs[i]? =none∧vs.length≤i:=by
 have:vs.drop i=[]:=by cases hd:vs.drop i with
  |nil=>rfl
  |cons _ _=>rw[hd]at h;cases h
 have:=Ep.mp this;exact⟨bk this,this⟩
theorem ints_cons{vs:List ag}{i:Nat}{x:Int}{xs:List Int}(h:fb (vs.drop i) (x::xs)):∃t,vs[i]? =some (.int x t)∧fb (vs.drop (i+1)) xs∧i<vs.length:=by
 cases hd:vs.drop i with
 |nil=>rw[hd]at h;cases h
 |cons v r=>
  rw[hd]at h;have gy:i<vs.length:=by
   rcases oW i vs.length with q|q
   ·exact q
   ·rw[oO q]at hd;cases hd
  rw[et gy]at hd;injection hd with e1 e2
  cases h with
  |cons _ t q=>
   rw[← e2]at q;exact⟨t,by rw[aq gy,e1],q,gy⟩
theorem H6{p:Program}{w:a0}{A:aK}{R:iu→ae→Prop}{a b:Addr}{oa ob:Obj}{vs us:List ag}{m k:Nat}{s:ae}(ha:s.heap.get? a=some oa)(da:oa.data=.seq vs.toArray m)(hb:s.heap.get? b=some ob)(db:ob.data=.seq us.toArray k):
  ∀(xs ys:List Int) (i:Nat),i≤vs.length→i≤us.length→fb (vs.drop i) xs→fb (us.drop i) ys→R (.ok (.ret (.bool (A9 xs ys)))) s→
  codeAny (model p w) A (.builtin "list.__eq__.loop" ⟨[.ref a,.ref b,rawInt i,rawInt 0],[]⟩) R s:=by
 have short:∀(i:Nat) (r:Bool),(vs[i]? =none∨us[i]? =none)→R (.ok (.ret (.bool (decide (vs.length<us.length))))) s→codeAny (model p w) A (.builtin "list.__eq__.loop" ⟨[.ref a,.ref b,rawInt i,rawInt 0],[]⟩) R s:=by
  intro i r hn h;refine bx wW ?_;show wpAny _ A.in1 (ja (.ref a)>>=_) _ _ s;refine aa (fu ha da ?_);refine aa (fu hb db ?_);have h1:vs.toArray[((i:Int)).toNat]? =vs[i]? :=by simp
  have h2:us.toArray[((i:Int)).toNat]? =us[i]? :=by simp
  have fin:wpAny (model p w) A.in1 (do
    let xs ← ja (.ref a)
    let ys ← ja (.ref b)
    ret (.bool (decide (xs.size<ys.size)))) (λ fin s'=>match fin with
     |.done f=>R (.ok f) s'
     |.again c'=>c'.quiet=true∧codeAny (model p w) A c' R s') (λ e s'=>R (.error e) s') s:=by
   refine aa (fu ha da ?_);refine aa (fu hb db ?_);exact ah (by trivial)
  rw[h1,h2]
  rcases hn with q|q
  ·rw[q];exact fin
  ·rw[q];cases vs[i]? <;>exact fin
 intro xs
 induction xs with
 |nil=>
  intro ys i hi hj hx hy h;refine xa (uk hx) λ e1 l1=>?_;refine short i true (.inl e1) ?_;cases ys with
  |nil=>
   refine xa (uk hy) λ z l2=>?_;rw[decide_eq_false (by lia)];exact h
  |cons y ys=>
   refine cH (ints_cons hy) λ z z z l2=>?_;rw[decide_eq_true (by exact b8 l1 l2)];exact h
 |cons x xs ih=>
  intro ys i hi hj hx hy h;refine cH (ints_cons hx) λ t e1 q1 l1=>?_;cases ys with
  |nil=>
   refine xa (uk hy) λ e2 l2=>?_;refine short i true (.inr e2) ?_;rw[decide_eq_false (by lia)];exact h
  |cons y ys=>
   refine cH (ints_cons hy) λ u e2 q2 l2=>?_;refine bx wW ?_;show wpAny _ A.in1 (ja (.ref a)>>=_) _ _ s;refine aa (fu ha da ?_);refine aa (fu hb db ?_);have h1:vs.toArray[((i:Int)).toNat]? =some (.int x t):=by simpa using e1
   have h2:us.toArray[((i:Int)).toNat]? =some (.int y u):=by simpa using e2
   rw[h1,h2];refine aa (wpAny_eqBool_int ?_);rw[Fs]at h
   by_cases L_:x=y
   ·rw[if_pos L_]at h;rw[if_pos (by simp[L_])];exact ah ⟨bX wV _,ih ys (i+1) (by trivial) (by trivial) q1 q2 h⟩
   ·rw[if_neg L_]at h;rw[if_neg (by simp[L_])];refine aa (fu ha da ?_);refine aa (fu hb db ?_);rw[h1,h2];refine aa (show wpAny _ _ (compareOp .Lt (.int x t) (.int y u)) _ _ _ from lt_int ?_);exact ah h
end
section
variable {c:Cx}{n:Nat}{E:VE}{ρ ρ':List Sl}{O:List Addr}{s:ae}
theorem tR:isSubtype (.type "list") (.type "list")=pure true:=by kernel_rfl
theorem xT{p:Program}{w:a0}{A:aK}{X:ag→ae→Prop}{a b:Addr}{oa ob:Obj}{vs us:List ag}{m k:Nat}{s:ae}{xs ys:List Int}{Q:ag→ae→Prop}(ha:s.heap.get? a=some oa)(ca:oa.cls=.type "list")(da:oa.data=.seq vs.toArray m)(hb:s.heap.get? b=some ob)(cb:ob.cls=.type "list")(db:ob.data=.seq us.toArray k)(hx:fb vs xs)(hy:fb us ys)(h:Q (.bool (A9 xs ys)) s):wpAny (model p w) A (call (.builtin "list.__lt__") [.ref a,.ref b]) Q X s:=by
 have hT:s.TypeIs (.ref a) "list":=⟨_,ha,ca⟩;have Eg:s.TypeIs (.ref b) "list":=⟨_,hb,cb⟩;refine lW (f7 o5.plain PySem.F.entry_list_lt (o5.check _ _ _ _ _ _ _ _ hT (PySem.F.args_list_lt_2 _ _) ?_));show wpAny _ _ (isInstance (.ref b) (.type "list")>>=_) _ _ s;refine aa (cg (T:="list") Eg tR ?_);refine wF ?_;refine ah ⟨bX wV _,?_⟩;exact H6 ha da hb db xs ys 0 (bS _) (bS _) (by trivial) (by trivial) h
theorem Fu{p:Program}{w:a0}{A:aK}{X:ag→ae→Prop}{a b:Addr}{oa ob:Obj}{vs us:List ag}{m k:Nat}{s:ae}{xs ys:List Int}{Q:Bool→ae→Prop}(hu:A.units<cLine)(ha:s.heap.get? a=some oa)(ca:oa.cls=.type "list")(da:oa.data=.seq vs.toArray m)(hb:s.heap.get? b=some ob)(cb:ob.cls=.type "list")(db:ob.data=.seq us.toArray k)(hx:fb vs xs)(hy:fb us ys)(h:Q (A9 xs ys) s):wpAny (model p w) A (keyLt' oneType' (.ref a) (.ref b)) Q X s:=by
 rw[keyLt'_oneType,oneLt'_eq];refine wT ?_;refine aa (wpAny_cRoomFor hu ?_);refine aa (wpAny_callSpecialIfBound?_slot ⟨_,ha,ca⟩ o5 (xT ha ca da hb cb db hx hy ?_));exact iU h
end
theorem yO{l p:List Nat}(h:p.Perm l):p∈qt l:=by
 induction l generalizing p with
 |nil=>rw[List.perm_nil.mp h];exact .head _
 |cons x xs ih=>
  refine iz (List.append_of_mem (h.mem_iff.mpr (.head _))) λ a b e=>?_;subst e;exact kZ.mpr ⟨a++b,ih ((List.perm_cons x).mp (List.perm_middle.symm.trans h)),aM.mpr ⟨a.length,aO.mpr (by rw[aY];exact kq (cD _ _)),by simp⟩⟩
theorem A8(x:List Int):A9 x x=false:=by
 induction x with
 |nil=>rfl
 |cons x xs ih=>rw[Fs,if_pos rfl];exact ih
theorem Dg{x y:List Int}(h:A9 x y=true):A9 y x=false:=by
 induction x generalizing y with
 |nil=>cases y with|nil=>exact bz h|cons=>rfl
 |cons x xs ih=>
  cases y with
  |nil=>exact bz h
  |cons y ys=>
   rw[Fs]at h⊢
   by_cases e:x=y
   ·subst e;rw[if_pos rfl]at h⊢;exact ih h
   ·rw[if_neg e]at h;rw[if_neg (λ q=>e q.symm)];exact decide_eq_false (sW.mpr (bJ (of_decide_eq_true h)))
theorem Ih{α:Type}[BEq α][LawfulBEq α]{lt:α→α→Bool}(Qg:∀x,lt x x=false)(TN:∀{x y},lt x y=true→lt y x=false){ys:List α}(hs:ys.Pairwise λ x y=>lt x y=true){x y:α}(hx:x∈ys)(hy:y∈ys):lt x y=decide (ys.idxOf x<ys.idxOf y):=by
 have wt:=dW hx;have Im:=dW hy;have ex:ys[ys.idxOf x]=x:=gH wt;have ey:ys[ys.idxOf y]=y:=gH Im;have h:=Ag.mp hs
 rcases u5 (ys.idxOf x) (ys.idxOf y)with q|q|q
 ·have:=h _ _ wt Im q;rw[ex,ey]at this;rw[this,decide_eq_true q]
 ·have:x=y:=by rw[← ex,← ey];simp[q]
  subst this;rw[Qg,decide_eq_false (ak _)]
 ·have:=h _ _ Im wt q;rw[ex,ey]at this;rw[TN this,decide_eq_false (Nat.not_lt.mpr (bV q))]
theorem uf{α:Type}[BEq α][LawfulBEq α]{lt:α→α→Bool}(Qg:∀x,lt x x=false)(TN:∀{x y},lt x y=true→lt y x=false){xss ys:List α}(z:α)(hp:ys.Perm xss)(hs:ys.Pairwise λ x y=>lt x y=true)(h6:xss.length≤6):
  ∃p,jT xss.length (λ i j=>lt (xss.getD i z) (xss.getD j z)) (nF xss.length)=some p∧p.toList.map (λ i=>xss.getD i z)=ys∧∀i∈p.toList,i<xss.length:=by
 have hl:=hp.length_eq;have xE:ys.Nodup:=hs.imp λ {a b} h e=>by subst e;rw[Qg]at h;cases h
 have pD:∀i (h:i<xss.length),xss[i]∈ys:= λ i h=>hp.mem_iff.mpr (f_ h);have hr:(xss.map λ x=>ys.idxOf x).Perm (aw xss.length):=by
  refine(hp.symm.map _).trans (List.Perm.of_eq ?_);rw[← hl];refine vp (by simp) λ i h1 h2=>?_;simp only[List.getElem_map,List.getElem_range];exact List.Nodup.idxOf_getElem xE i (by simpa using h1)
 have WA:(xss.map λ x=>ys.idxOf x).length=xss.length:=by exact aE _
 have key:=Kg xss.length h6 _ (yO hr);unfold xc at key;rw[WA]at key;have F_:∀i,i<xss.length→(xss.map λ x=>ys.idxOf x).getD i 0=ys.idxOf (xss.getD i z):= λ i h=>by simp[h]
 rw[qA (lt':= λ i j=>lt (xss.getD i z) (xss.getD j z)) (λ i j hi hj=>by
  rw[F_ i hi,F_ j hj];have e1:xss.getD i z=xss[i]:=by simp[hi]
  have e2:xss.getD j z=xss[j]:=by simp[hj]
  rw[e1,e2];exact(Ih Qg TN hs (pD i hi) (pD j hj)).symm)]at key
 cases hk:jT xss.length (λ i j=>lt (xss.getD i z) (xss.getD j z)) (nF xss.length)with
 |none=>rw[hk]at key;cases key
 |some p=>
  rw[hk]at key;simp only[bg,beq_iff_eq,bf,decide_eq_true_eq]at key;obtain⟨k1,k2⟩:=key;refine⟨p,rfl,?_,k2⟩;have e1:p.toList.map (λ i=>xss.getD i z)=(p.toList.map λ i=>(xss.map λ x=>ys.idxOf x).getD i 0).map λ j=>ys.getD j z:=by
   rw[bI];refine cj λ i hi=>?_;have gy:=k2 i hi;simp only[Function.comp];rw[F_ i gy];have e2:xss.getD i z=xss[i]:=by simp[gy]
   rw[e2];have wt:=dW (pD i gy);have:ys[ys.idxOf xss[i]]=xss[i]:=gH wt;rw[ai,aq wt,this];rfl
  rw[e1,k1,← hl];refine vp (by simp) λ i h1 h2=>?_;simp[h2]
theorem Di{xss ys:List (List Int)}(hp:ys.Perm xss)(hs:ys.Pairwise λ x y=>A9 x y=true)(h6:xss.length≤6):
  ∃p,jT xss.length (λ i j=>A9 (xss.getD i []) (xss.getD j [])) (nF xss.length)=some p∧p.toList.map (λ i=>xss.getD i [])=ys∧∀i∈p.toList,i<xss.length:=
 uf A8 Dg [] hp hs h6
section
variable {c:Cx}{n:Nat}{E:VE}{ρ ρ':List Sl}{O:List Addr}{s:ae}
theorem qC{w:a0}{h:Heap}:∀{vs:List ag} {xss:List (List Int)},a7 w O h vs (D.jl xss)→∀i,i<xss.length→∃a us,vs.getD i .none=.ref a∧eC h a us.toArray∧fb us (xss.getD i [])
 |[],[],_,i,hi=>by simp at hi
 |v::vs,x::xss,r,i,hi=>by
  have r:a7 w O h (v::vs) (.lst (D.ints x)::D.jl xss):=r;refine xa r ?_;clear r;intro r1 r2;cases i with
  |zero=>
   refine bh.n6 r1 ?_;clear r1;intro a us z hl q;exact⟨a,us,rfl,hl,mz q⟩
  |succ i=>
   refine dj (qC r2 i (by simpa using hi)) λ a us e hl q=>?_;exact⟨a,us,by trivial,hl,by trivial⟩
 |[],_::_,r,_,_=>by have:=r.length;trivial
 |_::_,[],r,_,_=>by have:=r.length;trivial
theorem wc{w:a0}{h:Heap}{vs:List ag}{xss:List (List Int)}(r:a7 w O h vs (D.jl xss)):∀p:List Nat,(∀i∈p,i<xss.length)→a7 w O h (p.map λ i=>vs.getD i .none) (D.jl (p.map λ i=>xss.getD i []))
 |[],_=>by show a7 w O h [] [];trivial
 |i::p,hp=>by
  show a7 w O h (vs.getD i .none::_) (.lst (D.ints (xss.getD i []))::D.jl (p.map λ i=>xss.getD i []));refine⟨?_,wc r p λ j hj=>hp j (.tail _ hj)⟩;have hi:=hp i (.head _);have:=r.getD i (by simpa[D.jl]using hi);have e:(D.jl xss).getD i .none=.lst (D.ints (xss.getD i [])):=by simp[D.jl,hi]
  rwa[e]at this
end
section
variable {c:Cx}{n:Nat}{E:VE}{ρ ρ':List Sl}{O:List Addr}{s:ae}
theorem Ev.gl{x:Str}{p:Pos}{v:ag}(hx:E.env.kindOf x=some .globalImplicit)(hg:cV c x v)(hd:autoParam ((x==("__debug__":Str))=false) rf):Ev c n E ρ (.Name x p) (.lit v):= λ A β O ad s R I=>
 iM I hx hg hd (Res.here I.br (by rfl))
theorem Ev.gd{x:Str}{p:Pos}{v:ag}{d:D}(hx:E.env.kindOf x=some .globalImplicit)(hg:cV c x v)(hr:∀O s,Ok c O s→bh c.w O s.heap v d)(hd:autoParam ((x==("__debug__":Str))=false) rf):Ev c n E ρ (.Name x p) d:= λ A β O ad s R I=>
 iM I hx hg hd (Res.here I.br (hr O s I.o))
noncomputable def se(K:Frag)(D:Addr):Bool:=plainGet K D "__class__"&&hasDictIn K D&&findIn K (.ref D) "__class__"==some (some (.builtin "object.__class__"))&&
 specialIn K (.builtin "object.__class__") "__get__"==some (some (.builtin "getset_descriptor.__get__"))&&takesIn K (.builtin "object.__class__")==some true&&mroIn K D (.type "object")==some true
theorem B7{K:Frag}{x D:Addr}{ox od:Obj}(h:se K D=true):KitX K (.ref x) (.ref D) (λ h=>InstAt h x ox D (some od)):=by
 unfold se at h;simp only[bg,beq_iff_eq]at h;refine xa h ?_;clear h;intro y1 h6;refine xa y1 ?_;clear y1;intro y2 h5;refine xa y2 ?_;clear y2;intro y3 h4;refine xa y3 ?_;clear y3;intro y4 h3;refine xa y4 ?_;clear y4;intro h1 h2;exact kitx_own h1 h2 h3 h4 h5 h6
theorem Fn.jk{i:Int}{cv:ag}{b:Bool}(e:kitOne c.K (.type "int") cv=some b):Fn c n (.builtin "isinstance") [.int i,.lit cv] [] (.bool b):= λ A O s vs ks R K ej r'=>by
 refine pw ej λ v u r q=>?_;refine fG r' ?_;refine bh.ek r λ t=>?_;subst q;exact kia_one kitx_int K.br.fY trivial e (by simp) λ tk=>Res.tok K.br cO
theorem rm{w:a0}{h:Heap}:∀{vs us:List ag},a7 w O h vs (us.map D.lit)→vs=us
 |[],[],_=>rfl
 |v::vs,u::us,r=>by
  have r:a7 w O h (v::vs) (.lit u::us.map D.lit):=r;rw[r.1,rm r.2]
 |[],_::_,r=>by have:=r.length;trivial
 |_::_,[],r=>by have:=r.length;trivial
theorem Fn.oc{i:Int}{Py:List ag}{b:Bool}(e:kitAny c.K (.type "int") Py=some b):Fn c n (.builtin "isinstance") [.int i,.tup (Py.map D.lit)] [] (.bool b):= λ A O s vs ks R K ej r'=>by
 refine pw ej λ v u r q=>?_;refine fG r' ?_;refine bh.ek r ?_;clear r;intro t;refine bh.qh q ?_;clear q;intro a us z y2 q;refine nN y2 ?_;clear y2;intro o ho hc m hd;cases rm q;obtain⟨cl,dd,dt,sl⟩:=o;simp only at hc hd;subst hc;subst hd;exact kia_tup kitx_int K.br.fY trivial ho e (by simp) λ tk=>Res.tok K.br cO
theorem Fn.gj{C:Addr}{fs:List (Str×D)}{cv:ag}{b:Bool}(own:se c.K C=true)(e:kitOne c.K (.ref C) cv=some b):Fn c n (.builtin "isinstance") [.inst C fs,.lit cv] [] (.bool b):= λ A O s vs ks R K ej r'=>by
 refine pw ej λ v u r q=>?_;refine fG r' ?_;refine bh.qE r ?_;clear r;intro a dx es m ps z z h1 h2 z z;subst q;exact kia_one (B7 own) K.br.fY (iG h1 h2) e (by simp) λ tk=>Res.tok K.br cO
theorem Fn.Dj{C:Addr}{fs:List (Str×D)}{Py:List ag}{b:Bool}(own:se c.K C=true)(e:kitAny c.K (.ref C) Py=some b):Fn c n (.builtin "isinstance") [.inst C fs,.tup (Py.map D.lit)] [] (.bool b):= λ A O s vs ks R K ej r'=>by
 refine pw ej λ v u r q=>?_;refine fG r' ?_;refine bh.qE r ?_;clear r;intro x dx es m ps z z h1 h2 z z;refine bh.qh q ?_;clear q;intro a us z y2 q;refine nN y2 ?_;clear y2;intro o ho hc m hd;cases rm q;obtain⟨cl,dd,dt,sl⟩:=o;simp only at hc hd;subst hc;subst hd;exact kia_tup (B7 own) K.br.fY (iG h1 h2) ho e (by simp) λ tk=>Res.tok K.br cO
theorem eA.flat{w:a0}{O O':List Addr}{h:Heap}:∀{ps:List (Str×ag)} {fs:List (Str×D)},fs.all (λ p=>p.2.flat)=true→eA w O h ps fs→eA w O' h ps fs
 |[],[],_,_=>by trivial
 |p::ps,q::qs,hf,r=>by
  rw[List.all_cons,bg]at hf;exact⟨r.1,bh.flat hf.1 r.2.1,eA.flat hf.2 r.2.2⟩
 |[],_::_,_,r=>r.elim
 |_::_,[],_,r=>r.elim
theorem mG.Tl{f:ag}{ds:List D}{kws:List (Str×D)}{u:Option Addr}{C:Addr}{fs:List (Str×D)}(h:mG c n f ds kws (.inst u C fs))(hf:fs.all (λ p=>p.2.flat)=true):P6 c n f ds kws (.inst C fs):= λ A O s vs ks R K r r'=>
 wm (h A O s vs ks R K r r') λ v s' q=>by
  refine eG q ?_;clear q;intro fp g S r jx;refine⟨g,S,λ O' Dx=>?_⟩;refine iz r ?_;clear r;intro a dx zh;refine c8 zh ?_;clear zh;intro es n ps z1 z2 zh;refine b_ zh ?_;clear zh;intro hu ku e zh;refine b_ zh ?_;clear zh;intro e' hz hm r;subst z1;subst z2;have no:∀b∈[a,dx],b∉O':= λ b ha hb=>ak _ (ab (Dx b hb) (jx b ha).1);exact⟨a,dx,es,n,ps,rfl,no a (.head _),no dx (.tail _ (.head _)),e,e',hm,eA.flat hf r⟩
end
section
variable {c:Cx}{n:Nat}{E:VE}{ρ ρ':List Sl}{O:List Addr}{s:ae}
variable {A:aK}{tg:Expr}{it:ag}{k:Snap}{F F':List Addr}{G:List Nat}{P:List Addr→List D→ae→Prop}
noncomputable def rz{α:Type}(lt:α→α→Bool):α→List α→α
 |b,[]=>b
 |b,x::xs=>rz lt (if lt x b then x else b) xs
theorem Fl{α:Type}(lt:α→α→Bool)(b x:α)(xs:List α):rz lt b (x::xs)=rz lt (if lt x b then x else b) xs:=rfl
theorem yT{α:Type}{lt:α→α→Bool}:∀{xs:List α} {b:α},rz lt b xs∈b::xs
 |[],b=>by exact .head _
 |x::xs,b=>by
  have:=yT (lt:=lt) (xs:=xs) (b:=if lt x b then x else b);rw[Fl]
  rcases aD.mp this with h|h
  ·rw[h];split
   ·exact .tail _ (.head _)
   ·exact .head _
  ·exact .tail _ (.tail _ h)
theorem Ok.nil(S:bF c s):Ok c [] s:=⟨S,λ z=>nn,λ z=>nn⟩
theorem Fj{α:Type}{f:α→D}{lt:α→α→Bool}{m:Nat}(R:Rm A.in1 m){S:Addr}(zz:c.B≤S)(zy:k.s.heap.objs.size≤S)(Eh:S∉k.K):∀(xs:List α) (b:α) (F:List Addr) (s:ae) (vb:ag) (e:Nat),Wk c A.in1 tg it k F G P→S∉F→bF c s→cA c k s→P F (xs.map f) s→
  s.heap.get? S=some (bP [vb,vb] e)→bh c.w (S::(F++k.O)) s.heap vb (f b)→(∀x∈b::xs,∀y∈b::xs,cB c m .Lt (f x) (f y) (lt x y))→
  codeAny (model c.prog c.w) A (.builtin "min.loop" ⟨[it,.none,.ref S],[]⟩) (λ r s'=>∃v,r=.ok (.ret v)∧aB c (S::F) G s s'∧bF c s'∧bh c.w (S::k.O) s'.heap v (f (rz lt b xs))) s:=by
 intro w
 induction w with
 |nil=>
  intro b F s vb e K sr St hs p hS r j;refine bx nK ?_;show wpAny _ A.in1 (seqItems? (.ref S)>>=_) _ _ s;refine aa (gQ hS rfl ?_);show wpAny _ A.in1 (tryCatch (pyNext it) _>>=_) _ _ s;refine aa (je (wm (K.T.done St hs K.hB p) λ r' au q=>?_));refine jH q ?_;clear q;intro z1 x S';subst z1;have vg:=x.keep _ _ sr hS (c0 rfl);show wpAny _ A.in1 (updateSeq S (λ j=> #[])>>=_) _ _ _;refine aa (ff vg rfl (aa (jd (ah ?_))));have g2:aB c [S] [] au {au with heap:=au.heap.update S (aP λ j=> #[])}:=dS (tk:=au.toks) vg (c0 rfl);refine⟨_,rfl,(x.mono (λ a h=>.inl (.tail _ h)) λ j h=>.inl h).trans (g2.mono (λ a h=>.inl (by obtain rfl:=m1 h;exact .head _)) λ j=>nn),e_ (tk:=au.toks) S' zz,?_⟩;exact g2.rep (O:=S::k.O) (λ a h=>.inl (by obtain rfl:=m1 h;exact .head _)) (nL.refl _ _) (x.rep (O:=S::(F++k.O)) vV (λ a h=>.inl ((aD.mp h).elim (λ h=>h▸ .head _) λ h=>.tail _ (ao _ h))) r)
 |cons x xs ih=>
  intro b F s vb e K sr St hs p hS r hc;refine bx nK ?_;show wpAny _ A.in1 (seqItems? (.ref S)>>=_) _ _ s;refine aa (gQ hS rfl ?_);show wpAny _ A.in1 (tryCatch (pyNext it) _>>=_) _ _ s;refine aa (je (wm (K.step St hs p) λ r au q=>?_));refine cW q ?_;clear q;intro v z1 q;subst z1;refine q _ _ _ _ λ s' F' g S' eO hu K' rv p'=>?_;have pF:=hu.not sr (aI hS);have hz:S<s.heap.objs.size:=aI hS;have rv:=K'.rep hs rv (.inr zy) hz;have rb:=g.rep vV (E_ hu) r;have vg:=g.keep _ _ sr hS (c0 rfl);have MM:∀{y:α},y∈b::xs→y∈b::x::xs:= λ hy=>(aD.mp hy).elim (λ h=>h▸ .head _) λ h=>.tail _ (.tail _ h);have less:∀{v:ag} {d:D} {h:Heap},bh c.w (S::(F'++k.O)) h v d→bh c.w [] h v d:= λ r=>bh.kept (O':=[]) (.refl _ _) (λ j=>nn) r;show wpAny _ A.in1 (tryCatch (holding [v,v] (richCompare .Lt v vb>>=_)) _>>=_) _ _ _;refine aa (je (aV (aa ?_)));have cm:=hc x (.tail _ (.head _)) b (.head _) A.in1 [] s' v vb R (Ok.nil S') (less rv) (less rb);refine wm (show wpAny _ _ (richCompare .Lt v vb) _ _ _ from cm) λ u aH q=>?_;refine jH q ?_;clear q;intro g2 S2 ru;subst ru;refine aa (aV (iU ?_));refine aa (jd (ah ?_));have zA:=g2.keep _ _ (nn) vg (c0 rfl);have p2:=K.T.frame p' g2 S2 (λ j=>nn) λ j=>nn;have Ce:=eO.step g2 λ j=>nn;have VU:=g2.rep0 rv;have VW:=g2.rep0 rb;have gg:=(g.mono (O':=S::F) (G':=G) (λ a h=>.inl (.tail _ h)) λ j h=>.inl h).trans (g2.mono (λ j=>nn) λ j=>nn);cases hb:lt x b with
  |true=>
   refine wT ?_;refine aa (ff zA rfl (aa (jd ?_)));have g3:aB c [S] [] aH {aH with heap:=aH.heap.update S (aP λ j=> #[v,v])}:=dS (tk:=aH.toks) zA (c0 rfl);have S3:bF c {aH with heap:=aH.heap.update S (aP λ j=> #[v,v])}:=e_ (tk:=aH.toks) S2 zz;have p3:=K.T.frame p2 g3 S3 (λ a h hf=>by obtain rfl:=m1 h;exact pF hf) λ j=>nn;have JB:=Ce.step g3 λ a h=>by obtain rfl:=m1 h;exact⟨.inr zy,Eh⟩
   have in1:∀a∈[S],a∈S::(F'++k.O)∨aH.heap.objs.size≤a:= λ a h=>.inl (by obtain rfl:=m1 h;exact .head _);refine xe (ft (λ j=> #[v,v]) zA) λ e3 h3=>?_;refine ah ⟨bX gu _,?_⟩;refine bc (ih x F' _ v _ K' pF S3 JB p3 h3 (g3.rep in1 (nL.refl _ _) VU) λ y hy z hz=>hc y (.tail _ hy) z (.tail _ hz)) λ r s4 q=>?_;refine eG q ?_;clear q;intro u z1 g4 S4 r4;subst z1;refine⟨u,rfl,(gg.trans (g3.mono (λ a h=>.inl (by obtain rfl:=m1 h;exact .head _)) λ j=>nn)).comp g4 (λ a h=>(aD.mp h).elim (λ h=>.inl (h▸ .head _)) λ h=>(hu a h).imp (λ h=>.tail _ h) And.left) (λ j h=>.inl h),S4,?_⟩;show bh c.w (S::k.O) s4.heap u (f (rz lt (if lt x b then x else b) xs));rw[hb];exact r4
  |false=>
   refine wF ?_;refine aa (jd ?_);refine ah ⟨bX gu _,?_⟩;refine bc (ih b F' _ vb _ K' pF S2 Ce p2 zA VW λ y hy z hz=>hc y (MM hy) z (MM hz)) λ r s4 q=>?_;refine eG q ?_;clear q;intro u z1 g4 S4 r4;subst z1;refine⟨u,rfl,gg.comp g4 (λ a h=>(aD.mp h).elim (λ h=>.inl (h▸ .head _)) λ h=>(hu a h).imp (λ h=>.tail _ h) And.left) (λ j h=>.inl h),S4,?_⟩;show bh c.w (S::k.O) s4.heap u (f (rz lt (if lt x b then x else b) xs));rw[hb];exact r4
theorem B2{α:Type}{f:α→D}{lt:α→α→Bool}{x:α}{xs:List α}{s₀ aH:ae}{it:ag}{nm:Str}{p:Pos}(R:Rm A (n+1))(hO:∀a∈O,a<s₀.heap.objs.size)(hB:c.B≤s₀.heap.objs.size)(fV:aB c [] [] s₀ aH)(jy:bF c aH)(hi:iI c n (.Name nm p) O [] s₀ ((x::xs).map f) it aH)(hc:∀y∈x::xs,∀z∈x::xs,cB c n .Lt (f y) (f z) (lt y z)):
  codeAny (model c.prog c.w) A (.builtin "min.loop" ⟨[it,.none,.ref aH.heap.objs.size],[]⟩) (λ r s'=>∃v,r=.ok (.ret v)∧aB c [] [] s₀ s'∧bF c s'∧bh c.w O s'.heap v (f (rz lt x xs))) {aH with heap:=aH.heap.push (bP [] 0)}:=by
 refine dj (hi.wk fV.size hO (λ j=>nn) hB λ j=>rfl) λ F G hF hG hi=>?_;refine cW (hi A.in1 R.in1) λ P Kw rp=>?_;have g1:aB c [] [] aH {aH with heap:=aH.heap.push (bP [] 0)}:=aB.push (tk:=aH.toks);have S1:bF c {aH with heap:=aH.heap.push (bP [] 0)}:=jy.push (tk:=aH.toks);have QC:aH.heap.objs.size∉F:= λ hm=>ak _ (hF _ hm).2;have hS:({aH with heap:=aH.heap.push (bP [] 0)}:ae).heap.get? aH.heap.objs.size=some (bP [] 0):=av _ rfl;have zk:=(cA.refl (c:=c) (k:=⟨aH,F++O,[]⟩)).step g1 λ j=>nn;have p1:=Kw.T.frame rp g1 S1 (λ j=>nn) λ j=>nn;have zz:c.B≤aH.heap.objs.size:=af hB fV.size;refine bx nK ?_;show wpAny _ A.in1 (seqItems? (.ref aH.heap.objs.size)>>=_) _ _ _;refine aa (gQ hS rfl ?_);show wpAny _ A.in1 (tryCatch (pyNext it) _>>=_) _ _ _;refine aa (je (wm (Kw.step S1 zk p1) λ r au q=>?_));refine cW q ?_;clear q;intro v z1 q;subst z1;refine q _ _ _ _ λ s' F' g S' eO hu K' rv p'=>?_;have Hd:aH.heap.objs.size<({aH with heap:=aH.heap.push (bP [] 0)}:ae).heap.objs.size:=aI hS;have OL:=hu.not QC Hd;have rv:=K'.rep zk rv (.inr (az _)) Hd;have vg:=g.keep _ _ QC hS (c0 rfl);show wpAny _ A.in1 (updateSeq aH.heap.objs.size (λ j=> #[v,v])>>=_) _ _ _;refine aa (ff vg rfl ?_);have g3:aB c [aH.heap.objs.size] [] s' {s' with heap:=s'.heap.update aH.heap.objs.size (aP λ j=> #[v,v])}:=dS (tk:=s'.toks) vg (c0 rfl);have S3:bF c {s' with heap:=s'.heap.update aH.heap.objs.size (aP λ j=> #[v,v])}:=e_ (tk:=s'.toks) S' zz;have p3:=Kw.T.frame p' g3 S3 (λ a h hf=>by rw[aj]at h;subst h;exact OL hf) λ j=>nn;have JB:=eO.step g3 λ a h=>by rw[aj]at h;subst h;exact⟨.inr (az _),by simp⟩
 refine xe (ft (λ j=> #[v,v]) vg) λ e3 h3=>?_;refine ah ⟨bX gu _,?_⟩;refine bc (Fj (f:=f) (lt:=lt) R.in1 zz (az _) (by simp) xs x F' _ v _ K' OL S3 JB p3 h3 (g3.rep (λ a h=>.inl (by rw[aj]at h;subst h;exact .head _)) (nL.refl _ _) rv) hc) λ r s4 q=>?_;refine eG q ?_;clear q;intro u z1 g4 S4 r4;subst z1;refine⟨u,rfl,?_,S4,bh.kept (.refl _ _) (λ a h=>.inl (.tail _ (ao _ h))) r4⟩;have gg:aB c (aH.heap.objs.size::F) G {aH with heap:=aH.heap.push (bP [] 0)} s4:=((g.mono (λ a h=>.inl (.tail _ h)) λ j h=>.inl h).trans (g3.mono (λ a h=>.inl (by rw[aj]at h;subst h;exact .head _)) λ j=>nn)).comp g4 (λ a h=>(aD.mp h).elim (λ h=>.inl (h▸ .head _)) λ h=>(hu a h).imp (λ h=>.tail _ h) And.left) λ j h=>.inl h;exact(fV.trans g1).comp gg (λ a ha=>.inr ((aD.mp ha).elim (λ h=>h▸fV.size) λ h=>(hF a h).1)) λ e he=>.inr (hG e he).1
theorem Fn.H4{α:Type}{f:α→D}{lt:α→α→Bool}{x:α}{xs:List α}(hc:∀y∈x::xs,∀z∈x::xs,cB c n .Lt (f y) (f z) (lt y z)):Fn c (n+1) (.builtin "min") [.lst ((x::xs).map f)] [] (f (rz lt x xs)):= λ A O s vs ks R K ej r'=>by
 refine fy ej λ v r=>?_;refine fG r' ?_;refine ko PySem.F.kind_min Ek Em (PySem.F.args_min1 _) ?_;show wpAny _ A.in1 (dE "min" ["key","default"] 0 ⟨[],[]⟩>>=_) _ _ s;refine aa (dg (show dE "min" ["key","default"] 0 ⟨[],[]⟩=pure [none,none]from rfl) ?_);refine vW ?_;refine wb (Ib.list (c:=c) (n:=n) (tg:=.Name "x" ⟨0,0,0,0⟩) (ds:=(x::xs).map f) A.in1 O s v R.in1 K r) λ it aH q=>?_;refine nO q ?_;clear q;intro fV jy ds z1 hi;subst z1;refine aa (bo ?_);refine ah ⟨bX gu _,bc (B2 (f:=f) (lt:=lt) R K.lt K.br.size fV jy hi hc) λ r s' q=>?_⟩;refine eG q ?_;clear q;intro v z1 g S r;subst z1;exact⟨g,S,r⟩
theorem Fn.min_two{a b:Int}:Fn c (n+1) (.builtin "min") [.int a,.int b] [] (.int (if b<a then b else a)):= λ A O s vs ks R K ej r'=>by
 refine pw ej λ v u r q=>?_;refine fG r' ?_;refine ko PySem.F.kind_min Ek Em (PySem.F.args_min2 _ _) ?_;show wpAny _ A.in1 (dE "min" ["key","default"] 0 ⟨[],[]⟩>>=_) _ _ s;refine aa (dg (show dE "min" ["key","default"] 0 ⟨[],[]⟩=pure [none,none]from rfl) ?_);show wpAny _ A.in1 (newTuple [v,u]>>=_) _ _ s;have hp:=tX (c:=c) (tk:=s.toks) (vs:=[v,u]) (ds:=[a,b].map D.int) K (by show a7 _ _ _ [v,u] [.int a,.int b];exact⟨r,q,trivial⟩);refine aa (bo ?_);refine wb (Ib.tuple (c:=c) (n:=n) (tg:=.Name "x" ⟨0,0,0,0⟩) (ds:=[a,b].map D.int) A.in1 O _ _ R.in1 (K.fT hp.1 hp.2.1) hp.2.2) λ it aH q=>?_;refine nO q ?_;clear q;intro fV jy ds z1 hi;subst z1;refine aa (bo ?_);refine ah ⟨bX gu _,bc (B2 (f:=D.int) (lt:= λ x y=>decide (x<y)) R K.lt K.br.size (hp.1.trans fV) jy (hi.back hp.1) λ y j z j=>cB.ltI) λ r s' q=>?_⟩;refine eG q ?_;clear q;intro v z1 g S r;subst z1;refine⟨g,S,?_⟩;have e:rz (λ x y=>decide (x<y)) a [b]=if b<a then b else a:=by show(if decide (b<a)=true then b else a)=_;simp
 rwa[e]at r
end
noncomputable def strLt(x y:Str):Bool:=decide (x.cps.toList<y.cps.toList)
theorem CS(x:Str):strLt x x=false:=by simp[strLt]
theorem CT{x y:Str}(h:strLt x y=true):strLt y x=false:=by
 simp only[strLt,decide_eq_true_eq,decide_eq_false_iff_not]at h⊢;exact List.lt_asymm h
section
variable {c:Cx}{n:Nat}{E:VE}{ρ ρ':List Sl}{O:List Addr}{s:ae}
theorem AU{α:Type}{f:α→D}{w:a0}{h:Heap}(z:α){vs:List ag}{xs:List α}(r:a7 w O h vs (xs.map f))(i:Nat)(hi:i<xs.length):bh w O h (vs.getD i .none) (f (xs.getD i z)):=by
 induction xs generalizing vs i with
 |nil=>exact absurd hi (Nat.not_lt_zero i)
 |cons x xs ih=>
  cases vs with
  |nil=>exact r.elim
  |cons v vs=>cases i with|zero=>exact r.1|succ i=>exact ih r.2 i (D1 hi)
theorem AS{α:Type}{f:α→D}{w:a0}{h:Heap}(z:α){vs:List ag}{xs:List α}(r:a7 w O h vs (xs.map f))(p:List Nat)(hp:∀i∈p,i<xs.length):a7 w O h (p.map λ i=>vs.getD i .none) ((p.map λ i=>xs.getD i z).map f):=by
 induction p with
 |nil=>trivial
 |cons i p ih=>exact⟨AU z r i (hp i (.head _)),ih λ j hj=>hp j (.tail _ hj)⟩
theorem y8{us:List ag}{xs:List Str}(hu:oI us xs)(h:2≤us.length):keyKind' us.toArray=pure oneType':=by
 cases us with
 |nil=>cases h
 |cons u us=>cases us with
  |nil=>exact absurd h (by decide:¬2≤1)
  |cons v us=>exact keyKind_strs hu
theorem BW{vs:List ag}{xs:List Str}(h:oI vs xs):∀i,i<xs.length→∃t,vs.getD i .none=.str (xs.getD i default) t:=by
 induction h with
 |nil=>intro i h;exact absurd h (Nat.not_lt_zero i)
 |cons y t _ ih=>
  intro i h;cases i with
  |zero=>exact⟨t,rfl⟩
  |succ i=>exact ih i (D1 h)
theorem CR{x:Str}{t:Tok}{vs:List ag}{xs:List Str}(h:oI vs xs):oI (vs++[.str x t]) (xs++[x]):=by
 induction h with
 |nil=>exact .cons _ _ .nil
 |cons y u _ ih=>exact .cons y u ih
theorem yr{vs:List ag}{xs:List Str}(h:oI vs xs):vs.length=xs.length:=by
 induction h with
 |nil=>rfl
 |cons _ _ _ ih=>exact congrArg (· +1) ih
theorem FE{α:Type}{f:α→D}{key:α→Str}{A:aK}{q:Addr}{a kS:Addr}(Lm:a≠kS)(R:Rm A n)(hB:c.B≤a)(OR:c.B≤kS){body:ag→PUnit→Sem (ForInStep PUnit)}(hb:∀(x:ag) (s:ae) (Q:ForInStep PUnit→ae→Prop),wpAny (model c.prog c.w) A (call (.ref q) [x]) (λ k s'=>wpAny (model c.prog c.w) A (Builtin.List.listUpdate (.ref kS) (·.push k)) (λ z k_=>Q (.yield ⟨⟩) k_) aZ s') aZ s→wpAny (model c.prog c.w) A (body x ⟨⟩) Q aZ s)(xs:List α)(vs us:List ag)(ss:List Str)(e:Nat)(s:ae)(hf:∀x∈xs,Fn c n (.ref q) [f x] [] (.str (key x)))(K:Ok c (kS::a::O) s)(r:a7 c.w (kS::a::O) s.heap vs (xs.map f))(ho:s.heap.get? kS=some (bP us e))(hu:oI us ss)(hl:ss.length+xs.length<64):
   wpAny (model c.prog c.w) A (forIn vs PUnit.unit body) (λ z s'=>aB c [kS] [] s s'∧bF c s'∧∃MB e',s'.heap.get? kS=some (bP MB e')∧oI MB (ss++xs.map key)) aZ s:=by
 induction xs generalizing vs us ss e s with
 |nil=>
  cases vs with
  |cons=>exact r.elim
  |nil=>exact ah ⟨.refl ..,K.br,us,e,ho,(bK ss).symm▸hu⟩
 |cons x xs ih=>
  cases vs with
  |nil=>exact r.elim
  |cons v vs=>
   have r:a7 c.w (kS::a::O) s.heap (v::vs) (f x::xs.map f):=r;have hl:ss.length+(xs.length+1)<64:=hl;rw[oY];refine aa (hb v s _ (wm (hf x (.head _) A (kS::a::O) s [v] [] R K (by exact⟨r.1,trivial⟩) (by trivial)) λ k au w=>?_));refine jH w ?_;clear w;intro g1 S1 rk;refine bh.rg rk ?_;clear rk;intro t;have zm:=g1.keep _ _ (by simp) ho du;have hz:=yr hu;refine jV zm rfl ?_ (by rw[a_,cG];lia) (by rw[gZ,a_,cG];exact TT hz hl rfl);have g2:aB c [kS] [] au {au with heap:=au.heap.update kS (aP (·.push (.str (key x) t)))}:=dS (tk:=au.toks) zm du;have S2:bF c {au with heap:=au.heap.update kS (aP (·.push (.str (key x) t)))}:=e_ (tk:=au.toks) S1 OR;refine xe (ft (·.push (.str (key x) t)) zm) λ e2 wu=>?_;have ea:(us.toArray.push (Value.str (key x) t)).toList=us++[.str (key x) t]:=by simp
   rw[ea]at wu;have gg:=(g1.mono (O':=[kS]) (G':=[]) (λ z=>nn) λ z=>nn).trans g2;have We:∀b∈[kS],b∈kS::a::O∨s.heap.objs.size≤b:= λ b h=>.inl (by obtain rfl:=m1 h;exact .head _);refine wm (ih vs _ (ss++[key x]) e2 _ (λ y hy=>hf y (.tail _ hy)) (K.fT gg S2) (gg.fj We (nL.refl _ _) r.2) wu (CR hu) (by rw[aY,pj];exact GX hl)) λ z s' w=>?_;refine jH w ?_;clear w;intro g3 S3 zh;refine ez zh ?_;clear zh;intro MB e' h3 u3;exact⟨gg.trans g3,S3,MB,e',h3,by simpa using u3⟩
theorem vM.Nv{α:Type}[BEq α][LawfulBEq α]{f:α→D}{key:α→Str}(z:α){q:Addr}{xs ys:List α}(hp:ys.Perm xs)(hs:ys.Pairwise λ x y=>strLt (key x) (key y)=true)(h6:xs.length≤6)(hf:∀x∈xs,Fn c n (.ref q) [f x] [] (.str (key x))):
  vM c (n+1) [("key",.ref q)] (xs.map f) (ys.map f):= λ A O s a vs e R K ha hB ho r=>by
 have hz:vs.length=xs.length:=by rw[r.length];exact aE _
 refine wpAny_call_entry_kw sY ⟨_,ho,rfl⟩ qV ?_ (ksk_l1 _ _);refine cH (uf (lt:= λ x y=>strLt (key x) (key y)) (λ x=>CS _) CT z hp hs h6) λ p hk Oc Sa=>?_;dsimp only[ksk_t1];have zx:a<s.heap.objs.size:=aI ho;obtain⟨e1,zm⟩:∃e1,(s.heap.update a (aP λ u=>(#[]:Array ag))).get? a=some (bP [] e1):=⟨_,get?_update_seq ho λ u=> #[]⟩;refine aa (fu ho rfl ?_);refine aa (jV ho rfl ?_ (by rw[a_,cG];exact u_ hz h6 rfl) (bS _));refine aa (sV zm rfl ?_);refine aa (DT ?_ (by show vs.length≤_;rw[cG];lia));refine aa (vh ?_ (bS _));refine aV ?_;have UP:((s.heap.update a (aP λ u=>(#[]:Array ag))).push (seqObj "tuple" vs.toArray 0)).objs.size=s.heap.objs.size+1:=by rw[size_push',Heap.size_update]
 have Me:(((s.heap.update a (aP λ u=> #[])).push (seqObj "tuple" vs.toArray 0)).push (seqObj "list" #[] 0)).get? a=some (bP [] e1):=aA _ (aA _ zm);have WZ:(((s.heap.update a (aP λ u=> #[])).push (seqObj "tuple" vs.toArray 0)).push (seqObj "list" #[] 0)).get? (s.heap.objs.size+1)=some (bP [] 0):=by rw[← UP];exact av _ rfl
 show wpAny _ A.in1 (ksk_rest a (.ref q) false vs.toArray e1 (.ref ((s.heap.update a (aP λ u=>(#[]:Array ag))).push (seqObj "tuple" vs.toArray 0)).objs.size)) _ _ {s with heap:=((s.heap.update a (aP λ u=> #[])).push (seqObj "tuple" vs.toArray 0)).push (seqObj "list" #[] 0)};rw[UP];generalize Qi:({s with heap:=((s.heap.update a (aP λ u=> #[])).push (seqObj "tuple" vs.toArray 0)).push (seqObj "list" #[] 0)}:ae)=s6;have g6:aB c [a] [] s s6:=Qi▸ (dS (tk:=s.toks) ho du).trans ((aB.push (c:=c) (G:=[]) (tk:=s.toks)).mono (λ u=>nn) (λ u=>nn)|>.trans ((aB.push (c:=c) (G:=[]) (tk:=s.toks)).mono (λ u=>nn) (λ u=>nn)));have S6:bF c s6:=Qi▸ ((e_ (tk:=s.toks) K.br hB).push (tk:=s.toks)).push (tk:=s.toks);have Oe:s6.heap.get? a=some (bP [] e1):=Qi▸Me;have Oq:s6.heap.get? (s.heap.objs.size+1)=some (bP [] 0):=Qi▸WZ;have OR:c.B≤s.heap.objs.size+1:=eT (af hB (bV zx));have Lm:a≠s.heap.objs.size+1:=dO (cw zx);have K6:Ok c ((s.heap.objs.size+1)::a::O) s6:=⟨S6,λ b h=>by
   rcases mc h with rfl|h
   ·exact aI Oq
   rcases mc h with rfl|h
   ·exact aI Oe
   ·exact ab (K.lt b h) g6.size,λ b h=>by
   rcases mc h with rfl|h
   ·exact OR
   rcases mc h with rfl|h
   ·exact hB
   ·exact K.low b h⟩
 have r6:a7 c.w ((s.heap.objs.size+1)::a::O) s6.heap vs (xs.map f):=g6.fj (O:=a::O) (λ b h=>.inl (by obtain rfl:=m1 h;exact .head _)) (λ b h=>(aD.mp h).elim (λ h=>.inr (h▸bq _)) .inl) r;refine aa (gm ?_)
 first
  |rw[List.forIn_toArray]
  |(simp only[List.toList_toArray])
 refine wb (FE (O:=O) (a:=a) (f:=f) (key:=key) (q:=q) Lm R.in1 hB OR (λ x s Q h=>?_) xs vs [] [] 0 s6 hf K6 r6 Oq .nil (by simp;exact L4 h6 rfl)) λ u s7 w=>?_
 ·exact aa (gq (wm h λ k s' h=>wb h λ u k_ h=>ah h))
 refine jH w ?_;clear w;intro g7 S7 zh;refine ez zh ?_;clear zh;intro us e7 Sr hu;simp only[List.nil_append]at hu;have NX:us.length=vs.length:=by rw[yr hu,aE,hz]
 have WM:s7.heap.get? a=some (bP [] e1):=g7.keep _ _ (by simpa using Lm) Oe du;refine aa (fu Sr rfl ?_);unfold ksk_end;simp only[aR,if_false]
 -- the end, whatever the order
 have fin:∀st:SortSt,(arrOf st).map (·.2)=gG (p.toList.map λ i=>vs.getD i di)→failedOf st=none→wpAny (model c.prog c.w) A.in1 (ksk_tail a false e1 (.ref (s.heap.objs.size+1)) st)
   (λ fin s'=>∃v,fin=.done (.ret v)∧v=.none∧aB c [a] [] s s'∧bF c s'∧∃i6 e',s'.heap.get? a=some (bP i6 e')∧a7 c.w (a::O) s'.heap i6 (ys.map f)) aZ s7:= λ st Ml Sx=>by
  have F0:p.toList.length=ys.length:=by rw[← Oc,aE]
  unfold ksk_tail;dsimp only;rw[Ml];simp only[aR,if_false];refine aa (jV Sr rfl ?_ (by rw[a_,NX,hz,cG];exact rC h6 rfl) (bS _));refine aa (jd ?_);have g8:aB c [s.heap.objs.size+1] [] s7 {s7 with heap:=s7.heap.update (s.heap.objs.size+1) (aP λ u=> #[])}:=dS (tk:=s7.toks) Sr du;have S8:bF c {s7 with heap:=s7.heap.update (s.heap.objs.size+1) (aP λ u=> #[])}:=e_ (tk:=s7.toks) S7 OR;have Qj:=g8.keep _ _ (by simpa using Lm) WM du;refine aa (sV Qj rfl ?_);refine aa (jV Qj rfl ?_ (bS _) (by rw[a_,aE,F0,hp.length_eq,cG];exact rC h6 rfl));rw[Sx];simp only[bne_self_eq_false,aR,if_false];have g9:=dS (c:=c) (tk:=s7.toks) (f:=aP λ u=>gG (p.toList.map λ i=>vs.getD i di)) Qj du;have S9:bF c _:=e_ (tk:=s7.toks) (f:=aP λ u=>gG (p.toList.map λ i=>vs.getD i di)) S8 hB;refine xe (ft (λ u=>gG (p.toList.map λ i=>vs.getD i di)) Qj) λ e9 WL=>?_;have gk:=g7.trans g8;refine ah ⟨_,rfl,rfl,?_,S9,_,e9,WL,?_⟩
  ·refine(g6.comp gk (λ b h=>.inr ?_) λ u=>nn).trans g9;obtain rfl:=m1 h;exact bq _
  ·have r8:=gk.fj (O:=(s.heap.objs.size+1)::a::O) (λ b h=>.inl (by obtain rfl:=m1 h;exact .head _)) (nL.refl _ _) r6;have r9:=g9.fj (O:=(s.heap.objs.size+1)::a::O) (λ b h=>.inl (by obtain rfl:=m1 h;exact .tail _ (.head _))) (nL.refl _ _) r8;have:=AS z r9 p.toList Sa;rw[Oc]at this;exact a7.kept (.refl _ _) (λ b h=>.inl (.tail _ h)) this
 by_cases h2:vs.length<2
 ·have xF:vs.toArray.size<2:=by exact h2
  rw[if_pos xF,if_pos xF];refine vW ?_;dsimp only[StateT.run_pure];refine aa (ah (fin _ ?_ rfl));have F0:p.toList=aw xs.length:=by
   have h1:xs.length<2:=by exact hz▸h2
   have:nF xs.length=.ret (gG (aw xs.length)):=by
    rcases oW xs.length 1 with h|h
    ·rw[show xs.length=0 by lia];rfl
    ·rw[show xs.length=1 by lia];rfl
   rw[this]at hk;cases hk;simp
  rw[F0];show((us.toArray.zip vs.toArray).map (·.2))=_;apply Array.ext
  ·simp[hz,NX]
  ·intro i h1 h2;simp at h1 h2;simp[show i<vs.length by exact Ea hz h2]
 ·have xF:¬vs.toArray.size<2:=by exact h2
  rw[if_neg xF,if_neg xF];have wB:2≤vs.length:=by exact cu h2
  have qG:=y8 hu (af wB (de NX.symm));rw[qG];refine vW ?_;have ask:(nF vs.length).kasWp (kas_ask c.prog c.w A.in1 oneType' us) (λ p' s'=>p'=p∧s'=s7) s7:=by
   rw[hz];refine rE (λ i j C hi hj hC=>?_) _ p hk ⟨rfl,rfl⟩;refine xe (BW hu i (by simpa using hi)) λ t e=>?_;refine xe (BW hu j (by simpa using hj)) λ t' e'=>?_;unfold kas_ask;rw[e,e',keyLt'_oneType];refine oneLt_str ?_;have q:∀i,i<xs.length→(xs.map key).getD i default=key (xs.getD i z):= λ i h=>by simp[h]
   rw[q i hi,q j hj];exact hC
  refine wb (kat_run (G:= λ p' s'=>p'=p∧s'=s7) (Q:= λ na s'=>(arrOf na).map (·.2)=gG (p.toList.map λ i=>vs.getD i di)∧failedOf na=none∧s'=s7) NX wB (by exact Qb hz h6 rfl) (λ p' na s' a1 a2 a3 a4=>⟨a4.1▸kat_snds NX a2,a3,a4.2⟩) ask) ?_
  rintro⟨⟨⟩,na⟩ s' ⟨Ml,Sx,rfl⟩
  exact fin na Ml Sx
end
noncomputable def I2(c:Cx)(n m:Nat)(f:ag)(kw:List (Str×ag))(tg:Expr)(eL:List D)(d:D):Prop:=
 ∀(A:aK) (O:List Addr) (s₀ s:ae) (a:Addr) (g:Nat),Rm A n→Ok c O s₀→aB c [] [] s₀ s→bF c s→s.heap.IsGen a g→iI c m tg O O s₀ eL (.ref a) s→wpAny (model c.prog c.w) A (call f [.ref a] kw)
  (λ v s'=>aB c [] [] s₀ s'∧bF c s'∧bh c.w O s'.heap v d) aZ s
section
variable {c:Cx}{n:Nat}{E:VE}{ρ ρ':List Sl}{O:List Addr}{s:ae}
theorem Ev.LK{m:Nat}{x k y:Str}{p pos py kp:Pos}{elt EG iter:Expr}{ifs:List Expr}{scope:iT}{uy:Pos}{v u:ag}{tg:Expr}{Ds:List D→Prop}{d:D}(hx:E.env.kindOf x=some .globalImplicit)(hg:cV c x v)(keep:jz c v)(ha:Hi c m E ρ (.GeneratorExp elt [⟨EG,iter,ifs,0⟩] scope uy) tg Ds)(hm:m≤n)(hy:E.env.kindOf y=some .globalImplicit)(W5:cV c y u)(hf:∀eL,Ds eL→I2 c n m v [(k,u)] tg eL d)(hd:autoParam ((x==("__debug__":Str))=false) rf)(iP:autoParam ((y==("__debug__":Str))=false) rf):Ev c n E ρ (.Call (.Name x p) [.GeneratorExp elt [⟨EG,iter,ifs,0⟩] scope uy] [⟨some k,.Name y py,kp⟩] pos) d:= λ A β O ad s R I=>by
 refine fK (iM I hx hg hd ?_);show wpAny _ A (callWith pos v [] (backTo pos (starEach [.GeneratorExp elt [⟨EG,iter,ifs,0⟩] scope uy] E.env)) (backToKw pos (keywordEach [⟨some k,.Name y py,kp⟩] E.env))) _ _ s;refine callWith_of (P:=c.K.In) rfl (λ t X=>keep.Ft X) (evalArgs_kw2 rfl (z0 (wm (ha A β O ad s (R.le hm) I) λ w au q=>BE ?_) rfl) rfl);refine ra q ?_;clear q;intro cY lL y1 eL Mj fU;refine Mt y1 ?_;clear y1;intro a z2 g ie;subst z2;show wpAny _ A (evalAll ((do let v ← eval (.Name y py) E.env;standAt pos;pure v)::[])) _ _ au;refine wpAny_evalAll_cons (aa (iM (I.fT cY lL) hy W5 iP (aa (bQ (ah (xY ?_))))));exact⟨lL.fY,wm (hf eL Mj A O s au a g R I.o cY lL ie fU) λ z z q=>q⟩
theorem xd{x:ag}{A:aK}{q:Addr}{ds lJ:List D}{s₀ s:ae}(R:Rm A (n+2))(hO:∀a∈O,a<s₀.heap.objs.size∧c.B≤a)(hB:c.B≤s₀.heap.objs.size)(Ik:s₀.heap.objs.size≤s.heap.objs.size)(hl:ds.length≤1000)(hc:wpAny (model c.prog c.w) A.in1 (collect x) (λ vs s'=>aB c [] [] s₀ s'∧bF c s'∧a7 c.w O s'.heap vs ds) aZ s)(hs:vM c n [("key",.ref q)] ds lJ):
  wpAny (model c.prog c.w) A (call (.builtin "sorted") [x] [("key",.ref q)]) (λ v s'=>aB c [] [] s₀ s'∧bF c s'∧bh c.w O s'.heap v (.lst lJ)) aZ s:=by
 refine call_function_entry_kw kind_sorted plain_sorted entry_sorted (ksk_s1 _ _) ?_;refine aa (m:=checkCount "sorted" 1 1 _) (ah ?_);refine wb hc λ vs au q=>?_;refine jH q ?_;clear q;intro g1 S1 r1;have hz:=r1.length;refine aa (vh ?_ (by show vs.length≤_;rw[cG];exact u_ hz hl rfl));refine xa (l8 (vs:=vs) S1) λ g2 S2=>?_;have vd:=g1.size;have K:Ok c O {au with heap:=au.heap.push (bP vs 0)}:=⟨S2,λ a h=>ab (hO a h).1 (af vd g2.size),λ a h=>(hO a h).2⟩;have hn:au.heap.objs.size∉O:= λ h=>ak _ (ab (hO _ h).1 vd);have r2:a7 c.w (au.heap.objs.size::O) (au.heap.push (bP vs 0)) vs ds:=g2.fj (O:=O) (λ z=>nn) (λ a h=>(aD.mp h).elim (λ h=>.inr (h▸az _)) .inl) r1;refine aa (aV (wm (hs A.in1 O {au with heap:=au.heap.push (bP vs 0)} au.heap.objs.size vs 0 (R.in1.le (by exact bq _)) K hn (af hB vd) (av _ rfl) r2) λ v aH q=>?_));refine k7 q ?_;clear q;intro z1 g3 S3 i6 e' h' r3;subst z1;refine ah ⟨_,rfl,(g1.trans g2).comp g3 (λ a h=>.inr (by rw[aj]at h;subst h;exact vd)) (λ z=>nn),S3,?_⟩;exact⟨_,i6,rfl,hn,⟨_,e',h',rfl,rfl,rfl⟩,a7.kept (O:=au.heap.objs.size::O) (.refl _ _) (λ a h=>.inl (.tail _ h)) r3⟩
theorem I2.sorted{m:Nat}{x:Str}{p:Pos}{q:Addr}{ds lJ:List D}(hm:m≤n)(hl:ds.length≤1000)(hs:vM c n [("key",.ref q)] ds lJ):I2 c (n+2) m (.builtin "sorted") [("key",.ref q)] (.Name x p) ds (.lst lJ):= λ A O s₀ s a g R K fV S hg hi=>
 xd R (λ a h=>⟨K.lt a h,K.low a h⟩) K.br.size fV.size hl (sy (R.in1.le (by exact cX hm)) K fV S hg hi hl) hs
end
theorem MO(b:Bool)(st:TS)(j:Nat):(st.tab b).slot j=(st.tab true).slot j:=rfl
theorem Lr(b:Bool)(st:TS)(f:Nat→Int)(h:Int)(n:Nat)(p:ip):lx (st.tab b) f h n p=lx (st.tab true) f h n p:=by
 induction n generalizing p with
 |zero=>rfl
 |succ n ih=>
  conv=>lhs;whnf
  conv=>rhs;whnf
  rw[show lx (st.tab b) f h n=lx (st.tab true) f h n from funext ih];rfl
theorem C8(b:Bool)(st:TS)(f:Nat→Int)(h:Int)(p:ip):(st.tab b).probe f h p=(st.tab true).probe f h p:=Lr b st f h _ p
structure I0(k:Nat)(st:TS):Prop where
 len:st.place.length=st.ids.length
 mask:st.ids.length≤st.mask
 Ua:st.ids.length≤6
 odd:st.mask%2=1
 lt:∀x∈st.ids,x<(j_ k).length
 TM:∀i,i≤st.ids.length→b7 st.place.toArray (slotAt st.place i)=i
 fU:∀x∈st.ids,∃j i p,(st.tab true).probe (zj (nQ k) st.ids) ((nQ k).getD x 0) ((st.tab true).probeStart ((nQ k).getD x 0))=some (.candidate j i p)∧st.ids[i]? =some x
 new:∀x,x<(j_ k).length→x∉st.ids→∃y,st.add (nQ k) x=some y∧y∈l4 k∧y.ids.Perm (x::st.ids)
theorem F8{o:Option SetTable.Met}{p:Nat×Nat×ip}(h:F9 o=some p):o=some (.candidate p.1 p.2.1 p.2.2):=
 Jm (g:= λ p:Nat×Nat×ip=>some (SetTable.Met.candidate p.1 p.2.1 p.2.2)) (o:=F9 o) (by cases o with|none=>trivial|some m=>cases m<;>first|exact trivial|rfl) h
theorem nR{k:Nat}(h:nS k=true){st:TS}(kt:st∈l4 k):I0 k st:=by
 unfold nS at h;rw[bg,bf,beq_iff_eq]at h;refine xa h ?_;clear h;intro h hz;obtain⟨i,hi,rfl⟩:=eW kt;have Dt:i<(P9 k).length:=by exact fw hi hz
 have:=h ((l4 k)[i],(P9 k)[i]) (by
  rw[pZ];exact⟨i,by simp;exact Ro hz ‹_›,by simp⟩)
 rw[bg]at this;refine xa this ?_;clear this;intro h1 h2;generalize (l4 k)[i]=st at*;unfold I_ at h2;simp only[bg,beq_iff_eq,decide_eq_true_eq,bf]at h2;refine xa h2 ?_;clear h2;intro y1 a6;refine xa y1 ?_;clear y1;intro y2 a5;refine xa y2 ?_;clear y2;intro y3 a4;refine xa y3 ?_;clear y3;intro y4 a3;refine xa y4 ?_;clear y4;intro a1 a2;unfold Jb at a6;rw[bf]at a6;unfold Ja at h1;rw[bf]at h1;refine⟨a1,a2,a3,a4,a5,λ i hi=>?_,λ x hx=>?_,λ x hx hn=>?_⟩
 ·have:=a6 i (aO.mpr (by exact cX hi));rw[beq_iff_eq]at this;exact this
 ·have:=h1 x (aO.mpr (a5 x hx));rw[if_pos (by simpa using hx)]at this;refine cW (vL this) λ q e this=>?_;exact⟨q.1,q.2.1,q.2.2,F8 e,eq_of_beq this⟩
 ·have:=h1 x (aO.mpr hx);rw[if_neg (by simpa using hn)]at this;refine cW (vL this) λ y e this=>xa (aL.mp this) λ h2 h3=>?_;exact⟨y,e,bw (eq_of_beq h2),List.isPerm_iff.mp h3⟩
theorem EC{k:Nat}{st:TS}(kt:st∈l4 k):I0 k st:=by
 exact L8 (M:= λ k=>st∈l4 k→I0 k st) k (λ h=>nn h) (nR Kb) (nR Ka) (nR J_) (λ k h=>nn h) kt
theorem BS{k x:Nat}(hx:x<(j_ k).length):(nQ k).getD x 0=gw (fR k x):=by
 have key:(j_ k).map gw=nQ k:=L8 (M:= λ k=>(j_ k).map gw=nQ k) k rfl w7.1 w7.2.1 w7.2.2 λ k=>rfl;unfold fR;rw[← key];simp[hx]
theorem TS.fits{k:Nat}{st:TS}(h:I0 k st)(b:Bool):(st.tab b).fits st.ids.length=true:=by
 unfold pT mj TS.tab;simp[h.len,h.mask]
section
variable {O O':List Addr}{h:Heap}
theorem bM.length{es:List (Int×ag)}{cs:List (List Nat)}(r:bM O h es cs):es.length=cs.length:=
 r.ind rfl λ z z z z z z ih=>congrArg uW ih
theorem bM.at{es:List (Int×ag)}{cs:List (List Nat)}(r:bM O h es cs):∀i:Nat,(es[i]? =none∧cs[i]? =none)∨∃e c,es[i]? =some e∧cs[i]? =some c∧JW O h e c:=
 r.ind (λ i=>.inl ⟨rfl,rfl⟩) λ e z c z q z ih i=>by
  cases i with
  |zero=>exact .inr ⟨e,c,rfl,rfl,q⟩
  |succ i=>exact ih i
theorem bM.cons{e:Int×ag}{c:List Nat}{es:List (Int×ag)}{cs:List (List Nat)}(h1:JW O h e c)(r:bM O h es cs):bM O h (e::es) (c::cs):=⟨h1.1,h1.2,r⟩
theorem bM.pick{es:List (Int×ag)}{cs:List (List Nat)}(r:bM O h es cs):∀l:List Nat,bM O h (l.filterMap (es[·]?)) (l.filterMap (cs[·]?))
 |[]=>trivial
 |i::l=>by
  rcases r.at i with⟨h1,h2⟩|⟨e,c,h1,h2,h3⟩
  ·rw[f9,f9,h1,h2];exact bM.pick r l
  ·rw[f9,f9,h1,h2];exact .cons h3 (bM.pick r l)
theorem bM.insert{e:Int×ag}{c:List Nat}(h1:JW O h e c){es:List (Int×ag)}{cs:List (List Nat)}(p:Nat)(r:bM O h es cs):bM O h (es.take p++e::es.drop p) (cs.take p++c::cs.drop p):=
 bM.ind (M:= λ es cs=>∀p,bM O h (es.take p++e::es.drop p) (cs.take p++c::cs.drop p)) r (λ p=>by cases p<;>exact .cons h1 trivial) (λ z z z z q r ih p=>by
  cases p with
  |zero=>exact .cons h1 (.cons q r)
  |succ p=>exact .cons q (ih p)) p
theorem bM.perm{es rN:List (Int×ag)}(hp:rN.Perm es):∀{cs:List (List Nat)},bM O h es cs→∃QL,QL.Perm cs∧bM O h rN QL:=by
 induction hp with
 |nil=>intro cs r;exact⟨cs,.refl _,r⟩
 |cons x _ ih=>
  intro cs r
  rcases cs with _|⟨c,cs⟩
  ·exact r.elim
  ·refine cW (ih r.2.2) λ QL p r'=>?_;exact⟨c::QL,p.cons c,r.1,r.2.1,r'⟩
 |swap x y l=>
  intro cs r
  rcases cs with _|⟨c,_|⟨d,cs⟩⟩
  ·exact r.elim
  ·exact r.2.2.elim
  ·exact⟨d::c::cs,.swap _ _ _,r.2.2.1,r.2.2.2.1,r.1,r.2.1,r.2.2.2.2⟩
 |trans _ _ mB mA=>
  intro cs r;refine cW (mA r) λ c1 p1 r1=>?_;refine cW (mB r1) λ c2 p2 r2=>?_;exact⟨c2,p2.trans p1,r2⟩
end
theorem jX{α:Type}(xs:Array α)(p:Nat)(x:α):(bt xs p x).toList=xs.toList.take p++x::xs.toList.drop p:=by
 unfold bt;simp only[Array.toList_append,Array.toList_push,Array.toList_extract,List.extract_eq_drop_take,List.drop_zero,DX,j6,List.singleton_append]
 congr 2
 exact List.take_of_length_le (by simp)
section
variable {c:Cx}{n:Nat}{E:VE}{ρ ρ':List Sl}{β:dH}{O:List Addr}{ad:Nat→List Addr}{s:ae}
theorem cS.dat{fp:List Addr}{h:Heap}{v:ag}{q:OD}{d:D}(r:cS c (fp++O) h v q fp)(hq:q.Bl=some d)(hf:∀a∈fp,a∉O):bh c.w O h v d:=r.Bl hq hf λ a ha=>ao _ ha
theorem gz.ev{e:Expr}{q:OD}{d:D}(h:gz c n E ρ e q)(hq:q.Bl=some d):Ev c n E ρ e d:= λ A β O ad s R I=>
 wm (h A β O ad s R I) λ v s' z=>by
  refine eG z ?_;clear z;intro fp g S r hf;exact⟨g,S,r.dat hq λ a ha hO=>ak _ (ab (I.lt a hO) (hf a ha).1)⟩
theorem eA.lookup_none{w:a0}{h:Heap}{ps:List (Str×ag)}{fs:List (Str×D)}{x:Str}(r:eA w O h ps fs):fs.lookup x=none→ps.lookup x=none:=
 r.ind (λ z=>rfl) λ y v vs d ds q z ih e=>by
  rw[aX]at e⊢;cases hx:x==y with
  |true=>rw[hx]at e;cases e
  |false=>rw[hx]at e;exact ih e
theorem tE{A:aK}{a dx C f:Addr}{es:List cT}{m:Nat}{name:Str}{pl:Sem Bool}{Q:ag×List ag→ae→Prop}{X:ag→ae→Prop}(S:bF c s)(h1:s.heap.get? a=some (ib C dx))(h2:s.heap.get? dx=some (dictOf es m))(hM:jS c.K C name f=true)(hl:getL name es=some none)(h:Q (.ref f,[.ref a]) s):wpAny (model c.prog c.w) A (getMethod (.ref a) name pl) Q X s:=by
 unfold jS at hM;simp only[bg,beq_iff_eq]at hM;refine xa hM ?_;clear hM;intro y1 h7;refine xa y1 ?_;clear y1;intro y2 h6;refine xa y2 ?_;clear y2;intro y3 h5;refine xa y3 ?_;clear y3;intro h3 h4;exact method_fn S.fY (iG h1 h2) (oK h3).1 (oK h3).2 h4 (beq_iff_eq.mp h5) (by show(lookIn name (dictOf es m)).map _=_;rw[lookIn_dict,hl];rfl) h
theorem si{C f:Addr}{name:Str}(hM:jS c.K C name f=true):jz c (.ref f):=by
 unfold jS at hM;simp only[bg]at hM;exact hM.2
theorem Hn{A:aK}{o:Expr}{name:Str}{apos pos:Pos}{args:List Expr}{kws:List dU}{C f:Addr}{fs:List (Str×D)}{ds:List D}{kwds:List (Str×D)}(R:Rm A n)(I:Inv c E β O ad ρ s)(cq:Ev c n E ρ o (.inst C fs))(hM:jS c.K C name f=true)(zt:fs.lookup name=none)(ha:ck c n E ρ args ds)(hk:ou c n E ρ kws kwds){Q:ag→ae→Prop}(i9:attributeBase o name E.env (eval o E.env)=eval o E.env)(zu:methodCallForm (args.length+kws.length) (backTo pos (starEach args E.env)) (backToKw pos (keywordEach kws E.env))=true)(iO:(apos.endLine==pos.line)=true)(hp:(starEach args E.env).any (·.1)=false)(h:∀vs ks s',aB c [] [] s s'→Inv c E β O ad ρ s'→a7 c.w O s'.heap vs (.inst C fs::ds)→eA c.w O s'.heap ks kwds→wpAny (model c.prog c.w) A (call (.ref f) vs ks) Q aZ s'):
  wpAny (model c.prog c.w) A (eval (.Call (.Attribute o name apos) args kws pos) E.env) Q aZ s:=by
 rw[arm_eval_Call,i9];refine aa (cq.go R I λ v au cY bj bE=>?_);refine aa (bQ ?_);have nY:=bE;refine iz bE ?_;clear bE;intro a dx zh;refine cI zh ?_;clear zh;intro es m ps z1 z z zh;refine b_ zh ?_;clear zh;intro h1 h2 hm rf;subst z1;unfold methodCall;rw[zu];refine aa (aV (show wpAny _ _ (getMethod _ _ _) _ _ _ from tE bj.br h1 h2 hM (by rw[hm,rf.lookup_none zt]) ?_));have Dn:methodCallPos true o E.env apos pos=pure pos:=by unfold methodCallPos;simp[iO]
 refine aa (dg Dn ?_);refine fS R bj (si hM) ha hk hp λ vs ks s' x I' r r'=>?_;exact h (.ref a::vs) ks s' (cY.trans x) I' (by exact⟨x.rep0 nY,r⟩) r'
theorem Ev.Nh{o:Expr}{name:Str}{apos pos:Pos}{args:List Expr}{kws:List dU}{C f:Addr}{fs:List (Str×D)}{ds:List D}{kwds:List (Str×D)}{d:D}(cq:Ev c n E ρ o (.inst C fs))(hM:jS c.K C name f=true)(zt:fs.lookup name=none)(ha:ck c n E ρ args ds)(hk:ou c n E ρ kws kwds)(hf:Fn c n (.ref f) (.inst C fs::ds) kwds d)(i9:autoParam (attributeBase o name E.env (eval o E.env)=eval o E.env) rf)(zu:autoParam (methodCallForm (args.length+kws.length) (backTo pos (starEach args E.env)) (backToKw pos (keywordEach kws E.env))=true) rf)(iO:autoParam ((apos.endLine==pos.line)=true) rf)(hp:autoParam ((starEach args E.env).any (·.1)=false) rf):
  Ev c n E ρ (.Call (.Attribute o name apos) args kws pos) d:= λ A β O ad s R I=>
 Hn R I cq hM zt ha hk i9 zu iO hp λ vs ks s' x I' r r'=>wm (hf A O s' vs ks R I'.o r r') λ z z q=>q.after x
noncomputable def xn(K:Frag)(C:Addr)(name:Str)(p f:Addr):Bool:=plainGet K C name&&hasDictIn K C&&findIn K (.ref C) name==some (some (.ref p))&&specialIn K (.ref p) "__get__"==some (some (.builtin "property.__get__"))&&takesIn K (.ref p)==some true&&
 ((recIn K p "property").bind List.head?)==some (.ref f)
noncomputable def PX(c:Cx)(O:List Addr)(s:ae)(d:D)(s':ae):iu→Prop
 |.ok (.ret v)=>Res c O s d v s'
 |_=>False
@[elab_as_elim] theorem Rh {c:Cx} {O:List Addr} {s s':ae} {d:D} {M:iu→Prop} {r:iu} (z:PX c O s d s' r) (k:∀v,Res c O s d v s'→M (.ok (.ret v))):M r:=by
 cases r with
 |error=>exact z.elim
 |ok f=>cases f with
  |ret v=>exact k v z
  |_=>exact z.elim
noncomputable def P7(c:Cx)(n:Nat)(a:Addr)(ds:List D)(d:D):Prop:=
 ∀(A:aK) (O:List Addr) (s:ae) (vs:List ag),Rm A n→Ok c O s→a7 c.w O s.heap vs ds→codeAny (model c.prog c.w) A (.call (.ref a) ⟨vs,[]⟩) (λ r s'=>PX c O s d s' r) s
theorem P7.of{a:Addr}{fd:FuncData}{body:List Stmt}{vn:List Str}{np:Nat}{ds:List D}{d:D}(F:nE c a fd body)(k:rL fd vn np=true)(ie:fd.scope.isGenerator=false)(hlen:ds.length=np)(hb:∀s vs,bF c s→vs.length=ds.length→iv s fd ⟨vs,[]⟩ ((vn.take np).zip vs))(h:∀L,Ex c n (mM fd L a vn) ((ds.map Sl.val)++al (vn.length-np) .no) body (.ret d)):P7 c (n+1) a ds d:= λ A O s vs R K r=>by
 refine bc (m5 (W:=[]) (G:=[]) (Q:= λ v s'=>Res c O s d v s') F k ie R (.fj K r) (by rw[r.length,hlen]) (hb s vs K.br r.length) λ O' ad au qH I ic hL hC=>?_) λ r s' z=>z
 ·refine wm (h _ _ _ au R.deeper ⟨O',ad,I.pad⟩) λ f s' z=>?_;refine eG z ?_;clear z;intro v z1 g S r;subst z1;exact⟨g,S,r⟩
set_option tactic.hygienic true in
theorem Ev.prop{x name:Str}{p pos:Pos}{C pr f:Addr}{fs:List (Str×D)}{d:D}(h:Ev c (n+1) E ρ (.Name x p) (.inst C fs))(hP:xn c.K C name pr f=true)(hf:P7 c n f [.inst C fs] d)(hd:autoParam (d.seen=true) rf):Ev c (n+1) E ρ (.Attribute (.Name x p) name pos) d:= λ A β O ad s R I=>by
 unfold xn at hP;simp only[bg,beq_iff_eq]at hP;refine xa hP ?_;clear hP;intro y1 h6;refine xa y1 ?_;clear y1;intro y2 h5;refine xa y2 ?_;clear y2;intro y3 h4;refine xa y3 ?_;clear y3;intro y4 h3;refine xa y4 ?_;clear y4;intro h1 h2;refine cW (cL.mp h6) λ l R9 h6=>?_;cases l with
 |nil=>cases h6
 |cons g rest=>
  cases h6;refine gX (h.go R I λ v au cY bj r=>?_);have r':=r;refine iz r ?_;clear r;intro a dx zh;refine c8 zh ?_;clear zh;intro es m ps z1 j zh;refine b_ zh ?_;clear zh;intro j ha OC j;subst z1;have g1:aB c [] [] au {au with toks:=au.toks+1}:=(aB.refl ..).toks;have cd:=hf A.in1 O {au with toks:=au.toks+1} [.ref a] R.in1 ⟨bj.br.toks,bj.o.lt,bj.o.low⟩ (by exact⟨r',trivial⟩);refine get_bind bj.br.fY (iG ha OC) (oK h1).1 (findObj_data (by refine cW (any_some h2) λ cd hc j=>?_;rw[hc];rfl) h3 h4 h5) (oK h1).2 (lW (prop_get (s:={au with toks:=au.toks+1}) bj.br.fY R9 (bc cd λ r s' z=>?_)));exact Rh z λ v z=>handed_on (z.2.2.handed hd) (z.after (cY.trans g1))
end
section
variable {c:Cx}{n:Nat}{E:VE}{ρ ρ':List Sl}{O:List Addr}{s:ae}{A:aK}{X:ag→ae→Prop}
theorem itemsAre{p:Program}{w:a0}{vs:List ag}{ks:List Int}(h:fb vs ks):ItemsAre (intKind p w) ks vs:=by
 induction h with
 |nil=>exact .nil
 |cons n t _ ih=>exact .cons (qO _ _ _ _) ih
theorem tJ{p:Program}{w:a0}{h:Heap}{b:Addr}{vs:List ag}{ks:List Int}(ht:lP h b vs.toArray)(hi:fb vs ks):IsTupleKey (intKind p w) h ks b:=by
 refine nN ht ?_;clear ht;intro o ho hc m hd;exact⟨o,vs.toArray,m,ho,hc,hd,itemsAre hi⟩
theorem zb{vs:List ag}{ks:List Int}(h:fb vs ks):∀v∈vs,∃i t,v=.int i t:=by
 induction h with
 |nil=>exact List.forall_mem_nil _
 |cons n t _ ih=>exact aU.mpr ⟨⟨n,t,rfl⟩,ih⟩
theorem qe{b:Addr}{vs:List ag}{ks:List Int}{Q:Bool→ae→Prop}(ht:lP s.heap b vs.toArray)(hi:fb vs ks)(h:Q false s):wpAny (model c.prog c.w) A (ofAClassStatement 8 (.ref b)) Q X s:=by
 refine nN ht ?_;clear ht;intro o ho hc m hd
 set_option smartUnfolding false in
 show wpAny _ _ (typeOf (.ref b)>>=_) _ _ s;refine aa (fZ (T:="tuple") ⟨o,ho,hc⟩ ?_);refine wP (by decide) ?_;refine vW ?_;refine wF ?_;refine aa (gQ ho hd ?_);show wpAny _ _ (forIn vs.toArray _ _>>=_) _ _ s;rw[← Array.forIn_toList];refine aa (z4 _ (λ rest r s'=>r.1=none∧s'=s∧∀v∈rest,∃i t,v=nG i t) _ ?_ ?_ _ _ ⟨rfl,rfl,zb hi⟩)
 ·rintro v rest r s' ⟨hr,rfl,pE⟩
  refine iz (pE v (.head _)) λ i t z1=>?_;subst z1
  set_option smartUnfolding false in
  show wpAny _ _ (pure false>>=_) _ _ _;refine vW ?_;refine wF ?_;exact ah ⟨rfl,rfl,λ u hu=>pE u (.tail _ hu)⟩
 ·rintro⟨r1,r2⟩ s' ⟨hr,rfl,_⟩
  simp only at hr;subst hr;exact ah h
theorem tD{b:Addr}{vs:List ag}{ks:List Int}{Q:Bool→ae→Prop}{d:Nat}(ht:lP s.heap b vs.toArray)(hi:fb vs ks)(h:Q true s):wpAny (model c.prog c.w) A (hashByValue (d+1) (.ref b)) Q X s:=by
 refine nN ht ?_;clear ht;intro o ho hc m hd;refine aa (iJ (T:="tuple") ⟨o,ho,hc⟩ PySem.F.slot_tuple_hash.lookup ?_);refine aa (gQ ho hd ?_);show wpAny _ _ (forIn vs.toArray _ _>>=_) _ _ s;rw[← Array.forIn_toList];refine aa (z4 _ (λ rest r s'=>r.1=none∧s'=s∧∀v∈rest,∃i t,v=nG i t) _ ?_ ?_ _ _ ⟨rfl,rfl,zb hi⟩)
 ·rintro v rest r s' ⟨hr,rfl,pE⟩
  refine iz (pE v (.head _)) λ i t z1=>?_;subst z1;rw[show hashByValue d (.int i t)=pure true by cases d<;>rfl];refine vW ?_;refine wF ?_;exact ah ⟨rfl,rfl,λ u hu=>pE u (.tail _ hu)⟩
 ·rintro⟨r1,r2⟩ s' ⟨hr,rfl,_⟩
  simp only at hr;subst hr;exact ah h
noncomputable def uT(h:Heap)(v:ag):Prop:=∃b vs ks,v=.ref b∧lP h b vs.toArray∧fb vs ks
theorem Hm{x:ag}{ys:List ag}{Q:Bool→ae→Prop}(hx:uT s.heap x)(hy:∀y∈ys,uT s.heap y)(h:Q false s):wpAny (model c.prog c.w) A (searchCouldBeSeen x ys) Q X s:=by
 refine aa (z4 _ (λ rest r s'=>r.1=none∧s=s'∧∀v∈rest,uT s.heap v) _ ?_ ?_ _ _ ⟨rfl,rfl,hy⟩)
 ·rintro y rest r s' ⟨hr,rfl,pE⟩
  refine c8 hx ?_;clear hx;intro b vs ks z1 ht hi;subst z1;refine c8 (pE y (.head _)) λ b' i6 Rv z1 N2 Dt=>?_;subst z1;have fin:∀v∈rest,uT s.heap v:= λ u hu=>pE u (.tail _ hu);dsimp only
  split
  ·exact ah ⟨rfl,rfl,fin⟩
  ·refine aa (wpAny_eqIsQuiet_tuple (tJ (p:=c.prog) (w:=c.w) ht hi) ?_);refine wF ?_;refine aa (wpAny_eqIsQuiet_tuple (tJ (p:=c.prog) (w:=c.w) N2 Dt) ?_);refine wF ?_;refine aa (qe ht hi ?_);refine wF ?_;refine aa (qe N2 Dt ?_);refine wF ?_;exact ah ⟨rfl,rfl,fin⟩
 ·rintro⟨r1,r2⟩ s' ⟨hr,rfl,_⟩
  simp only at hr;subst hr;exact ah h
theorem w8{w:a0}{p:Program}{h:Heap}{e:Int×ag}{k:List Nat}(x:JW O h e k):∃b,e.2=.ref b∧b∉O∧IsTupleKey (intKind p w) h (k.map qT) b:=by
 refine lY x ?_;clear x;intro z b vs h1 h2 h3 h4;exact⟨b,h1,h2,tJ h3 h4⟩
theorem bM.QX{h:Heap}{es:List (Int×ag)}{cs:List (List Nat)}(r:bM O h es cs):∀e∈es,uT h e.2:=
 r.ind (λ e he=>nn he) λ e z c z q z ih e' he=>by
  rcases mc he with rfl|he
  ·refine bL q.2 ?_;intro b vs h1 z h3 h4;exact⟨b,vs,_,h1,h3,h4⟩
  ·exact ih e' he
theorem bM.hashes{h:Heap}{es:List (Int×ag)}{cs:List (List Nat)}(r:bM O h es cs):es.map (·.1)=cs.map gw:=
 r.ind rfl λ e z c z q z ih=>by rw[a9,a9,q.1,ih]
theorem BV(st:TS)(b:Bool)(j:Nat):(st.tab b).put j=(⟨st.mask,bt st.place.toArray (b7 st.place.toArray j) j,#[],0,b,st.moves,true⟩,b7 st.place.toArray j):=rfl
theorem AW{mask moves:Nat}{place:Array Nat}{hs:Array Int}{rd:Nat}{t':SetTable}{order:Array Nat}(h:(Av mask place #[] 0 true moves true).relaid hs rd=some (t',order))(b:Bool):
  (Av mask place #[] 0 b moves true).relaid hs rd=some (⟨t'.mask,t'.place,#[],0,b,t'.moves,true⟩,order):=by
 unfold SetTable.relaid SetTable.laid at h⊢;cases hl:SetTable.layClean (lS rd-1) hs with
 |none=>rw[hl]at h;cases h
 |some owner=>
  rw[hl]at h;injection h with h
  injection h with h1 h2
  subst h1;subst h2;rfl
theorem yv{n:Nat}(h:n≤7):lS (lQ n)≤sizeLine:=by
 have:∀n∈aw 8,lS (lQ n)≤32:=by decide
 have:=this n (aO.mpr (by exact cX h));rw[cG];exact af this (aG _ _)
theorem uz{h:Heap}{a:Addr}{es:Array (Int×ag)}{m:Nat}{t:SetTable}(rN:Array (Int×ag))(t':SetTable)(ho:h.get? a=some (cR es m t)):(h.update a (jB rN t')).get? a=some (cR rN (m+1) t'):=by
 have:=b0 (jB rN t') ho (by rw[putSet_of _ _ rfl];rfl);rw[putSet_of _ _ rfl]at this;exact this
theorem J9{k:Nat}{st:TS}(kt:st∈l4 k):st.ids.length+1≤st.mask:=by
 have h1:(l4 1).all (λ st=>decide (st.ids.length+1≤st.mask))=true:=by decide +kernel
 have h2:(l4 2).all (λ st=>decide (st.ids.length+1≤st.mask))=true:=by decide +kernel
 have h3:(l4 3).all (λ st=>decide (st.ids.length+1≤st.mask))=true:=by decide +kernel
 exact L8 (M:= λ k=>st∈l4 k→st.ids.length+1≤st.mask) k (λ h=>nn h) (λ h=>of_decide_eq_true (bf.mp h1 _ h)) (λ h=>of_decide_eq_true (bf.mp h2 _ h)) (λ h=>of_decide_eq_true (bf.mp h3 _ h)) (λ k h=>nn h) kt
noncomputable def TS.plus(k:Nat)(st:TS)(x:Nat):TS:=if x∈st.ids then st else(st.add (nQ k) x).getD st
theorem TS.xo{k:Nat}{st:TS}{x:Nat}(kt:st∈l4 k)(hx:x<(j_ k).length):st.plus k x∈l4 k∧(x∈st.ids→st.plus k x=st)∧(x∉st.ids→(st.plus k x).ids.Perm (x::st.ids)):=by
 unfold TS.plus
 by_cases h:x∈st.ids
 ·rw[if_pos h];exact⟨kt,λ z=>rfl,λ h'=>absurd h h'⟩
 ·rw[if_neg h];refine cH ((EC kt).new x hx h) λ y h1 h2 h3=>?_;rw[h1];exact⟨h2,λ h'=>absurd h' h,λ z=>h3⟩
theorem yA{a:Addr}{x:ag}{h:Int}{j m:Nat}{es:Array (Int×ag)}{t:SetTable}(ho:s.heap.get? a=some (cR es m t))(hf:t.fits es.size=true)(hg:t.gaveWay=false)(hp:t.probe (λ i=>((es[i]?).map (·.1)).getD 0) h (t.probeStart h)=some (.empty j none)){Q:pS→ae→Prop}(hq:Q (.free j false) s):wpAny (model c.prog c.w) A (setSearch a x h true) Q X s:=
 aa (a8 ho rfl hf (wN (by rw[hg];decide) (by
  show wpAny _ A (_:Sem pS) _ _ _;generalize e:t.probe _ _ _=o;obtain rfl:o=_:=e.symm.trans hp;exact ah hq)))
theorem AO{a b:Addr}{x:ag}{h eh:Int}{i j m:Nat}{nx:ip}{es:Array (Int×ag)}{t:SetTable}(ho:s.heap.get? a=some (cR es m t))(hf:t.fits es.size=true)(hg:t.gaveWay=false)(hp:t.probe (λ i=>((es[i]?).map (·.1)).getD 0) h (t.probeStart h)=some (.candidate j i nx))(he:es[i]? =some (eh,.ref b))(hs:∀{Q:Bool→ae→Prop},Q false s→wpAny (model c.prog c.w) A (searchCouldBeSeen x ((es.filter (·.1==h)).toList.map (·.2))) Q X s)(hq:∀{Q:Bool→ae→Prop},Q true s→wpAny (model c.prog c.w) A (eqBool (.ref b) x) Q X s){Q:pS→ae→Prop}(k:Q (.there none) s):wpAny (model c.prog c.w) A (setSearch a x h true) Q X s:=
 aa (a8 ho rfl hf (wN (by rw[hg];decide) (by
  show wpAny _ A (_:Sem pS) _ _ _;generalize e:t.probe _ _ _=o;obtain rfl:o=_:=e.symm.trans hp;have jp:∀f:Unit→Sem pS,wpAny (model c.prog c.w) A (f ()) Q X s→wpAny (model c.prog c.w) A (if(!t.led)=true then searchCouldBeSeen x ((es.filter (·.1==h)).toList.map (·.2))>>= λ z=>if z=true then(unsupported "set:the-search-would-show-the-table":Sem Unit)>>=f else f ()else f ()) Q X s:= λ f hk=>by
   split
   ·exact aa (hs (wN (by decide) hk))
   ·exact hk
  refine jp _ ?_;show wpAny _ A (_:Sem pS) _ _ _;generalize e2:es[i]? =o;obtain rfl:o=_:=e2.symm.trans he;exact aa (aV (hq (aa (a8 ho rfl hf (wP rfl (ah k)))))))))
theorem DI{a:Addr}{x:ag}{h:Int}{m:Nat}{es:Array (Int×ag)}{t:SetTable}(ho:s.heap.get? a=some (cR es m t))(hf:t.fits es.size=true)(hb:byScan x es=false)(hs:∀{Q:pS→ae→Prop},Q (.there none) s→wpAny (model c.prog c.w) A (setSearch a x h true) Q X s){Q:Bool→ae→Prop}(k:Q false s):wpAny (model c.prog c.w) A (setAddHashed a x h) Q X s:=
 aV (aa (a8 ho rfl hf (wN (by rw[hb];decide) (aa (hs (ah k))))))
theorem GV{a:Addr}{x:ag}{h:Int}{j m p:Nat}{es uD:Array (Int×ag)}{t eu:SetTable}(ho:s.heap.get? a=some (cR es m t))(hf:t.fits es.size=true)(hb:byScan x es=false)(hs:∀{Q:pS→ae→Prop},Q (.free j false) s→wpAny (model c.prog c.w) A (setSearch a x h true) Q X s)(Bf:t.put j=(eu,p))(F0:eu.plain=true)(hv:∀{Q:Bool→ae→Prop},Q true s→wpAny (model c.prog c.w) A (hashByValue 8 x) Q X s)(he:bt es p (h,x)=uD)(hz:uD.size≤sizeLine){Q:Bool→ae→Prop}(k0:eu.tooFull=false→Q true {s with heap:=s.heap.update a (jB uD eu)})(k1:eu.tooFull=true→wpAny (model c.prog c.w) A (setRelay a (lQ (es.size+1))) (λ z s'=>Q true s') X {s with heap:=s.heap.update a (jB uD eu)}):wpAny (model c.prog c.w) A (setAddHashed a x h) Q X s:=by
 subst he;refine aV (aa (a8 ho rfl hf (wN (by rw[hb];decide) (aa (hs (aa (a8 ho rfl hf ?_)))))));dsimp only;generalize t.put j=o at Bf⊢;subst Bf;refine wP F0 (aa (hv (aa (oL (t':=eu) ho rfl ?_ hz))));cases e:eu.tooFull with
 |true=>exact wP (show(!false&&eu.tooFull)=true by rw[e];rfl) (aa (jc (k1 e) (λ z z q=>ah q) λ z z q=>q))
 |false=>exact wN (show¬(!false&&eu.tooFull)=true by rw[e];decide) (ah (k0 e))
theorem CV{a:Addr}{m w:Nat}{es rN:Array (Int×ag)}{t t':SetTable}{od:Array Nat}(ho:s.heap.get? a=some (cR es m t))(hf:t.fits es.size=true)(hn:¬lS w>sizeLine)(hr:t.relaid (es.map (·.1)) w=some (t',od))(he:od.filterMap (es[·]?)=rN)(hz:rN.size=es.size)(hl:rN.size≤sizeLine){Q:Unit→ae→Prop}(k:Q () {s with heap:=s.heap.update a (jB rN t')}):wpAny (model c.prog c.w) A (setRelay a w) Q X s:=by
 subst he;refine aa (a8 ho rfl hf (wN hn ?_));dsimp only;generalize t.relaid _ _=o at hr⊢;subst hr;exact aa (wN (by rw[hz];simp) (ah (oL ho rfl k hl)))
theorem bM.Jl{k:Nat}{h:Heap}{es:Array (Int×ag)}{ids:Array Nat}(r:bM O h es.toList (ids.toList.map (fR k)))(od:Array Nat):bM O h (od.filterMap (es[·]?)).toList ((od.filterMap (ids[·]?)).toList.map (fR k)):=by
 have e:(λ i=>(ids.toList.map (fR k))[i]?)= λ i=>(ids[i]?).map (fR k):=funext λ i=>by rw[bR,kH]
 have e2:(λ i=>es.toList[i]?)= λ i=>es[i]? :=funext λ i=>kH;rw[BK,BK,List.map_filterMap,← e,← e2];exact r.pick od.toList
theorem bM.hsh{k:Nat}{h:Heap}{es:Array (Int×ag)}{ids:Array Nat}(r:bM O h es.toList (ids.toList.map (fR k)))(hl:∀i∈ids.toList,i<(j_ k).length):es.map (·.1)=ids.map λ x=>(nQ k).getD x 0:=
 Array.toList_inj.mp (by
  rw[u6,u6,r.hashes,bI];exact cj λ i hi=>(BS (hl i hi)).symm)
theorem bM.zj{k:Nat}{h:Heap}{es:Array (Int×ag)}{ids:List Nat}(r:bM O h es.toList (ids.map (fR k)))(hl:∀i∈ids,i<(j_ k).length):(λ i=>((es[i]?).map (·.1)).getD 0)=zj (nQ k) ids:=by
 have e:=bM.hsh (ids:=ids.toArray) r hl
 funext i
 rw[← Array.getElem?_map,e,Array.getElem?_map,List.getElem?_toArray];rfl
theorem o_{α:Type}(xs:Array α)(p:Nat)(x:α):(bt xs p x).size=xs.size+1:=by
 rw[← i5,jX,aY,aJ,← eN,← aY,D2,i5]
theorem TS.IX{hs:List Int}{st y:TS}{x:Nat}(hy:st.add hs x=some y):∃j,(st.tab true).probe (Mine.zj hs st.ids) (hs.getD x 0) ((st.tab true).probeStart (hs.getD x 0))=some (.empty j none)∧
  ((((st.tab true).put j).1.tooFull=false∧y=⟨(bt st.ids.toArray ((st.tab true).put j).2 x).toList,((st.tab true).put j).1.place.toList,((st.tab true).put j).1.mask,((st.tab true).put j).1.moves⟩)∨
   (((st.tab true).put j).1.tooFull=true∧∃t' od,((st.tab true).put j).1.relaid ((bt st.ids.toArray ((st.tab true).put j).2 x).map λ x=>hs.getD x 0) (lQ (st.ids.length+1))=some (t',od)∧y=⟨(od.filterMap ((bt st.ids.toArray ((st.tab true).put j).2 x)[·]?)).toList,t'.place.toList,t'.mask,t'.moves⟩)):=by
 unfold TS.add at hy;generalize (st.tab true).probe _ _ _=o at hy⊢
 rcases o with _|⟨j,_|d⟩|_
 ·cases hy
 ·refine⟨j,rfl,?_⟩;dsimp only at hy;generalize (st.tab true).put j=u at hy⊢;cases e:u.1.tooFull with
  |false=>rw[e]at hy;exact .inl ⟨rfl,(cF hy).symm⟩
  |true=>
   rw[e]at hy;rw[if_pos rfl]at hy;generalize u.1.relaid _ _=o at hy⊢
   rcases o with _|⟨t',od⟩
   ·cases hy
   ·exact .inr ⟨rfl,t',od,rfl,(cF hy).symm⟩
 ·cases hy
 ·cases hy
theorem yx{a b:Addr}{k x:Nat}{st:TS}{es:Array (Int×ag)}{m:Nat}{Q:Bool→ae→Prop}(hu:A.units<cLine)(kt:st∈l4 k)(ho:s.heap.get? a=some (cR es m (st.tab !cN c.w)))(hE:bM O s.heap es.toList (st.ids.map (fR k)))(hx:x<(j_ k).length)(hb:JW O s.heap (gw (fR k x),.ref b) (fR k x))(hQ:∀r h' rN m',c7 a s.heap h'→h'.get? a=some (cR rN m' ((st.plus k x).tab !cN c.w))→bM O s.heap rN.toList ((st.plus k x).ids.map (fR k))→Q r {s with heap:=h'}):
  wpAny (model c.prog c.w) A (setAddHashed a (.ref b) (gw (fR k x))) Q X s:=by
 have T:=EC kt;have hz:es.size=st.ids.length:=by have:=hE.length;simpa using this
 have hf:(st.tab !cN c.w).fits es.size=true:=by rw[hz];exact TS.fits T _
 have hH:=hE.zj T.lt;have hg:(st.tab !cN c.w).gaveWay=false:=by unfold SetTable.gaveWay;simp[TS.tab,T.odd]
 have hp:(st.tab !cN c.w).probe (λ i=>((es[i]?).map (·.1)).getD 0) (gw (fR k x)) ((st.tab !cN c.w).probeStart (gw (fR k x)))=(st.tab true).probe (zj (nQ k) st.ids) ((nQ k).getD x 0) ((st.tab true).probeStart ((nQ k).getD x 0)):=by
  rw[C8,hH,BS hx];rfl
 have U4:byScan (.ref b) es=false:=rfl
 by_cases hm:x∈st.ids
 ·have F0:st.plus k x=st:=by unfold TS.plus;rw[if_pos hm]
  rw[F0]at hQ;refine lB (T.fU x hm) λ j i p he hi=>?_
  rcases hE.at i with⟨_,h2⟩|⟨⟨eh,ev⟩,cc,h1,h2,h3⟩
  ·rw[bR,hi]at h2;cases h2
  rw[bR,hi]at h2;obtain rfl:=cF h2;refine cH (w8 (p:=c.prog) (w:=c.w) h3) λ b' hv u Wa=>?_;refine cH (w8 (p:=c.prog) (w:=c.w) hb) λ PA FW u kb=>?_;obtain rfl:b=PA:=Value.ref.inj FW;obtain rfl:ev=.ref b':=hv;exact DI ho hf U4 (AO ho hf hg (hp.trans he) (kH▸h1) (λ hq=>Hm (ez hb.2 λ b vs h1 zh=>⟨b,vs,_,h1,zh.2.1,zh.2.2⟩) (λ y hy=>cW (aM.mp hy) λ e' Lc z=>z▸hE.QX e' (D6.mpr (Array.mem_filter.mp (D6.mp Lc)).1)) hq)
   λ hq=>wpAny_eqBool_tuple hu Wa kb (by rw[decide_eq_true rfl];exact hq)) (hQ false s.heap es m (Heap.SameBut.refl _ _) ho hE)
 ·refine cH (T.new x hx hm) λ y hy Ym Wm=>?_;have F0:st.plus k x=y:=by unfold TS.plus;rw[if_neg hm,hy];rfl
  rw[F0]at hQ;refine cW (TS.IX hy) λ j he hy=>?_;have sO:(bt es (b7 st.place.toArray j) (gw (fR k x),dR b)).size=st.ids.length+1:=by rw[o_,hz]
  have Ik:(bt st.place.toArray (b7 st.place.toArray j) j).size=st.ids.length+1:=by rw[o_];exact congrArg (· +1) T.len
  have gy:∀i∈(bt st.ids.toArray (b7 st.place.toArray j) x).toList,i<(j_ k).length:= λ i hi=>by
   rw[jX]at hi
   rcases aC.mp hi with hi|hi
   ·exact T.lt i (pY hi)
   ·rcases mc hi with rfl|hi
    ·exact hx
    ·exact T.lt i (List.mem_of_mem_drop hi)
  have Iv:bM O s.heap (bt es (b7 st.place.toArray j) (gw (fR k x),dR b)).toList ((bt st.ids.toArray (b7 st.place.toArray j) x).toList.map (fR k)):=by
   rw[jX,jX,hJ,a9,Ax,List.map_drop];exact hE.insert hb _
  have h7:st.ids.length+1≤7:=cX T.Ua;refine GV ho hf U4 (yA ho hf hg (hp.trans he)) (BV ..) rfl (λ hq=>by refine lY hb λ u bb vs Xs u Xq Xp=>?_;obtain rfl:=Value.ref.inj Xs;exact tD Xq Xp hq) rfl (by rw[sO];exact cQ (af h7 (by decide))) ?_ ?_
  all_goals
   rw[BV]at hy;dsimp only at hy;generalize bt st.ids.toArray (b7 st.place.toArray j) x=ids at*;have wu:=uz (bt es (b7 st.place.toArray j) (gw (fR k x),dR b)) ⟨st.mask,bt st.place.toArray (b7 st.place.toArray j) j,#[],0,!cN c.w,st.moves,true⟩ ho;generalize bt es (b7 st.place.toArray j) (gw (fR k x),dR b)=uD at*;generalize bt st.place.toArray (b7 st.place.toArray j) j=pl at*
  ·intro zr
   rcases hy with⟨_,rfl⟩|⟨h,_⟩
   ·exact hQ true _ _ _ (bC ..) wu Iv
   ·exact absurd (h.symm.trans zr) (by decide)
  ·intro zr
   rcases hy with⟨h,_⟩|⟨_,t',od,R7,rfl⟩
   ·exact absurd (h.symm.trans zr) (by decide)
   ·have NQ:(od.filterMap (uD[·]?)).size=uD.size:=by
     have h1:=(Iv.Jl od).length;have h2:=Wm.length_eq;rw[aE]at h1;rw[← i5,h1,sO];exact h2
    exact CV wu (by unfold pT mj;rw[sO,Ik];simp[J9 kt]) (Nat.not_lt_of_le (hz▸yv h7)) ((Iv.hsh gy).symm▸hz▸AW R7 (!cN c.w)) rfl NQ (by rw[NQ,sO];exact cQ (af h7 (by decide)))
     (hQ true _ _ _ ((bC ..).trans (bC ..)) (uz _ _ wu) (Iv.Jl od))
end
theorem mr{k:Nat}(h:1≤k)(h':k≤3):iA∈l4 k:=Rz h h' (by decide) (sI ..) (by decide)
section
variable {c:Cx}{n:Nat}{E:VE}{ρ ρ':List Sl}{O:List Addr}{s:ae}
theorem mG.Q5{k:Nat}(h:1≤k)(h':k≤3):mG c n (.type "set") [] [] (.k8 k iA):= λ A O s vs ks R K r r'=>by
 refine fG r' ?_;cases vs with
 |cons _ _=>have:=r.length;trivial
 |nil=>
  refine zQ ⟨[s.heap.objs.size],aB.push (tk:=s.toks),K.br.push (tk:=s.toks),⟨_,#[],0,rfl,rfl,av _ rfl,mr h h',trivial⟩,λ a ha=>?_⟩;rw[aj]at ha;subst ha;exact⟨az _,by show _<(s.heap.push _).objs.size;rw[aW];exact aS _⟩
theorem vY{w:a0}{h:Heap}{es:Array (Int×ag)}{k:Nat}{st:TS}(kt:st∈l4 k)(hE:bM O h es.toList (st.ids.map (fR k)))(b:Bool):(st.tab b).fits es.size=true∧es.size=st.ids.length:=by
 have hz:es.size=st.ids.length:=by have:=hE.length;simpa using this
 exact⟨by rw[hz];exact TS.fits (EC kt) _,hz⟩
theorem Fn.yX{k:Nat}{st:TS}:Fn c n (.builtin "len") [.k8 k st] [] (.int st.ids.length):= λ A O s vs ks R K ej r'=>by
 refine fy ej λ v r=>?_;refine fG r' ?_;refine bh.yn r ?_;clear r;intro a es m ha ho kt hE;refine xa (vY (w:=c.w) kt hE (!cN c.w)) λ hf hz=>?_;rw[← hz];exact call_len_set ho ⟨rfl,rfl,rfl⟩ rfl hf (by have:=(EC kt).Ua;lia) (Res.tok K.br fq)
theorem qc{A:aK}{β:dH}{ad:Nat→List Addr}{name:Str}{pos:Pos}{args:List Expr}{a:Addr}{T id:String}{ds:List D}(R:Rm A n)(I:Inv c E β O ad ρ s)(K4:PlainAttrs T)(slot:Slot T name id)(Ws:typeOf (.builtin id)=pure (.type "method_descriptor"))(hT:s.TypeIs (.ref a) T)(hd:∀b,dR a=.ref b→∃ob,s.heap.get? b=some ob∧ob.dict=none)(ha:ck c n E ρ args ds)(hp:(starEach args E.env).any (·.1)=false){Q:ag→ae→Prop}(h:∀vs s',aB c [] [] s s'→Inv c E β O ad ρ s'→a7 c.w O s'.heap vs ds→wpAny (model c.prog c.w) A (call (.builtin id) (.ref a::vs) []) Q aZ s'):
  MethodOnS c.prog c.w A aZ name (.ref a) pos (backTo pos (starEach args E.env)) Q s:=by
 refine⟨T,id,K4,slot,Ws,hT,hd,?_⟩;refine fS (kws:=[]) (kwds:=[]) R I (show jz c (.builtin id)from trivial) ha .nil hp λ vs ks s' x I' r r'=>?_;refine fG r' ?_;exact h vs s' x I' r
theorem xi{A:aK}{a b:Addr}{k x:Nat}{st:TS}{es:Array (Int×ag)}{m:Nat}{Q:ag→ae→Prop}{X:ag→ae→Prop}(hu:A.in1.units<cLine)(kt:st∈l4 k)(ho:s.heap.get? a=some (cR es m (st.tab !cN c.w)))(hE:bM O s.heap es.toList (st.ids.map (fR k)))(hx:x<(j_ k).length)(hb:JW O s.heap (gw (fR k x),.ref b) (fR k x))(hQ:∀tk h' rN m',c7 a s.heap h'→h'.get? a=some (cR rN m' ((st.plus k x).tab !cN c.w))→bM O s.heap rN.toList ((st.plus k x).ids.map (fR k))→Q .none {s with heap:=h',toks:=tk}):
  wpAny (model c.prog c.w) A (call (.builtin "set.add") [.ref a,.ref b]) Q X s:=by
 refine bO BG ⟨_,ho,rfl⟩ PySem.F.entry_set_add ?_ (PySem.F.args_set_add_2 _ _);unfold Builtin.«set.add» Builtin.Frozenset.oneOther;simp only[List.isEmpty_nil,bind_assoc];refine vW ?_
 try dsimp only
 refine vW ?_
 try dsimp only
 refine aa ?_;refine aV ?_;refine cH (w8 (p:=c.prog) (w:=c.w) hb) λ b' hv z kb=>?_;injection hv with hv
 subst hv;refine aa (wpAny_pyHash_tuple hu kb ?_);refine yx (s:={s with toks:=s.toks+(((fR k x).map qT).length+1)}) hu kt ho hE hx hb λ r h' rN m' hs h1 h2=>?_;show wpAny _ _ (ret di) _ _ _;exact ah ⟨_,rfl,hQ _ h' rN m' hs h1 h2⟩
theorem Fg{w:a0}{h:Heap}{vs:List ag}{xs:List Nat}(r:a7 w O h vs (D.nats xs)):fb vs (xs.map qT):=by
 rw[dX]at r;exact mz r
theorem ba.IY(i:Nat){x:Str}{p apos pos pos':Pos}{e:Expr}{k y:Nat}{st:TS}(h:Ev c (n+1) E ρ e (.tup (D.nats (fR k y))))(hy:y<(j_ k).length)(hx:E.vn[i]? =some x)(dQ:ρ[i]? =some (.own true (.k8 k st)))(i9:autoParam (attributeBase (.Name x p) "add" E.env (eval (.Name x p) E.env)=eval (.Name x p) E.env) rf)(rI:autoParam (((backTo pos (starEach [e] E.env)).all (λ x=> !x.1)&&(backToKw pos (keywordEach [] E.env)).all (λ x=>x.1.isSome)
   &&decide (([e]:List Expr).length+([]:List dU).length+(if([]:List dU).isEmpty then 0 else 1)<30))=true) rf)(iO:autoParam ((apos.endLine==pos.line)=true) rf)(hp:autoParam ((starEach [e] E.env).any (·.1)=false) rf)(N_:∀env,starEach [e] env=(false,eval e env)::starEach [] env:=by intros;rfl)
  (hi:autoParam (interactive E.env=false) rf) (hs:autoParam (swapsWith (.Call (.Attribute (.Name x p) "add" apos) [e] [] pos) none pos'.line E.env=pure false) rf):
  ba c (n+1) E ρ (.Expr (.Call (.Attribute (.Name x p) "add" apos) [e] [] pos) pos') (.next (ρ.set i (.own true (.k8 k (st.plus k y))))):= λ A β s R w0=>by
 refine iz w0 ?_;clear w0;intro O ad I;refine gW (kG i9 rI iO ?_) hi hs;refine cH (I.slot hx dQ) λ v b r kk=>?_;refine I.read hx b ?_;refine lB r ?_;clear r;intro a es m z1 zh;refine b_ zh ?_;clear zh;intro jx ho kt hE;subst z1;refine qc R I PySem.F.plainAttrs_set BG PySem.F.type_set_add ⟨_,ho,rfl⟩ (λ b hb=>by injection hb with hb;subst hb;exact⟨_,ho,rfl⟩) (ck.cons h .nil N_) hp λ vs aH iQ ct bB=>?_;refine fy bB λ u ru=>?_;refine bh.qh ru ?_;clear ru;intro t us ht FX MS;refine cH (ct.slot hx dQ) λ v' b' r' k'=>?_;refine lB r' ?_;clear r';intro a' rN m' z1 zh;refine b_ zh ?_;clear zh;intro i0 nh N8 Iv;subst z1;have:a'=a:=by rw[jx]at i0;simpa using i0.symm
 subst this;have kz:a'∈ad i:=by rw[i0];exact .head _
 refine c9 (xi R.in1.u0 N8 nh Iv hy ⟨rfl,t,us,rfl,ht,FX,Fg MS⟩ λ tk h' Ts m2 An h1 h2 up=>?_);have g:aB c [a'] [] aH {aH with heap:=h',toks:=tk}:=SameBut.grow (tk:=tk) An nh eZ;have S:bF c {aH with heap:=h',toks:=tk}:=SameBut.br (tk:=tk) ct.br An (ct.low _ (k' _ kz).1);have mi:tu [a'] O aH:= λ b hb=>by obtain rfl:=m1 hb;exact .inl (k' _ kz).1
 refine⟨rfl,[]++O,_,ct.jj (N:=[]) (fp:=ad i) hx dQ g S (λ b hb=>by obtain rfl:=m1 hb;exact kz) b' ⟨a',Ts,m2,rfl,i0,h1,(TS.xo N8 hy).1,bM.kept (Kept.ok g mi) (nL.refl _ _) h2⟩ (λ z=>nn) λ b hb=>.inl hb⟩
end
section
variable {c:Cx}{n:Nat}{E:VE}{ρ ρ':List Sl}{O:List Addr}{s:ae}
structure GZ(w:a0)(t:SetTable)(place:List Nat)(es:Array (Int×ag)):Prop where
 fits:t.fits es.size=true
 plain:t.plain=true
 led:t.led= !cN w
 pl:t.place=place.toArray
 len:place.length=es.size
 TM:∀i,i≤es.size→b7 place.toArray (slotAt place i)=i
theorem QZ{w:a0}{h:Heap}{es:Array (Int×ag)}{k:Nat}{st:TS}(kt:st∈l4 k)(hE:bM O h es.toList (st.ids.map (fR k))):GZ w (st.tab !cN w) st.place es:=by
 refine xa (vY (w:=w) kt hE (!cN w)) λ hf hz=>?_;have T:=EC kt;exact⟨hf,rfl,rfl,rfl,by rw[T.len,hz],λ i hi=>T.TM i (by exact af hi (de hz))⟩
theorem r_{A:aK}{X:ag→ae→Prop}{a:Addr}{t:SetTable}{place:List Nat}{es:Array (Int×ag)}{m slot i:Nat}{Q:Option (ag×Nat)→ae→Prop}(ho:s.heap.get? a=some (cR es m t))(W:GZ c.w t place es)(hs:cN c.w=false→slot=slotAt place i)(hi:i≤es.size)(h:∀ia,(cN c.w=false→i<es.size→ia=slotAt place (i+1))→Q (((told c.w a m es)[i]?).map λ e=>(e.2,ia)) s):
  wpAny (model c.prog c.w) A (setNext a slot i m) Q X s:=by
 have hf:=W.fits;refine aa (a8 ho rfl hf ?_);refine aa (aa (df (ah ?_)));show wpAny _ _ (if(cN c.w)=true then _ else _) _ _ _;cases hb:cN c.w with
 |true=>
  refine wP rfl ?_;simp only[bne_self_eq_false,aR,if_false];refine aa (aa (a8 ho rfl hf ?_));refine aa (aa (df (ah ?_)));show wpAny _ _ (if(cN c.w)=true then _ else _) _ _ _;rw[hb,if_pos rfl];refine aa (df (ah (ah ?_)));have:=h slot (by simp[hb]);unfold told at this;rw[hb,if_pos rfl]at this;show Q (Option.map (λ e=>(e.snd,slot)) (pickOrder (c.w.params.setOrder a m) es)[i]?) s;simpa using this
 |false=>
  have ng:=hs hb;subst ng;refine wN (by decide) ?_;have Li:=W.TM i hi;show wpAny _ _ (if(!t.plain&&decide (es.size>1))=true then _ else _) _ _ _;rw[W.plain,if_neg (by simp)];refine aa ?_;show wpAny _ _ (if(!t.led&& !es.isEmpty)=true then _ else _) _ _ _;rw[W.led,hb,if_neg (by simp)];refine ah ?_;rw[W.pl,Li];show wpAny _ _ (pure (match es[i]?,place.toArray[i]? with
   |some (_,x),some j=>some (x,j+1)
   |_,_=>none)) _ _ _
  refine ah ?_;have key:=h (place.getD i 0+1) λ z gy=>by rfl
  unfold told at key;rw[hb,if_neg (by decide)]at key;have hl:=W.len
  by_cases gy:i<es.size
  ·have e1:place.toArray[i]? =some (place.getD i 0):=by simp[show i<place.length by exact Ea hl gy]
   have e2:es[i]? =some es[i]:=by simp[gy]
   have e3:es.toList[i]? =some es[i]:=by simp[gy]
   rw[e1,e2];rw[e3]at key;exact key
  ·have e1:place.toArray[i]? =none:=by simp;lia
   have e3:es.toList[i]? =none:=by simp;exact cu gy
   have e2:es[i]? =none:=by simpa using e3
   rw[e1,e2];rw[e3]at key;exact key
theorem vy{A:aK}{X:ag→ae→Prop}{I a:Addr}{t:SetTable}{place:List Nat}{es:Array (Int×ag)}{m slot i:Nat}{e:Int×ag}{Q:Option ag→ae→Prop}(hI:s.heap.get? I=some (fW slot i (.ref a) es.size m))(ho:s.heap.get? a=some (cR es m t))(W:GZ c.w t place es)(hs:cN c.w=false→slot=slotAt place i)(hi:i<es.size)(he:(told c.w a m es)[i]? =some e)(hQ:∀h' ia,h'.get? I=some (fW ia (i+1) (.ref a) es.size m)→c7 I s.heap h'→(cN c.w=false→ia=slotAt place (i+1))→Q (some e.2) {s with heap:=h'}):
  wpAny (model c.prog c.w) A (pyNext (.ref I)) Q X s:=by
 have hT:s.TypeIs (.ref I) "set_iterator":=⟨_,hI,rfl⟩;have hf:=W.fits;refine aa (gq (cC (name:=d_ "__next__") hT c_ (bO c_ hT iS ?_ (jq _))));show wpAny _ _ (fieldsOf (.ref I)>>=_) _ _ s;refine aa (sX hI rfl ?_);show wpAny _ _ (setEntries a>>=_) _ _ s;refine aa (aa (a8 ho rfl hf (ah ?_)));refine wN (by simp) ?_;refine aa (r_ (slot:=slot) (i:=i) ho W hs (bV hi) λ ia eO=>?_);rw[show((m:Int)).toNat=m from rfl,he];dsimp only[jf];have h1:=b0 (sG (·.setIfInBounds 0 (rawInt ia))) hI rfl;refine aa (ll hI rfl (by exact bD _) ?_);refine aa (ll h1 rfl (by exact aG _ _) ?_);refine ah ⟨_,rfl,ah (hQ _ ia ?_ ((bC ..).trans (bC ..)) λ hb=>eO hb hi)⟩;exact b0 (sG (·.setIfInBounds 1 (rawInt ((i:Int)+1)))) h1 rfl
theorem vz{A:aK}{X:ag→ae→Prop}{I a:Addr}{t:SetTable}{place:List Nat}{es:Array (Int×ag)}{m slot:Nat}{Q:Option ag→ae→Prop}(hh:A.handled=none)(hI:s.heap.get? I=some (fW slot es.size (.ref a) es.size m))(ho:s.heap.get? a=some (cR es m t))(W:GZ c.w t place es)(hs:cN c.w=false→slot=slotAt place es.size)(hQ:∀h',pW I s.heap h'→Q none {s with heap:=h'}):
  wpAny (model c.prog c.w) A (pyNext (.ref I)) Q X s:=by
 have hT:s.TypeIs (.ref I) "set_iterator":=⟨_,hI,rfl⟩;have hf:=W.fits;have he:(told c.w a m es)[es.size]? =none:=by
  have:=(jQ c.w a m es).length_eq;exact bk (by rw[this];simp)
 refine aa (gq (cC (name:=d_ "__next__") hT c_ (bO c_ hT iS ?_ (jq _))));show wpAny _ _ (fieldsOf (.ref I)>>=_) _ _ s;refine aa (sX hI rfl ?_);show wpAny _ _ (setEntries a>>=_) _ _ s;refine aa (aa (a8 ho rfl hf (ah ?_)));dsimp only;refine wN (by simp) ?_;refine aa (r_ (slot:=slot) (i:=es.size) ho W hs (az _) λ ia eO=>?_);rw[show((m:Int)).toNat=m from rfl,he];dsimp only[Option.map_none];refine aa (ll hI rfl (by exact aG _ _) ?_);show wpAny _ _ (newExc (.type "StopIteration") []>>=_) _ _ _;refine aa ?_;refine aa (bo ?_ (by exact bS _));refine aa (m:=firstArgMember _ _) (dg (a:=di) (by first|rfl|(simp only[firstArgMember];rfl)) ?_);refine bo ?_ (by size_fits);refine aa (oU ?_);rw[show A.in1.handled=none from hh];refine aa (ah (sU ?_));refine aa (cg (T:="StopIteration") (b:=true) ⟨_,av _ rfl,rfl⟩ nH ?_);exact ah (hQ _ (((bC ..).extBut.push _).push _))
noncomputable abbrev ym(c:List Nat):D:=.tup (D.nats c)
theorem Hv{w:a0}{h:Heap}{e:Int×ag}{k:List Nat}(x:JW O h e k):bh w O h e.2 (ym k):=by
 refine lY x ?_;clear x;intro z b vs h1 h2 h3 h4;rw[h1];exact⟨b,vs,rfl,h2,h3,by rw[dX];exact uR h4⟩
theorem nM.k8{A:aK}{tg:Expr}{I a:Addr}{k:Snap}{t:SetTable}{place:List Nat}{es:Array (Int×ag)}{m:Nat}{cs:List (List Nat)}(hh:A.handled=none)(ho:k.s.heap.get? a=some (cR es m t))(ha:a∉k.O)(W:GZ c.w t place es)(hE:bM k.O k.s.heap (told c.w a m es) cs)(hI:I∈k.O)(hK:I∉k.K):
  nM c A tg (.ref I) k [] (λ F ds s=>F=[I]∧∃i slot,s.heap.get? I=some (fW slot i (.ref a) es.size m)∧i≤es.size∧(cN c.w=false→slot=slotAt place i)∧ds=(cs.map ym).drop i) where
 det:= λ h h'=>h.1.trans h'.1.symm
 frame:=by
  rintro F V G' ds s s' ⟨rfl,i,slot,fU,r⟩ x S hV _
  exact⟨rfl,i,slot,x.keep _ _ (λ h=>hV _ h (.head _)) fU (bU (by simp)),r⟩
 next:= λ {F ds d s} S hs hB w0=>by
  refine lY w0 ?_;clear w0;intro hF i slot fU hi ng e;subst hF;have hlen:(told c.w a m es).length=es.size:=by rw[(jQ c.w a m es).length_eq];simp
  have F6:cs.length=es.size:=by rw[← hE.length,hlen]
  have gy:i<es.size:=by
   rcases oW i es.size with h|h
   ·exact h
   ·rw[oO (by rw[aE];exact af (de F6) h)]at e;cases e
  rcases hE.at i with⟨h1,_⟩|⟨en,cc,h1,h2,h3⟩
  ·rw[List.getElem?_eq_none_iff]at h1;lia
  ·have hd:(cs.map ym).drop i=ym cc::(cs.map ym).drop (i+1):=by
    rw[et (by rw[aE];exact Ea F6 gy)]
    congr 1
    rw[List.getElem_map];rw[aq (by lia)]at h2;injection h2 with h2;rw[h2]
   rw[hd]at e;injection e with e1 e2
   subst e1;refine vy fU (hs.obj ha ho eZ) W ng gy h1 λ h' ia mX eO K0=>⟨_,rfl,?_⟩;have g:aB c [I] [] s {s with heap:=h'}:=SameBut.grow (tk:=s.toks) eO fU (bU (by simp));have Ce:=hs.step g λ b hb=>by obtain rfl:=m1 hb;exact⟨.inl hI,hK⟩
   refine hY mX rfl (by decide) ⟨g,SameBut.br (tk:=s.toks) S eO (hB I (.head _)),[I],rU.refl _ _ _,Ce.nice (Hv h3),rfl,i+1,ia,mX,by trivial,K0,e2⟩
 done:= λ {F s} S hs hB w0=>by
  refine lY w0 ?_;clear w0;intro hF i slot fU hi ng e;subst hF;have hlen:(told c.w a m es).length=es.size:=by rw[(jQ c.w a m es).length_eq];simp
  have F6:cs.length=es.size:=by rw[← hE.length,hlen]
  have Qv:i=es.size:=by
   have:=congrArg vP e;rw[vm,aE]at this;simp at this;lia
  subst Qv;refine c9 (vz hh fU (hs.obj ha ho eZ) W ng λ h' he up=>⟨rfl,ExtBut.grow (tk:=s.toks) up.heap he fU (bU (by simp)),ExtBut.br (tk:=s.toks) S up.heap he (hB I (.head _))⟩)
 self:= λ {A' F ds s} S w0=>by obtain⟨_,i,slot,fU,_⟩:=w0;exact qb fU rfl ⟨rfl,rfl⟩
theorem Ib.k8{tg:Expr}{k:Nat}{st:TS}:Ib c n tg (.k8 k st) (λ ds=>∃cs:List (List Nat),cs.Perm (st.ids.map (fR k))∧ds=cs.map ym):= λ A O s v R K r=>by
 refine bh.yn r ?_;clear r;intro a es m ha ho kt hE;have W:=QZ (w:=c.w) kt hE;have hf:=W.fits;refine cW (hE.perm (jQ c.w a m es)) λ cs Xl Xm=>?_;have hT:s.TypeIs (.ref a) "set":=⟨_,ho,rfl⟩;refine oM hT j8 (bO j8 hT nj ?_ (oq _));refine vW ?_;refine aa (aa (aa (a8 ho rfl hf (ah (ah ?_)))));refine aa (aa (a8 ho rfl hf ?_));refine aa (aa (df (ah ?_)));refine ah ?_;rw[if_neg (by
  show¬((!cN c.w&&(!(st.tab !cN c.w).plain&&decide (es.size>1)))=true);rw[W.plain];simp)]
 refine aa (ah (aa (xX ho rfl hf ?_)));simp only[newFields];refine aa (bo ?_);have g:aB c [] [] s {s with heap:=s.heap.push (fW 0 0 (.ref a) es.size m)}:=aB.push (tk:=s.toks);have zx:a≠s.heap.objs.size:=dO (aI ho);have hI:(s.heap.push (fW 0 0 (.ref a) es.size m)).get? s.heap.objs.size=some (fW 0 0 (.ref a) es.size m):=av _ rfl;have SJ:bM ([s.heap.objs.size]++O) (s.heap.push (fW 0 0 (.ref a) es.size m)) (told c.w a m es) cs:=bM.kept (Kept.ok g λ z=>nn) (λ b hb=>(aC.mp hb).elim (λ hb=>.inr (by rw[aj]at hb;subst hb;exact az _)) .inl) Xm;refine ah ⟨_,rfl,"set_iterator",_,⟨_,hI,rfl⟩,c_.lookup,g,K.br.push (tk:=s.toks),cs.map ym,⟨cs,Xl,rfl⟩,[s.heap.objs.size],[],λ b h=>?_,λ z=>nn,λ A' R'=>
  ⟨_,nM.k8 (cs:=cs) (a:=a) (m:=m) (es:=es) R'.handled (aA _ ho) (λ h=>?_) W SJ (.head _) (by simp),rfl,0,0,hI,bS _,λ z=>rfl,rfl⟩⟩
 ·rw[aj]at h;subst h;exact⟨az _,by rw[aW];exact aS _⟩
 ·rcases aC.mp h with h|h
  ·exact zx (aj.mp h)
  ·exact ha h
end
noncomputable def gK(M:qS)(A:aK)(Z:End→ae→Prop)(cd:Code)(t:Sem Fin)(fs:List Frame)(s:ae):Prop:=
 ∀Γ p,Γ.code=cd→Γ.Woken A→∃e s',Runs M Γ p t fs s e s'∧Z e s'
section
variable {M:qS}{A:aK}{Z Z':End→ae→Prop}{cd:Code}{fs:List Frame}{s:ae}{t:Sem Fin}
theorem gK.mono(h:gK M A Z cd t fs s)(k:∀e s',Z e s'→Z' e s'):gK M A Z' cd t fs s:= λ Γ p hc Am=>
 let⟨e,s',hr,hz⟩:=h Γ p hc Am; ⟨e,s',hr,k e s' hz⟩
theorem th{α:Type}{m:Sem α}{K:α→Sem Fin}{H:ag→Sem Fin}{gd lv}(h:wpAny M (A.over cd fs) m (λ a s'=>gK M A Z cd (K a) fs s') aZ s):
  gK M A Z cd (m.wrap K H gd lv) fs s:=by
 rintro Γ p rfl Am
 exact runs_wrap_of_wp K H gd lv m (h (Γ.over fs) p (Am.over fs)) (λ a p' s' h'=>h' Γ p' rfl Am) (λ x p' s' h'=>h'.elim)
theorem dT{α β:Type}{m:Sem α}{K:α→Sem β}{K':β→Sem Fin}{H':ag→Sem Fin}{gd lv}(h:wpAny M (A.over cd fs) m (λ a s'=>gK M A Z cd ((K a).wrap K' H' gd lv) fs s') aZ s):gK M A Z cd ((m>>=K).wrap K' H' gd lv) fs s:=by
 rw[fQ,il];exact th h
theorem JH{p':Pos}{k:Unit→Sem Fin}(h:gK M A Z cd (k ()) fs s):gK M A Z cd (.at p' k) fs s:=
 th (m:=standAt p') (K:=k) (H:=.raise) (gd:=id) (lv:=id) (bQ h)
theorem Gk{l:List ag}{k:Unit→Sem Fin}(h:gK M A Z cd (k ()) fs s):gK M A Z cd (.point l k) fs s:=
 th (m:=point) (K:=k) (H:=.raise) (gd:=id) (lv:= λ z=>l) (wpAny_point h)
theorem IA{c':Code}{h g l}{k:iu→Sem Fin}(hc:∀p,gK M A Z c' (M.den c') (.ret k h g l cd p []::fs) s):
  gK M A Z cd (.call c' h g l k) fs s:=by
 rintro Γ p rfl Am
 refine ez (hc p (Γ.goto c') p rfl (Am.goto c')) λ e s' hr he=>?_;exact⟨e,s',runs_call_seg hr,he⟩
theorem Iy{k h g l c₁ nz kp}(r:iu)(hk:gK M A Z c₁ (k r) fs s):gK M A Z cd (leafOf r) (.ret k h g l c₁ nz kp::fs) s:=by
 rintro Γ p rfl Am
 refine ez (hk (Γ.goto c₁) nz rfl (Am.goto c₁)) λ e s' hr he=>?_;exact⟨e,s',Runs.pop r hr,he⟩
theorem zE{c':Code}(hq:c'.quiet=true)(hc:gK M A Z c' (M.den c') fs s):gK M A Z cd (.pure (.again c')) fs s:=by
 rintro Γ p rfl Am
 refine ez (hc (Γ.goto c') p rfl (Am.goto c')) λ e s' hr he=>?_;exact⟨e,s',Runs.head (c₁:=c') (λ z z x=>.again hq x) hr,he⟩
theorem Lq(r:iu)(h:Z (.ret r) s):gK M A Z cd (leafOf r) [] s:=by
 rintro Γ p rfl _
 exact⟨.ret r,s,Runs.leaf r,h⟩
theorem Gj{v g l}{k:Resume→Sem Fin}(zt:splitAtGen fs=none)(h:∀p,Z (.susp v g l k cd p fs) s):gK M A Z cd (.yield v g l k) fs s:=by
 rintro Γ p rfl _
 exact⟨_,s,Runs.yield' fs zt,h p⟩
noncomputable def uV(M:qS)(A:aK)(Z:End→ae→Prop)(gs:mh)(r:Resume)(s:ae):Prop:=
 match gs with
 |.fresh c=>r=.send .none∧gK M A Z c (M.den c) [] s
 |.suspended k _ c _ fs _=>gK M A Z c (k r) fs s
 |_=>False
theorem o7{E:ag→ae→Prop}{g:Nat}{gs:mh}{r:Resume}{l:List ag}{α:Type}{k:GenResult→Sem α}{Q:α→ae→Prop}(hg:s.gens[g]? =some gs)(ni:uV M A Z gs r (s.setGen g .running))(hZ:∀e au,Z e au→e.quiet=true∧wpAny M A (k e.result) Q E (au.setGen g e.genState)):wpAny M A (.resume g r l k) Q E s:=by
 intro Γ p Am;have hB:∀c,(Γ.wake c p).Woken A:= λ c=>Am.wake c p;cases gs with
 |fresh c=>
  refine xa ni ?_;clear ni;intro z1 hs;cases z1;refine ez (hs (Γ.wake c p) p rfl (hB c)) λ rM au hr he=>?_;exact⟨_,_,by unfold Wakes;rw[hg];exact⟨rM,au,hr,(hZ rM au he).1,rfl,rfl⟩,(hZ rM au he).2 Γ p Am⟩
 |suspended n_ V5 Px Kv Vi cl=>
  refine ez (ni (Γ.wake Px p) Kv rfl (hB Px)) λ rM au hr he=>?_;exact⟨_,_,by unfold Wakes;rw[hg];exact⟨rM,au,hr,(hZ rM au he).1,rfl,rfl⟩,(hZ rM au he).2 Γ p Am⟩
 |running=>exact ni.elim
 |finished=>exact ni.elim
end
noncomputable def Yc(Q:Option ag→ae→Prop)(g:Nat):End→ae→Prop
 |.ret r,au=>r=.ok (.ret .none)∧∀h',(∀b o,au.heap.get? b=some o→h'.get? b=some o)→Q none {au.setGen g .finished with heap:=h'}
 |.susp v gd l k cd p fs,au=>(qM v gd l k cd p fs).quiet=true∧Q (some v) (au.setGen g (qM v gd l k cd p fs).genState)
section
variable {prog:Program}{w:a0}{A:aK}{E:ag→ae→Prop}{s:ae}
theorem lZ{a:Addr}{g:Nat}{gs:mh}{Z:End→ae→Prop}{Q:Option ag→ae→Prop}(hh:A.handled=none)(hl:s.heap.NoLimit)(FY:A.depth<recursionLimit)(hg:s.heap.IsGen a g)(Ov:s.gens[g]? =some gs)(ni:uV (model prog w) A.in1 Z gs (.send .none) (s.setGen g .running))(hZ:∀e au,Z e au→Yc Q g e au):
  wpAny (model prog w) A (pyNext (.ref a)) Q E s:=by
 refine aa (gq (cC (name:=d_ "__next__") hg.typeIs oV
  (bO oV hg.typeIs entry_gen_next ?_ (args_gen_next _))))
 show wpAny _ A.in1 (p_ (.ref a) (.send .none)) _ _ s;refine aa (aV (wpAny_genNumber hg (aa (wpAny_genState Ov ?_))));cases gs with
 |running=>exact ni.elim
 |finished=>exact ni.elim
 |_=>
  refine aa (wpAny_roomToWake hl FY ?_);show wpAny _ A.in1 (.resume g (.send .none) [] _) _ _ s;refine o7 Ov ni λ e au hz=>?_;have hz:=hZ e au hz;cases e with
  |ret x=>
   obtain⟨rfl,hp⟩:=hz;refine⟨rfl,?_⟩;show wpAny _ A.in1 (newExc (.type "StopIteration") []>>=_) _ _ _;refine aa ?_;refine aa (bo ?_ (by exact bS _));refine aa (m:=firstArgMember _ _) (dg (a:=di) (by first|rfl|(simp only[firstArgMember];rfl)) ?_);refine bo ?_ (by size_fits);refine aa (aa (oU ?_))
   first|rw[show A.in1.handled=none from hh]|dsimp only[hh]
   refine sU ?_;refine aa (cg (T:="StopIteration") (b:=true) ⟨_,av _ rfl,rfl⟩ nH ?_);exact ah (hp _ λ b o hb=>aA _ (aA _ hb))
  |susp v gd l k cd p fs=>
   exact⟨hz.1,ah ⟨v,rfl,ah hz.2⟩⟩
end
section
set_option backward.match.sparseCases false
theorem vH{M:qS}{A:aK}{Z:End→ae→Prop}{cd:Code}{fs:List Frame}{s:ae}{env:Env}{K:Flow→Sem Fin}{H:ag→Sem Fin}{gd:Bool→Bool}{lv:List ag→List ag}{e:Expr}{J2 pos:Pos}(zt:splitAtGen fs=none)(h:wpAny M (A.over cd fs) (eval e env) (λ v s'=>∀kk l p,(∀k_ Z',gK M A Z' cd (K .next) fs k_→gK M A Z' cd (kk (.send .none)) fs k_)→Z (.susp v (gd false) l kk cd p fs) s') aZ s)(SH:env.scope.isCoroutine=false)(hi:interactive env=false):gK M A Z cd ((exec (.Expr (.Yield (some e) J2) pos) env).wrap K H gd lv) fs s:=by
 rw[exec_Expr env _ pos hi rfl];show gK M A Z cd (.at pos λ z=>((eval e env>>= λ v=>(standAt J2>>= λ z=>yieldOut env v))>>= λ x=>
  dropValue (.Yield (some e) J2) pos x).wrap K H gd lv) fs s
 have hy:∀v,yieldOut env v=yieldValue v:= λ v=>by simp only[yieldOut,SH,aR,if_false]
 simp only[hy];refine JH ?_;rw[fQ,fQ,il,il];refine th (wm h λ v s' h'=>?_);exact JH (Gj zt λ p=>h' _ _ p λ k_ Z' hx=>hx)
structure GE(env:Env)(x y:Str):Prop where
 kind:env.scope.kind=.function
 kx:env.kindOf x=some .local
 ky:env.kindOf y=some .local
 ne:x≠y
 co:env.scope.isCoroutine=false
 dx:(x==("__debug__":Str))=false
 dy:(y==("__debug__":Str))=false
theorem GE.inter{env:Env}{x y:Str}(H:GE env x y):interactive env=false:=by
 unfold interactive;rw[H.kind];rfl
noncomputable def Good(c:Cx)(k:Snap)(L I ax:Addr)(i:Nat)(t:ae):Prop:=bF c t∧cA c k t∧t.heap.IsListIter I ax i∧∃m,t.heap.Ns L m
noncomputable def Zf(c:Cx)(A:aK)(k:Snap)(I ax:Addr)(tg:Expr)(bd:List Stmt)(env:Env):List ag→Nat→ae→End→ae→Prop
 |[],i,s₀,e,s'=>e=.ret (.ok (.ret .none))∧aB c [env.locals,I] [] s₀ s'∧bF c s'
 |v::vr,i,s₀,e,s'=>∃gd l kk p fs,e=.susp v gd l kk (.forLoop tg (.ref I) bd [] env) p fs∧e.quiet=true∧aB c [env.locals,I] [] s₀ s'∧bF c s'∧s'.heap.IsListIter I ax (i+1)∧(∃m,s'.heap.Ns env.locals m)∧
   ∀t,Good c k env.locals I ax (i+1) t→gK (model c.prog c.w) A (Zf c A k I ax tg bd env vr (i+1) t) (.forLoop tg (.ref I) bd [] env) (kk (.send .none)) fs t
section
variable {c:Cx}{A:aK}{k:Snap}{env:Env}{x y nm:Str}{I ax:Addr}{vs:List ag}
theorem Iw(H:GE env x y)(hl:k.s.heap.IsList ax vs.toArray)(hx:ax∉k.O)(hh:A.handled=none)(hL:c.B≤env.locals)(hI:c.B≤I)(Vb:I≠env.locals)(YA:∀b∈[env.locals,I],(b∈k.O∨k.s.heap.objs.size≤b)∧b∉k.K){p1 p2 p3 p4 pf:Pos}{kf:iu→Sem Fin}{lf:List ag}{cf:Code}(hk:∀Z s,Z (.ret (.ok (.ret .none))) s→gK (model c.prog c.w) A Z cf (kf (.ok .next)) [] s):∀(vr:List ag) (i:Nat) (Hs t:ae),vs.drop i=vr→Good c k env.locals I ax i t→aB c [env.locals,I] [] Hs t→
  gK (model c.prog c.w) A (Zf c A k I ax (.Name y p1) [.Expr (.Yield (some (.Name y p2)) p3) p4] env vr i Hs) (.forLoop (.Name y p1) (.ref I) [.Expr (.Yield (some (.Name y p2)) p3) p4] [] env)
   ((model c.prog c.w).den (.forLoop (.Name y p1) (.ref I) [.Expr (.Yield (some (.Name y p2)) p3) p4] [] env)) [.ret kf none false lf cf pf []] t:=by
 have W4:∀cd,(A.over cd [.ret kf none false lf cf pf []]).handled=none:= λ cd=>by
  trivial
 intro vr
 induction vr with
 |nil=>
  intro i Hs t hd hg hG;refine b_ hg ?_;clear hg;intro S hs fU hn;show gK _ A _ _ ((forTurn (.Name y p1) (.ref I) [.Expr (.Yield (some (.Name y p2)) p3) p4] [] env).onRaise (λ x=>do noteFrame x env;theTreesLotGoes x)) _ t;rw[gb];simp only[forTurn];refine dT (bQ ?_);have hle:vs.length≤i:=by simpa using hd
  refine cH (id fU) λ o ho hc zv=>?_;refine dT (wpAny_onRaise (c9 (wpAny_pyNext_list_end (W4 _) fU (hs.isList hx hl) (by simpa using hle) λ h' he up=>?_)));have g:aB c [I] [] t {t with heap:=h'}:=ExtBut.grow (tk:=t.toks) up.heap he ho (bU (by rw[hc];trivial));have S':bF c {t with heap:=h'}:=ExtBut.br (tk:=t.toks) S up.heap he hI;refine zE rfl ?_;show gK _ A _ _ (leafOf (.ok .next)) _ _;exact Iy (.ok .next) (hk _ _ ⟨rfl,hG.trans (g.mono (λ b h=>.inl (.tail _ h)) λ z=>nn),S'⟩)
 |cons v vr ih=>
  intro i Hs t hd hg hG;refine xa hg ?_;clear hg;intro S zh;refine Hl zh ?_;clear zh;intro hs fU m hn;show gK _ A _ _ ((forTurn (.Name y p1) (.ref I) [.Expr (.Yield (some (.Name y p2)) p3) p4] [] env).onRaise (λ x=>do noteFrame x env;theTreesLotGoes x)) _ t;rw[gb];simp only[forTurn];refine dT (bQ ?_);have hv:vs[i]? =some v:=by
   have:(vs.drop i)[0]? =some v:=by rw[hd];rfl
   simpa using this
  have iP:vs.drop (i+1)=vr:=by rw[← pX,hd];rfl
  refine cH (id fU) λ o ho hc zv=>?_;refine dT (wpAny_onRaise (wpAny_pyNext_list_item fU (hs.isList hx hl) (by simpa using hv) λ h' mX eO=>?_));refine cH (id mX) λ o' nh Hb Xg=>?_;have g:aB c [I] [] t {t with heap:=h'}:=SameBut.grow (tk:=t.toks) eO ho (bU (by rw[hc];trivial));have lL:bF c {t with heap:=h'}:=SameBut.br (tk:=t.toks) S eO hI;have uv:h'.Ns env.locals m:=g.ns (λ h=>Vb (aj.mp h).symm) hn;refine dT (hY nh Hb (by decide) ?_);refine dT (wpAny_assign_Name (wpAny_storeName_local H.ky uv (λ cM Cf mD=>?_) (by rw[H.kind];rfl)));have i8:∀a o,a∉ [env.locals]→h'.get? a=some o→cM.get? a=some o:= λ a o ha e=>mD.extBut a o (λ h=>ha (by simp[h])) e;have lb:h'.objs.size≤cM.objs.size:=by rw[mD.1];exact az _
  have iQ:aB c [env.locals] [] {t with heap:=h'} {t with heap:=cM,toks:=t.toks+1}:=by
   refine aB.of_keep (s:={t with heap:=h'}) (tk:=t.toks+1) lb i8 λ a ha o e=>?_;rw[aj]at ha;subst ha;refine c8 uv ?_;clear uv;intro o' es ep nh iP z;have e:h'.get? env.locals=some o:=e;rw[e]at nh;cases nh;exact cP iP
  have jy:bF c {t with heap:=cM,toks:=t.toks+1}:=lL.at (s:={t with heap:=h'}) (tk:=t.toks+1) lb i8 λ a ha=>by
   rw[aj]at ha;subst ha;exact hL
  have lH:aB c [env.locals,I] [] t {t with heap:=cM,toks:=t.toks+1}:=(g.mono (λ b h=>.inl (.tail _ h)) λ z=>nn).trans (iQ.mono (λ b h=>.inl (by rw[aj]at h;exact h▸ .head _)) λ z=>nn);rw[fQ,il,execs_cons_wrap];refine vH rfl (vN (f6 H.kind H.ky Cf (if_pos rfl) λ kk l p WX=>?_) H.dy) H.co H.inter;refine⟨_,_,_,_,_,rfl,rfl,hG.trans lH,jy,?_,⟨_,Cf⟩,λ t' Qx=>WX _ _ ?_⟩
  ·refine cH (id mX) λ o2 wu Dw Bj=>?_;exact⟨o2,i8 _ _ (λ h=>Vb (aj.mp h)) wu,Dw,Bj⟩
  ·exact zE rfl (ih (i+1) t' t' iP Qx (.refl ..))
theorem Iz{body:List Stmt}{Z:End→ae→Prop}{fs:List Frame}{s:ae}(h:gK (model c.prog c.w) A Z (.func body env) ((execs body env).wrap (λ f=>.pure (.done (.ret (match f with|.ret v=>v|_=>.none))))
   (λ e=>(leaving env e).wrap (λ z=>.raise e) .raise id id) id id) fs s):
  gK (model c.prog c.w) A Z (.func body env) ((model c.prog c.w).den (.func body env)) fs s:=by
 show gK _ A Z _ (.point [] λ z=>((execs body env).onRaise (leaving env))>>=_) fs s;refine Gk ?_;rw[gb,fQ,il];rw[Sem.wrap_congr (execs body env) _ _ (K':= λ f=>.pure (.done (.ret (match f with|.ret v=>v|_=>.none))))
  (H':= λ e=>(leaving env e).wrap (λ z=>.raise e) .raise id id) (λ f=>by cases f<;>rfl)
  (λ e=>by rw[Sem.bind_eq_wrap,il];rfl)]
 exact h
theorem IB(H:GE env x y)(hl:k.s.heap.IsList ax vs.toArray)(hx:ax∉k.O)(hh:A.handled=none)(hL:c.B≤env.locals)(XI:(env.locals∈k.O∨k.s.heap.objs.size≤env.locals)∧env.locals∉k.K)(ON:∀b∈k.K,b<k.s.heap.objs.size){p1 p2 p3 p4 p5 p6 p7:Pos}{a dx C:Addr}{es:List cT}{m':Nat}(h1:k.s.heap.get? a=some (ib C dx))(h2:k.s.heap.get? dx=some (dictOf es m'))(hA:attrOk c.K C nm=true)(ha:a∉k.O)(hd:dx∉k.O)(Ll:getL nm es=some (some (.ref ax))){m:Str→Option ag}{t:ae}(S:bF c t)(hs:cA c k t)(hn:t.heap.Ns env.locals m)(hm:m x=some (.ref a)):
  gK (model c.prog c.w) A (λ e s'=>∃eu,aB c [] [] t eu∧eu.heap.objs.size=t.heap.objs.size+1∧Zf c A k t.heap.objs.size ax (.Name y p1) [.Expr (.Yield (some (.Name y p2)) p3) p4] env vs 0 eu e s') (.func [.For (.Name y p1) (.Attribute (.Name x p5) nm p6) [.Expr (.Yield (some (.Name y p2)) p3) p4] [] p7] env)
   ((model c.prog c.w).den (.func [.For (.Name y p1) (.Attribute (.Name x p5) nm p6) [.Expr (.Yield (some (.Name y p2)) p3) p4] [] p7] env)) [] t:=by
 refine Iz ?_;rw[execs_cons_wrap,exec_For];refine dT (bQ ?_);have keep:∀b o,b∉k.O→qB o=false→k.s.heap.get? b=some o→t.heap.get? b=some o:= λ b o hb ht e=>by
  refine ez hs ?_;clear hs;intro V G' g hV;exact g.keep b o (λ h=>(hV b h).1.elim hb λ hle=>ak _ (ab (aI e) hle)) e ht
 have Cn:=keep _ _ ha (bU (by simp)) h1;have wB:=keep _ _ hd (cP rfl) h2;refine dT (gX (vN (f6 H.kind H.kx hn hm ?_) H.dx));refine jP S Cn wB hA Ll rfl ?_;refine dT (dg rfl ?_);refine dT (bQ ?_);have gy:=hs.isList hx hl;refine dT (aV (wpAny_pyIter_list (s:={t with toks:=t.toks+1}) gy ?_));have g:aB c [] [] t {t with heap:=t.heap.push {cls:=.type "list_iterator",data:=.fields #[.ref ax,.int 0 0]},toks:=t.toks+1}:=aB.push;have S':bF c {t with heap:=t.heap.push {cls:=.type "list_iterator",data:=.fields #[.ref ax,.int 0 0]},toks:=t.toks+1}:=S.push;have XH:=hn.lt;refine gK.mono (Z:=Zf c A k t.heap.objs.size ax (.Name y p1) [.Expr (.Yield (some (.Name y p2)) p3) p4] env vs 0 _) ?_ λ e s' hz=>⟨_,g,aW ..,hz⟩;refine IA λ p=>?_;refine Iw (lf:=[]) H hl hx hh hL (af S.size (az _)) (dA XH) (λ b hb=>?_) (λ Z s hz=>?_) vs 0 _ _ rfl ⟨S',hs.JI g,⟨_,av _ rfl,rfl,rfl⟩,_,hn.push _⟩ (.refl ..)
 ·rcases mc hb with rfl|hb
  ·exact XI
  ·rw[aj]at hb;subst hb;exact⟨.inr hs.size,λ h=>ak _ (ab (ON _ h) hs.size)⟩
 ·exact Lq (.ok (.ret .none)) hz
end
end
section
set_option backward.match.sparseCases false
structure BD where
 p1:Pos
 p2:Pos
 p3:Pos
 p4:Pos
 p5:Pos
 p6:Pos
 p7:Pos
structure GP where
 k:Snap
 g:Nat
 a:Addr
 env:Env
 x:Str
 y:Str
 nm:Str
 sf:Addr
 dx:Addr
 C:Addr
 ax:Addr
 es:List cT
 m':Nat
 vs:List ag
 ds₀:List D
 q:BD
noncomputable abbrev BD.body(q:BD)(x y nm:Str):List Stmt:=[.For (.Name y q.p1) (.Attribute (.Name x q.p5) nm q.p6) [.Expr (.Yield (some (.Name y q.p2)) q.p3) q.p4] [] q.p7]
noncomputable abbrev GP.tg(p:GP):Expr:=.Name p.y p.q.p1
noncomputable abbrev GP.bd(p:GP):List Stmt:=[.Expr (.Yield (some (.Name p.y p.q.p2)) p.q.p3) p.q.p4]
noncomputable abbrev GP.lp(p:GP)(I:Addr):Code:=.forLoop p.tg (.ref I) p.bd [] p.env
structure fA(p:GP)(F:List Addr)(ds:List D)(s:ae):Prop where
 eF:F=[p.a,p.env.locals]
 eD:ds=p.ds₀
 hf:s.gens[p.g]? =some (.fresh (.func (p.q.body p.x p.y p.nm) p.env))
 hn:∃m,s.heap.Ns p.env.locals m∧m p.x=some (.ref p.sf)
structure fB(c:Cx)(A:aK)(p:GP)(I:Addr)(i:Nat)(gs:mh)(F:List Addr)(ds:List D)(s:ae):Prop where
 eF:F=[p.a,p.env.locals,I]
 hI:p.k.s.heap.objs.size≤I∧I≠p.a
 hf:s.gens[p.g]? =some gs
 at':∃kk l pp fs cl,gs=.suspended kk l (p.lp I) pp fs cl
 fU:s.heap.IsListIter I p.ax i
 eD:ds=p.ds₀.drop i
 hn:∃m,s.heap.Ns p.env.locals m
 go:∀t,Good c p.k p.env.locals I p.ax i t→uV (model c.prog c.w) A.in1 (Zf c A.in1 p.k I p.ax p.tg p.bd p.env (p.vs.drop i) i t) gs (.send .none) t
structure fP(c:Cx)(A:aK)(p:GP)(F:List Addr)(ds:List D)(s:ae):Prop where
 gen:s.heap.IsGen p.a p.g
 lt:p.g<s.gens.size
 at':fA p F ds s∨∃I i gs,fB c A p I i gs F ds s
structure GF(c:Cx)(A:aK)(p:GP):Prop where
 R:Rm A 1
 H:GE p.env p.x p.y
 hl:p.k.s.heap.IsList p.ax p.vs.toArray
 hx:p.ax∉p.k.O
 hr:a7 c.w p.k.O p.k.s.heap p.vs p.ds₀
 ON:p.k.K=[]
 h1:p.k.s.heap.get? p.sf=some (ib p.C p.dx)
 h2:p.k.s.heap.get? p.dx=some (dictOf p.es p.m')
 hA:attrOk c.K p.C p.nm=true
 ha:p.sf∉p.k.O
 hd:p.dx∉p.k.O
 Ll:getL p.nm p.es=some (some (.ref p.ax))
 Ck:p.a∈p.k.O
 Va:p.env.locals∈p.k.O
 Mn:p.a≠p.env.locals
 Xt:p.a<p.k.s.heap.objs.size
 Yz:p.env.locals<p.k.s.heap.objs.size
structure LV(c:Cx)(k:Snap)(g:Nat)(P:List Addr→List D→ae→Prop)(F:List Addr)(d:D)(ds:List D)(t:ae)(v:ag)(s:ae):Prop where
 gr:aB c F [g] t s
 S:bF c s
 ex:∃F',rU F F' t s∧uU c k F' t s v d∧P F' ds s
structure GI(c:Cx)(A:aK)(k:Snap)(g:Nat)(a:Addr)(P:List Addr→List D→ae→Prop):Prop where
 R:Rm A 1
 gen:∀{F ds s},P F ds s→s.heap.IsGen a g
 lt:∀{F ds s},P F ds s→∀b∈F,b<s.heap.objs.size
 det:∀{F F':List Addr} {ds lJ:List D} {s:ae},P F ds s→P F' lJ s→F=F'
 frame:∀{F V:List Addr} {G':List Nat} {ds:List D} {s s':ae},P F ds s→aB c V G' s s'→(∀a∈V,a∉F)→(∀g'∈G',g'∉ [g]∧g'<s.gens.size∨s.gens.size≤g')→P F ds s'
 next:∀{F:List Addr} {d:D} {ds:List D} {t:ae},bF c t→cA c k t→(∀a∈F,c.B≤a)→P F (d::ds) t→
  ∃gs Z,t.gens[g]? =some gs∧uV (model c.prog c.w) A.in1 Z gs (.send .none) (t.setGen g .running)∧∀e au,Z e au→∃v gd l kk cd pp fs,e=.susp v gd l kk cd pp fs∧e.quiet=true∧LV c k g P F d ds t v (au.setGen g e.genState)
 done:∀{F:List Addr} {t:ae},bF c t→cA c k t→(∀a∈F,c.B≤a)→P F [] t→
  ∃gs Z,t.gens[g]? =some gs∧uV (model c.prog c.w) A.in1 Z gs (.send .none) (t.setGen g .running)∧∀e au,Z e au→e=.ret (.ok (.ret .none))∧aB c F [g] t (au.setGen g .finished)∧bF c (au.setGen g .finished)
section
variable {c:Cx}{A:aK}{p:GP}{F F':List Addr}{ds lJ:List D}{s t au:ae}{e:End}{I:Addr}{i:Nat}
theorem IsListIter.grow{W:List Addr}{G:List Nat}{t t':ae}{I ax:Addr}{i:Nat}(x:aB c W G t t')(ha:I∉W)(h:t.heap.IsListIter I ax i):t'.heap.IsListIter I ax i:=
 cH h λ o ho hc r=>⟨o,x.keep I o ha ho (bU (by rw[hc];trivial)),hc,r⟩
noncomputable def RD:Code→ag
 |.forLoop _ it _ _ _=>it
 |_=>.none
noncomputable def X3(a L:Addr):mh→List Addr
 |.suspended _ _ cd _ _ _=>match RD cd with|.ref I=>[a,L,I]|_=>[]
 |_=>[a,L]
theorem fP.eF(h:fP c A p F ds s):(s.gens[p.g]?).map (X3 p.a p.env.locals)=some F:=by
 rcases h.at' with b|⟨I,i,gs,b⟩
 ·rw[b.hf,b.eF];rfl
 ·rw[b.hf,b.eF];obtain⟨kk,l,pp,fs,cl,rfl⟩:=b.at';rfl
theorem fP.frame{V:List Addr}{G':List Nat}{s':ae}(h:fP c A p F ds s)(y:aB c V G' s s')(hV:∀a∈V,a∉F)(hG:∀g'∈G',g'∉ [p.g]∧g'<s.gens.size∨s.gens.size≤g'):fP c A p F ds s':=by
 have Qw:p.g∉G':= λ h'=>(hG _ h').elim (λ h=>h.1 (.head _)) λ h'=>ak _ (ab h.lt h');have k:∀a,a∈F→a∉V:= λ a h h'=>hV a h' h;have gn:= λ ha:p.a∈F=>IsGen.grow y (k _ ha) h.gen;have lt:=ab h.lt y.dv
 rcases h.at' with b|⟨I,i,gs,b⟩<;>have e:=b.eF
 ·exact⟨gn (e▸ .head _),lt,.inl ⟨e,b.eD,y.gens _ _ Qw b.hf,cW b.hn λ m hn hm=>⟨m,y.ns (k _ (e▸ .tail _ (.head _))) hn,hm⟩⟩⟩
 ·exact⟨gn (e▸ .head _),lt,.inr ⟨I,i,gs,e,b.hI,y.gens _ _ Qw b.hf,b.at',IsListIter.grow y (k _ (e▸ .tail _ (.tail _ (.head _)))) b.fU,b.eD,xe b.hn λ m hn=>⟨m,y.ns (k _ (e▸ .tail _ (.head _))) hn⟩,b.go⟩⟩
theorem fP.V6(h:fP c A p F ds s):∀b∈F,b<s.heap.objs.size:=by
 have ha:p.a<s.heap.objs.size:=lB h.gen λ j j j ho j=>aI ho
 rcases h.at' with b|⟨I,i,gs,b⟩<;>rw[b.eF]<;>intro z hz
 ·have hn:p.env.locals<s.heap.objs.size:=cW b.hn λ j hn j=>hn.lt
  rcases mc hz with rfl|hz
  ·exact ha
  ·exact m1 hz▸hn
 ·have hn:p.env.locals<s.heap.objs.size:=xe b.hn λ j hn=>hn.lt
  rcases mc hz with rfl|hz
  ·exact ha
  rcases mc hz with rfl|hz
  ·exact hn
  ·exact m1 hz▸cW b.fU λ j ho j=>aI ho
structure LU(c:Cx)(A:aK)(p:GP)(F:List Addr)(ds:List D)(t:ae)(e:End)(au:ae)(I:Addr)(i:Nat)(eu:ae):Prop where
 hd:p.ds₀.drop i=ds
 Ta:p.a∈F∧p.env.locals∈F
 XR:∀b∈F,b∈[p.a,p.env.locals,I]
 hI:I∈F∨(t.heap.objs.size≤I∧I<eu.heap.objs.size)
 hk:p.k.s.heap.objs.size≤I∧I≠p.a
 g:aB c [] [] (t.setGen p.g .running) eu
 z:Zf c A.in1 p.k I p.ax p.tg p.bd p.env (p.vs.drop i) i eu e au
theorem fP.wake(K:GF c A p)(S:bF c t)(hs:cA c p.k t)(hB:∀a∈F,c.B≤a)(h:fP c A p F ds t):
  ∃gs Z,t.gens[p.g]? =some gs∧uV (model c.prog c.w) A.in1 Z gs (.send .none) (t.setGen p.g .running)∧∀e au,Z e au→∃I i eu,LU c A p F ds t e au I i eu:=by
 have g0:aB c [] [p.g] t (t.setGen p.g .running):=aB.gen;have S0:bF c (t.setGen p.g .running):=S.gen rfl;have JC:cA c p.k (t.setGen p.g .running):=hs.step g0 λ z=>nn
 rcases h.at' with b|⟨I,i,gs,b⟩<;>have e:=b.eF
 ·refine cW b.hn λ m hn hm=>?_;refine⟨_,_,b.hf,⟨rfl,IB (A:=A.in1) K.H K.hl K.hx K.R.handled (hB _ (e▸ .tail _ (.head _))) ⟨.inl K.Va,by rw[K.ON];simp⟩ (by rw[K.ON];simp) K.h1 K.h2 K.hA K.ha K.hd K.Ll S0 JC hn hm⟩,λ e' au hz=>cH hz λ eu X0 RP hz=>?_⟩;have UO:p.k.s.heap.objs.size≤t.heap.objs.size:=hs.size;exact⟨t.heap.objs.size,0,eu,b.eD.symm,e▸ ⟨.head _,.tail _ (.head _)⟩,λ b hb=>by
   rw[e]at hb
   rcases mc hb with rfl|hb
   ·exact .head _
   ·exact m1 hb▸ .tail _ (.head _),.inr ⟨az _,by rw[show eu.heap.objs.size=t.heap.objs.size+1 from RP];exact aS _⟩,⟨UO,dA (ab K.Xt UO)⟩,X0,hz⟩
 ·exact⟨_,_,b.hf,b.go _ ⟨S0,JC,b.fU,b.hn⟩,λ e' au hz=>⟨I,i,_,b.eD.symm,e▸ ⟨.head _,.tail _ (.head _)⟩,λ b hb=>e▸hb,.inl (e▸ .tail _ (.tail _ (.head _))),b.hI,.refl ..,hz⟩⟩
theorem LU.all{eu:ae}{gs:mh}(w:LU c A p F ds t e au I i eu)(gr:aB c [p.env.locals,I] [] eu au):aB c F [p.g] t (au.setGen p.g gs):=by
 have g0:aB c [] [p.g] t (t.setGen p.g .running):=aB.gen;have g2:aB c [] [p.g] au (au.setGen p.g gs):=aB.gen;refine(((g0.mono (O':=F) (G':=[p.g]) (λ z=>nn) λ z h=>.inl h).comp w.g (λ z=>nn) λ z=>nn).comp gr (λ b hb=>?_) λ z=>nn).comp g2 (λ z=>nn) λ z h=>.inl h
 rcases mc hb with rfl|hb
 ·exact .inl w.Ta.2
 ·exact m1 hb▸w.hI.imp id And.left
theorem LU.yield{eu:ae}{d:D}{ds:List D}(K:GF c A p)(hs:cA c p.k t)(h:fP c A p F (d::ds) t)(w:LU c A p F (d::ds) t e au I i eu):
  ∃v gd l kk cd pp fs,e=.susp v gd l kk cd pp fs∧e.quiet=true∧LV c p.k p.g (fP c A p) F d ds t v (au.setGen p.g e.genState):=by
 have Xf:p.ds₀[i]? =some d:=by
  have:(p.ds₀.drop i)[0]? =some d:=by rw[w.hd];rfl
  simpa using this
 refine cW (K.hr.at Xf) λ v hv rv=>?_;have gy:i<p.vs.length:=(ay.mp hv).1;have RX:p.vs.drop i=v::p.vs.drop (i+1):=by
  rw[et gy];rw[aq gy]at hv;cases hv;rfl
 have hz:=w.z;rw[RX]at hz;refine iq hz λ gd l kk zh=>bL zh λ pp fs z1 hq gr zh=>b_ zh λ S1 fU hn ni=>?_;subst z1;refine⟨v,gd,l,kk,_,pp,fs,rfl,hq,?_⟩;have hb:=End.bare_of_quiet hq;have lH:=w.all (gs:=(qM v gd l kk (p.lp I) pp fs).genState) gr;have Ls:p.g<au.gens.size:=ab h.lt (af (aB.gen (c:=c) (s:=t) (g:=p.g) (x:=.running)).dv (af w.g.dv gr.dv));have g2:aB c [] [p.g] au (au.setGen p.g (qM v gd l kk (p.lp I) pp fs).genState):=aB.gen;have gn:aB c [p.env.locals,I] [p.g] t (au.setGen p.g (qM v gd l kk (p.lp I) pp fs).genState):=(((aB.gen (c:=c) (x:=.running)).mono (O':=[p.env.locals,I]) (G':=[p.g]) (λ j=>nn) λ j h=>.inl h).comp w.g (λ j=>nn) λ j=>nn).comp gr (λ b hb=>.inl hb) (λ j=>nn)|>.comp g2 (λ j=>nn) λ j h=>.inl h
 refine⟨lH,S1.gen hb,[p.a,p.env.locals,I],λ b h=>?_,(hs.step lH λ b hb=>?_).nice rv,IsGen.grow gn (λ h=>(aD.mp h).elim K.Mn λ h=>w.hk.2 (m1 h)) h.gen,ab Ls g2.dv,.inr ⟨I,i+1,.suspended kk l (p.lp I) pp fs (gd||fs.any Frame.guarded),rfl,w.hk,?_,⟨kk,l,pp,fs,_,rfl⟩,fU,?_,hn,ni⟩⟩
 ·rcases mc h with rfl|h
  ·exact .inl w.Ta.1
  rcases mc h with rfl|h
  ·exact .inl w.Ta.2
  ·exact m1 h▸w.hI.imp id λ h=>⟨h.1,ab h.2 gr.size⟩
 ·rw[K.ON];refine⟨?_,nn⟩
  rcases mc (w.XR b hb)with rfl|h
  ·exact .inl K.Ck
  rcases mc h with rfl|h
  ·exact .inl K.Va
  ·exact m1 h▸ .inr w.hk.1
 ·show(au.gens.setIfInBounds p.g _)[p.g]? =_;rw[lO,if_pos rfl,if_pos Ls];rfl
 ·rw[← pX,w.hd];rfl
theorem LU.ends{eu:ae}(K:GF c A p)(w:LU c A p F [] t e au I i eu):e=.ret (.ok (.ret .none))∧aB c F [p.g] t (au.setGen p.g .finished)∧bF c (au.setGen p.g .finished):=by
 have RX:p.vs.drop i=[]:=List.drop_eq_nil_of_le (K.hr.length▸Ep.mp w.hd);have hz:=w.z;rw[RX]at hz;exact⟨hz.1,w.all hz.2.1,hz.2.2.gen rfl⟩
theorem fP.gi(K:GF c A p):GI c A p.k p.g p.a (fP c A p) where
 R:=K.R
 gen:=fP.gen
 lt:=fP.V6
 det:= λ h h'=>cF (h.eF.symm.trans h'.eF)
 frame:=fP.frame
 next:= λ S hs hB h=>dj (h.wake K S hs hB) λ gs Z hf ni hz=>⟨gs,Z,hf,ni,λ e au q=>iq (hz e au q) λ I i eu w=>w.yield K hs h⟩
 done:= λ S hs hB h=>dj (h.wake K S hs hB) λ gs Z hf ni hz=>⟨gs,Z,hf,ni,λ e au q=>iq (hz e au q) λ I i eu w=>w.ends K⟩
theorem nM.Te{k:Snap}{g:Nat}{a:Addr}{P:List Addr→List D→ae→Prop}{EG:Expr}(K:GI c A k g a P):nM c A EG (.ref a) k [g] P where
 det:=K.det
 frame:= λ h y S hV hG=>K.frame h y hV hG
 next:= λ {F ds d t} S hs hB h=>by
  refine dj (K.next S hs hB h) λ gs Z hf ni hz=>?_;refine lZ K.R.handled S.nolimit K.R.d0 (K.gen h) hf ni λ e au q=>?_;refine xe (hz e au q) λ v zh=>iq zh λ gd l kk zh=>iq zh λ cd pp fs zh=>jH zh λ z1 hq r=>?_;subst z1;refine cH r.ex λ F' hu hn hp=>?_;refine c8 (K.gen hp) λ o Yk qn ho hc z=>?_;exact⟨hq,v,rfl,hY ho hc (by decide) ⟨r.gr,r.S,F',hu,hn,hp⟩⟩
 done:= λ {F t} S hs hB h=>by
  refine dj (K.done S hs hB h) λ gs Z hf ni hz=>?_;refine c9 (jc (lZ (Q:= λ r s'=>t.heap.objs.size≤s'.heap.objs.size→r=none∧aB c F [g] t s'∧bF c s') K.R.handled S.nolimit K.R.d0 (K.gen h) hf ni λ e au q=>?_) (λ r s' q up=>q up.heap) λ z z f z=>f);refine jH (hz e au q) λ z1 gr S'=>?_;subst z1;exact⟨rfl,λ h' vG vf=>⟨rfl,gr.after vf vG,S'.keep (af S.size vf) vG⟩⟩
 self:= λ {A' F ds t} S h=>wpAny_pyIter_gen (K.gen h) ⟨rfl,rfl⟩
end
end
theorem DM{M:qS}{A:aK}{E:ag→ae→Prop}{s:ae}{K:Frag}{x C f:Addr}{ox:Obj}{od:Option Obj}{name:Str}{refuse:Sem ag}{Q:Option ag→ae→Prop}(X:K.In s.heap)(I:InstAt s.heap x ox C od)(hs:findIn K (.ref C) name=some (some (.ref f)))(hf:isFn K (.ref f)=true)(h:wpAny M A (call (.ref f) [.ref x]) (λ v=>Q (some v)) E s):wpAny M A (callSpecialIfBoundUnlessNone? (.ref x) name refuse) Q E s:=by
 refine aV (aa (aa (show wpAny M A (specialOf _ _) _ _ _ from aa (I.type.here ((jr X hs).here ?_)))));have fin:wpAny M A (if(dR f==di)=true then(refuse>>= λ v=>pure (some v))else(call (.ref f) [.ref x]>>= λ v=>pure (some v))) Q E s:=
  wN (by simp) (aa (jc h (λ v s' h'=>ah h') λ z z h'=>h'))
 exact aa (df (wI (λ _=>aa ((bind_fn X _ (beq_iff_eq.mp hf)).here (ah fin))) λ _=>je (aa ((bind_fn X _ (beq_iff_eq.mp hf)).here (ah fin)))))
noncomputable def Co(sc:iT)(x y:Str):Bool:=sc.isGenerator&&(sc.names.lookup x==some .local)&&(sc.names.lookup y==some .local)&& !(x==y)&& !(x==("__debug__":Str))&& !(y==("__debug__":Str))
section
variable {c:Cx}{n:Nat}
noncomputable def LZ(c:Cx)(O:List Addr)(s:ae)(ds:List D)(it:ag)(s':ae):Prop:=
 ∃(a g:Nat) (L:Addr),it=.ref a∧s'.heap.IsGen a g∧(s.heap.objs.size≤a∧a<s'.heap.objs.size)∧(s.heap.objs.size≤L∧L<s'.heap.objs.size)∧a≠L∧(s.gens.size≤g∧g<s'.gens.size)∧
  ∀k:Snap,aB c [] [] s' k.s→bF c k.s→k.K=[]→a∈k.O→L∈k.O→(∀b∈k.O,b∈O∨s.heap.objs.size≤b)→∀A,Rm A 1→∃P,GI c A k g a P∧P [a,L] ds k.s
theorem qd{C f:Addr}{fs:List (Str×D)}{ds:List D}{nm x y:Str}{fd:FuncData}{body:List Stmt}(q:BD)(F:nE c f fd body)(hb:body=q.body x y nm)(hg:Co fd.scope x y=true)(wy:findIn c.K (.ref C) "__iter__"=some (some (.ref f)))(Oz:isFn c.K (.ref f)=true)(hA:attrOk c.K C nm=true)(Ed:fs.lookup nm=some (.lst ds))(zw:∀s v,bF c s→iv s fd ⟨[v],[]⟩ [(x,v)]){A:aK}{O:List Addr}{s:ae}{v:ag}(R:Rm A 1)(K:Ok c O s)(r:bh c.w O s.heap v (.inst C fs)):wpAny (model c.prog c.w) A (pyIter v) (λ it s'=>aB c [] [] s s'∧bF c s'∧LZ c O s ds it s') aZ s:=by
 have ej:=r;refine bh.qE r ?_;clear r;intro a dx es m ps Ck Xh h1 h2 Ss rf;refine cW (rf.lookup Ed) λ lv Iq rl=>?_;refine bL rl ?_;clear rl;intro ax vs z1 Xu pb VR;subst z1;have pb:=pb.isList;simp only[Co,bg,beq_iff_eq,j7]at hg;refine xa hg ?_;clear hg;intro y1 X_;refine xa y1 ?_;clear y1;intro y2 TC;refine xa y2 ?_;clear y2;intro y3 L_;refine xa y3 ?_;clear y3;intro y4 ky;refine xa y4 ?_;clear y4;intro ie kx;have hI:=iG h1 h2;refine aa (show wpAny _ A (specialOf _ _) _ _ _ from aa (hI.type.here ((jr K.br.fY wy).here ?_)));show wpAny _ A (callSpecialIfBoundUnlessNone? (.ref a) "__iter__" _>>=_) _ _ s;refine aa (DM K.br.fY hI wy Oz ?_);refine cW F.at_ λ o ho hd=>?_;refine lW (codeAny_call_generator R.d0 (K.br.fY _ _ ho) hd F.co ie (hb▸F.body) (F.Cu K.br) (zw s (.ref a) K.br _ _ _ _ ?_));rw[F.Vu];refine DZ F.kind (λ z hz=>?_) λ env he au cY=>?_
 ·rw[aj]at hz;subst hz;exact .inl kx
 have Lc:env=callEnvC fd s.heap.objs.size f:=he;subst Lc;have Mo:=cY.toInCall.ns;have zC:=Mo.lt;have hz:s.heap.objs.size≤au.heap.objs.size:=af cY.toInCall.fresh (bV zC);have vG:∀b o,s.heap.get? b=some o→au.heap.get? b=some o:=cY.toInCall.keep;have g:aB c [] [] s au:=by
  refine ez cY.done λ cq tk he j=>?_;rw[he]at hz vG⊢;exact .step hz vG
 have lL:bF c au:=by
  refine ez cY.done λ cq tk he j=>?_;rw[he]at hz vG⊢;exact K.br.step hz vG
 refine⟨lL.nolimit,?_⟩;generalize R4:({au with
   gens:=au.gens.push (.fresh (.func (q.body x y nm) (callEnvC fd s.heap.objs.size f))),toks:=au.toks+1+1,
   heap:=au.heap.push {cls:=.type "generator",data:=.fields #[.int au.gens.size 0,.str fd.name au.toks,.str fd.qualname (au.toks+1)]}}:ae)=s₅
 have JG:s₅.heap=au.heap.push {cls:=.type "generator",data:=.fields #[.int au.gens.size 0,.str fd.name au.toks,.str fd.qualname (au.toks+1)]}:=by rw[← R4]
 have He:s₅.gens=au.gens.push (.fresh (.func (q.body x y nm) (callEnvC fd s.heap.objs.size f))):=by rw[← R4]
 have eH:∀b o,au.heap.get? b=some o→s₅.heap.get? b=some o:= λ b o e=>by rw[JG];exact aA _ e
 have iH:s₅.heap.objs.size=au.heap.objs.size+1:=by rw[JG,aW]
 have zq:s₅.gens.size=au.gens.size+1:=by rw[He,gZ]
 have AE:aB c [] [] au s₅:=⟨by rw[iH];exact bq _,λ a o j e j=>eH a o e,λ a o e j=>.inl (eH a o e),λ g y j e=>by
  rw[He,BL (rJ e)];rw[mK (rJ e)]at e;exact e,by rw[zq];exact bq _,by rw[← R4]⟩
 have By:bF c s₅:=by
  refine⟨lL.ok,λ a o e=>eH _ _ (lL.fY a o e),let⟨mc,hn,h0⟩:=lL.nolimit; ⟨mc,hn.keeps eH,h0⟩,lL.g.keeps eH,lL.b.keeps eH,eH _ _ lL.mod,λ p hp=>let⟨ps,h1,h2⟩:=lL.tab p hp; ⟨ps,h1.keeps eH,h2.keeps eH⟩,?_,by rw[iH];exact eT lL.size⟩;rw[He];exact lL.bare.push rfl
 have Ga:s₅.heap.IsGen au.heap.objs.size au.gens.size:=by rw[JG];exact⟨_,_,_,av _ rfl,rfl,rfl,rfl⟩
 have lH:aB c [] [] s s₅:=g.trans AE;have Lo:s.heap.objs.size≤(callEnvC fd s.heap.objs.size f).locals:=cY.toInCall.fresh;refine aa (iJ Ga.typeIs oV.lookup ?_);refine ah ⟨lH,By,au.heap.objs.size,au.gens.size,(callEnvC fd s.heap.objs.size f).locals,rfl,Ga,⟨hz,by rw[iH];exact aS _⟩,⟨Lo,by rw[iH];exact cw zC⟩,dA zC,⟨g.dv,by rw[zq];exact aS _⟩,λ k xk Sk WY SO SZ UQ A' R'=>?_⟩;have lH:=lH.trans xk;have lt:∀b o,s.heap.get? b=some o→b∉O→b∉k.O:= λ b o e Xo h=>(UQ b h).elim Xo λ h=>ak _ (ab (aI e) h);have gk:∀b o,qB o=false→s.heap.get? b=some o→k.s.heap.get? b=some o:= λ b o ht e=>lH.keep b o (by simp) e ht;have SM:ax∉k.O:=by
  refine cW pb ?_;clear pb;intro o ho j;exact lt _ _ ho Xu
 have XN:GE (callEnvC fd s.heap.objs.size f) x y:=⟨F.kind,kx,ky,by simpa using L_,F.co,TC,X_⟩;have NP:s₅.heap.objs.size≤k.s.heap.objs.size:=xk.size;have hG:GF c A' ⟨k,au.gens.size,au.heap.objs.size,callEnvC fd s.heap.objs.size f,x,y,nm,a,dx,C,ax,es,m,vs,ds,q⟩:=⟨R',XN,lH.isList (nn) pb,SM,lH.fj (λ j=>nn) UQ VR,WY,gk _ _ (bU (by simp)) h1,gk _ _ (cP rfl) h2,hA,lt _ _ h1 Ck,lt _ _ h2 Xh,(Ss nm).trans (congrArg some Iq),SO,SZ,dA zC,ab (by rw[iH];exact aS _) NP,ab (by rw[iH];exact cw zC) NP⟩;refine⟨_,fP.gi hG,
  IsGen.grow xk (by simp) Ga,ab (by rw[zq];exact aS _) xk.dv,.inl ⟨rfl,rfl,xk.gens _ _ (by simp) (by rw[He];exact Aj ..),_,xk.ns (by simp) (Mo.keeps eH),zT kx (by simp) (.head _)⟩⟩
theorem Ib.inst{tg:Expr}{C f:Addr}{fs:List (Str×D)}{ds:List D}{nm x y:Str}{fd:FuncData}{body:List Stmt}(q:BD)(F:nE c f fd body)(hb:body=q.body x y nm)(hg:Co fd.scope x y=true)(wy:findIn c.K (.ref C) "__iter__"=some (some (.ref f)))(Oz:isFn c.K (.ref f)=true)(hA:attrOk c.K C nm=true)(Ed:fs.lookup nm=some (.lst ds))(zw:∀s v,bF c s→iv s fd ⟨[v],[]⟩ [(x,v)]):
  Ib c (n+1) tg (.inst C fs) (· =ds):= λ A O s v R K r=>
 wm (qd q F hb hg wy Oz hA Ed zw (R.le (aG 1 n)) K r) λ it s' z=>by
  refine jH z ?_;clear z;intro g S zh;refine cI zh ?_;clear zh;intro a gn L z1 ie ha zh;refine b_ zh ?_;clear zh;intro hL Mn Ir h;subst z1;refine⟨g,S,ds,rfl,[a,L],[gn],λ b hb=>?_,λ b hb=>?_,λ A' R'=>?_⟩
  ·rcases mc hb with rfl|hb
   ·exact ha
   ·rw[aj]at hb;subst hb;exact hL
  ·rw[aj]at hb;subst hb;exact Ir
  ·refine cW (h ⟨s',[a,L]++O,[]⟩ (.refl ..) S rfl (.head _) (.tail _ (.head _)) (λ b hb=>(aC.mp hb).elim (λ hb=>.inr (by
    rcases mc hb with rfl|hb
    ·exact ha.1
    ·rw[aj]at hb;subst hb;exact hL.1)) .inl) A' (R'.le (aG 1 n))) λ P hG hP=>?_
   exact⟨_,nM.Te hG,hP⟩
end
set_option maxHeartbeats 1000000 in
theorem ub(prog:Program)(w:a0)(p:Addr):MeetsIn prog w (Builtin.«enumerate.__new__» ⟨[.type "enumerate",.ref p],[]⟩) (λ A R s=>
  wpAny (model prog w) A.in1 (pyIter (.ref p)) (λ it s'=>R (.ok (.ret (.ref s'.heap.objs.size))) {s' with heap:=s'.heap.push {cls:=.type "enumerate",data:=.fields #[.none,.bool false,it,rawInt 0,.none,.none]}}) (λ e s'=>R (.error e) s') s):=
 .of_wp λ A R s h=>by
  have ic:=PySem.sub_enumerate;obtain⟨hp,g,d,tk,os⟩:=s;have hI:∀{Q:ag→ae→Prop},(∀it s',R (.ok (.ret (.ref s'.heap.objs.size))) {s' with heap:=s'.heap.push {cls:=.type "enumerate",data:=.fields #[.none,.bool false,it,rawInt 0,.none,.none]}}→Q it s')→
   wpAny (model prog w) A.in1 (pyIter (.ref p)) Q (λ e s'=>R (.error e) s') ⟨hp,g,d,tk,os⟩:= λ k=>wk h k
  wp_walk using hI
  refine wpAny_stack_any λ st=>ah ?_;generalize Builtin.SmallTypes.calledThroughType.match_1 _ _ _ _=short;cases short
  all_goals
   wp_walk using hI
   rintro it ⟨Ao,g',d',Yg,Yi⟩ hr
   wp_walk
   exact⟨_,rfl,hr⟩
section
variable {prog:Program}{w:a0}{A:aK}{E:ag→ae→Prop}{s:ae}
theorem uO{p:Addr}{Q:ag→ae→Prop}(h:wpAny (model prog w) A.in1.in1 (pyIter (.ref p)) (λ it s'=>Q (.ref s'.heap.objs.size) {s' with heap:=s'.heap.push {cls:=.type "enumerate",data:=.fields #[.none,.bool false,it,rawInt 0,.none,.none]}}) E s):
  wpAny (model prog w) A (call (.type "enumerate") [.ref p]) Q E s:=
 callType_newIn PySem.F.called_enumerate (by decide) (PySem.F.typeCall_enumerate_1 _) (PySem.F.newCall_enumerate_1 _) (λ obj=>PySem.F.args_object_init_2 obj _) PySem.F.entry_enumerate_new (ub prog w p)
  (wk h λ it s' q=>⟨⟨_,av _ rfl,rfl⟩,q⟩)
noncomputable def Yd(Q:ag→ae→Prop)(E:ag→ae→Prop)(g:Nat):End→ae→Prop
 |.ret r,au=>r=.ok (.ret .none)∧∀h' x,(∀b o,au.heap.get? b=some o→h'.get? b=some o)→(∃o,h'.get? x=some o∧o.cls=.type "StopIteration")→E (.ref x) {au.setGen g .finished with heap:=h'}
 |.susp v gd l k cd p fs,au=>(qM v gd l k cd p fs).quiet=true∧Q v (au.setGen g (qM v gd l k cd p fs).genState)
theorem l0{a:Addr}{g:Nat}{gs:mh}{Z:End→ae→Prop}{Q:ag→ae→Prop}(hh:A.handled=none)(hl:s.heap.NoLimit)(FY:A.depth<recursionLimit)(hg:s.heap.IsGen a g)(Ov:s.gens[g]? =some gs)(ni:uV (model prog w) A.in1 Z gs (.send .none) (s.setGen g .running))(hZ:∀e au,Z e au→Yd Q E g e au):
  wpAny (model prog w) A (pU (.ref a)) Q E s:=by
 refine aa (cC (name:=d_ "__next__") hg.typeIs oV
  (bO oV hg.typeIs entry_gen_next ?_ (args_gen_next _)))
 show wpAny _ A.in1 (p_ (.ref a) (.send .none)) _ _ s;refine aa (aV (wpAny_genNumber hg (aa (wpAny_genState Ov ?_))));cases gs with
 |running=>exact ni.elim
 |finished=>exact ni.elim
 |_=>
  refine aa (wpAny_roomToWake hl FY ?_);show wpAny _ A.in1 (.resume g (.send .none) [] _) _ _ s;refine o7 Ov ni λ e au hz=>?_;have hz:=hZ e au hz;cases e with
  |ret x=>
   obtain⟨rfl,hp⟩:=hz;refine⟨rfl,?_⟩;show wpAny _ A.in1 (newExc (.type "StopIteration") []>>=_) _ _ _;refine aa ?_;refine aa (bo ?_ (by exact bS _));refine aa (m:=firstArgMember _ _) (dg (a:=di) (by first|rfl|(simp only[firstArgMember];rfl)) ?_);refine bo ?_ (by size_fits);refine aa (aa (oU ?_))
   first|rw[show A.in1.handled=none from hh]|rw[hh]
   refine sU ?_;exact hp _ _ (λ b o hb=>aA _ (aA _ hb)) ⟨_,av _ rfl,rfl⟩
  |susp v gd l k cd p fs=>
   exact⟨hz.1,ah ⟨v,rfl,ah hz.2⟩⟩
theorem wG{e it:Addr}{i:Nat}{old:ag}{K:ag→ae→Prop}{Q:Option ag→ae→Prop}{X:ag→ae→Prop}(he:zZ s.heap e it i old)(hn:wpAny (model prog w) A.in1 (pU (.ref it)) (λ v au=>zZ au.heap e it i old∧K v au) X s)(hX:∀x s',X x s'→wpAny (model prog w) A (do if ← isInstance x (.type "StopIteration")then pure none else throw x) Q E s')(hQ:∀v au h' tk,K v au→IsEnumOut h' e it ((i:Int)+1) v au.heap.objs.size→h'.get? au.heap.objs.size=some {cls:=.type "tuple",data:=.seq #[.int i tk,v]}→h'.objs.size=au.heap.objs.size+1→
   (∀b o,b≠e→au.heap.get? b=some o→h'.get? b=some o)→Q (some (.ref au.heap.objs.size)) {au with heap:=h',toks:=tk+1}):
  wpAny (model prog w) A (pyNext (.ref e)) Q E s:=by
 have hT:s.TypeIs (.ref e) "enumerate":=⟨_,he,rfl⟩;refine aa (gq (cC (name:=d_ "__next__") hT vt
  (bO vt hT PySem.F.entry_enumerate_next ?_ (PySem.F.args_enumerate_next_1 _))))
 show wpAny _ _ (field (.ref e) 2>>=_) _ _ _;refine aa (kE he rfl (x:=.ref it) rfl ?_);refine aa (jc hn (λ x au hk=>?_) λ x s' hx=>hX x s' hx);refine xa hk ?_;clear hk;intro wz hk;obtain⟨cq,g,d,tk,os⟩:=au
 replace wz:zZ cq e it i old:=wz
 show wpAny _ _ (field (.ref e) 3>>=_) _ _ ⟨cq,g,d,tk,os⟩;refine aa (kE wz rfl (x:=rawInt i) rfl ?_);show wpAny _ _ (field (.ref e) 4>>=_) _ _ ⟨cq,g,d,tk,os⟩;refine aa (kE wz rfl (x:=.none) rfl ?_);show wpAny _ _ (mkInt i>>=_) _ _ ⟨cq,g,d,tk,os⟩;refine aa (Au ?_);show wpAny _ _ (setField (.ref e) 3 (rawInt ((i:Int)+1))>>=_) _ _ ⟨cq,g,d,tk+1,os⟩;refine aa (iw wz (by exact aG _ _) λ cM Cj mD=>?_)
 replace mD:c7 e cq cM:=mD
 replace Cj:zZ cM e it ((i:Int)+1) old:=Cj
 show wpAny _ _ (setField (.ref e) 4 .none>>=_) _ _ ⟨cM,g,d,tk+1,os⟩;refine aa (iw Cj (by exact bq _) λ mC Ci zi=>?_)
 replace zi:c7 e cM mC:=zi
 replace Ci:zZ mC e it ((i:Int)+1) old:=Ci
 show wpAny _ _ (newTuple [.int i tk,x]>>=_) _ _ ⟨mC,g,d,tk+1,os⟩;refine aa (DT ?_);have Ch:zZ (mC.push {cls:=.type "tuple",data:=.seq #[.int i tk,x]}) e it ((i:Int)+1) old:=aA _ Ci;generalize Cg:mC.push {cls:=.type "tuple",data:=.seq #[.int i tk,x]}=pC at Ch;have lb:mC.objs.size=cq.objs.size:=by rw[zi.1,mD.1]
 have Mi:e<cq.objs.size:=aI wz;have NY:pC.get? cq.objs.size=some {cls:=.type "tuple",data:=.seq #[.int i tk,x]}:=by rw[← Cg,← lb];exact av _ rfl
 have NL:pC.objs.size=cq.objs.size+1:=by rw[← Cg,aW,lb]
 have Om:∀b o,b≠e→cq.get? b=some o→pC.get? b=some o:= λ b o Lj hb=>by
  rw[← Cg];exact aA _ (zi.extBut b o Lj (mD.extBut b o Lj hb))
 show wpAny _ _ (mL (.ref e)>>=_) _ _ ⟨pC,g,d,tk+1,os⟩;rw[lb];clear Cg Ci zi Cj mD lb;refine aa ?_
 ·unfold mL;refine aa (kE Ch rfl (x:=.none) rfl (ah ?_));refine wT ?_;refine aa (gm ?_);refine aa (kE Ch rfl (x:=old) rfl ?_);refine aa (iw Ch (by exact az _) λ zd Gf zg=>?_)
  replace zg:c7 e pC zd:=zg
  replace Gf:zZ zd e it ((i:Int)+1) x:=Gf
  show wpAny _ _ (mm (.ref e) (.ref cq.objs.size)>>=_) _ _ ⟨zd,g,d,tk+1,os⟩;refine aa ?_
  ·unfold mm;refine aa (iw Gf (by exact bD _) λ Be Ge zf=>?_)
   replace zf:c7 e zd Be:=zf
   replace Ge:IsEnumOut Be e it ((i:Int)+1) x cq.objs.size:=Ge
   refine iw Ge (by exact aG _ _) λ FQ Gd ze=>?_
   replace ze:c7 e Be FQ:=ze
   replace Gd:IsEnumOut FQ e it ((i:Int)+1) x cq.objs.size:=Gd
   refine aa (jd (ah ⟨_,rfl,ah (hQ x ⟨cq,g,d,tk,os⟩ FQ tk hk Gd ?_ ?_ ?_)⟩))
   ·exact ze.extBut _ _ (dA Mi) (zf.extBut _ _ (dA Mi) (zg.extBut _ _ (dA Mi) NY))
   ·rw[ze.1,zf.1,zg.1,NL]
   ·exact λ b o Lj hb=>ze.extBut b o Lj (zf.extBut b o Lj (zg.extBut b o Lj (Om b o Lj hb)))
end
noncomputable def ij:Nat→List D→List D
 |_,[]=>[]
 |i,d::ds=>.tup [.int i,d]::ij (i+1) ds
noncomputable def eP(P:List Addr→List D→ae→Prop)(e a:Addr):List Addr→List D→ae→Prop:= λ F ds s=>
 ∃lV l9 i old,F=e::lV∧e∉lV∧P lV l9 s∧zZ s.heap e a (i:Nat) old∧ds=ij i l9
section
variable {c:Cx}{A:aK}{k:Snap}{a e:Addr}{g:Nat}{P:List Addr→List D→ae→Prop}
theorem CJ{M:qS}{x:ag}{s:ae}{Q:Option ag→ae→Prop}{E:ag→ae→Prop}(h:∃b,x=.ref b∧∃o,s.heap.get? b=some o∧o.cls=.type "StopIteration")(hQ:Q none s):wpAny M A (do if ← isInstance x (.type "StopIteration")then pure none else throw x) Q E s:=by
 refine eX h ?_;clear h;intro b z1 o ho hc;subst z1;exact aa (cg (T:="StopIteration") (b:=true) ⟨o,ho,hc⟩ nH (ah hQ))
theorem nM.enum{elts:List Expr}{x1}{pos:Pos}(R:Rm A 1)(K:GI c A.in1 k g a P)(W_:e∈k.O)(Ys:e<k.s.heap.objs.size):nM c A (.Tuple elts x1 pos) (.ref e) k [g] (eP P e a) where
 det:= λ w w'=>iq w λ lV l9 i zh=>eG zh λ old e1 z h z=>iq w' λ P4 JL j zh=>eG zh λ VY e2 z h' z=>by rw[e1,e2,K.det h h']
 frame:= λ w y S hV hG=>iq w λ lV l9 i zh=>eG zh λ old e1 ku h zh=>⟨lV,l9,i,old,e1,ku,K.frame h y (λ b hb hf=>hV b hb (e1▸ .tail _ hf)) hG,y.keep e _ (λ h=>hV _ h (e1▸ .head _)) zh.1 (bU (by simp)),zh.2⟩
 next:= λ {F ds d t} S hs hB w0=>by
  refine iq w0 λ lV l9 i zh=>eG zh λ old hF ku h zh=>xa zh λ he hd=>?_;clear w0;subst hF;cases l9 with
  |nil=>cases hd
  |cons d₁ l9=>
  obtain⟨rfl,rfl⟩:=vR hd;refine dj (K.next S hs (λ b hb=>hB b (.tail _ hb)) h) λ gs Z hf ni hz=>?_;have gy:=K.lt h;have het:e<t.heap.objs.size:=aI he;refine wG (K:=LV c k g P lV d₁ l9 t) (X:=aZ) he
   (l0 K.R.handled S.nolimit K.R.d0 (K.gen h) hf ni λ e' au q'=>?_) (λ z z f=>f.elim) λ v au h' tk r ho hT lb i8=>?_
  ·refine xe (hz e' au q') λ v zh=>iq zh λ gd l kk zh=>iq zh λ cd pp fs zh=>jH zh λ z1 hq r=>?_;subst z1;exact⟨hq,r.gr.keep e _ ku he (bU (by simp)),r⟩
  ·refine cH r.ex λ F' hu hn hp=>?_;refine⟨_,rfl,wpAny_letOwnedTupleGo_enum ho λ pG Sz rG=>?_⟩;have N3:pG.objs.size=au.heap.objs.size+1:=by rw[rG.1];exact lb
   have U1:e<au.heap.objs.size:=ab het r.gr.size;have UR:∀b o,b∉ [e]→au.heap.get? b=some o→pG.get? b=some o:= λ b o hb e'=>rG.extBut b o (λ h=>hb (h▸ .head _)) (i8 b o (λ h=>hb (h▸ .head _)) e');have Eg:pG.get? au.heap.objs.size=some {cls:=.type "tuple",data:=.seq #[.int i tk,v]}:=rG.extBut _ _ (dA U1) hT;have U0:e∉F':=hu.not ku het;have RN:au.heap.objs.size≤pG.objs.size:=N3▸bq _;have g2:aB c [e] [] au {au with heap:=pG,toks:=tk+1}:=.of_keep RN UR λ b hb o eb=>by
    obtain rfl:=m1 hb;rw[r.gr.keep _ _ ku he (bU (by simp))]at eb;cases eb;exact bU (by simp)
   have S2:bF c {au with heap:=pG,toks:=tk+1}:=r.S.at (O:=[e]) RN UR λ b hb=>m1 hb▸hB _ (.head _);have lH:aB c (e::lV) [g] t {au with heap:=pG,toks:=tk+1}:=(r.gr.mono (λ b hb=>.inl (.tail _ hb)) λ z h=>.inl h).comp g2 (λ b hb=>.inl (m1 hb▸ .head _)) λ z=>nn;have OQ:=K.lt hp;refine⟨lH,S2,e::F',λ b hb=>?_,λ O XG U_=>?_,F',l9,i+1,v,rfl,U0,K.frame hp g2 (λ b hb hf=>U0 (m1 hb▸hf)) (λ z=>nn),Sz,rfl⟩
   ·rcases mc hb with rfl|hb
    ·exact .inl (.head _)
    ·exact(hu b hb).imp (λ h=>.tail _ h) λ h=>⟨h.1,ab h.2 RN⟩
   ·have r1:bh c.w (e::O) au.heap v d₁:=hn (e::O) (λ b hb=>(aD.mp hb).elim (λ h=>.inl (h▸W_)) (XG b)) λ b hb=>(aD.mp hb).elim (λ h=>.inl (h▸het)) λ hb=>(U_ b hb).elim .inl λ hb=>(aD.mp hb).elim (λ h=>.inl (h▸het)) .inr;have r2:bh c.w O pG v d₁:=g2.rep (λ b hb=>.inl (m1 hb▸ .head _)) (λ b hb=>.inl (.tail _ hb)) r1;refine⟨au.heap.objs.size,[.int i tk,v],rfl,λ XA=>?_,⟨_,Eg,rfl,_,rfl⟩,⟨_,rfl⟩,r2,trivial⟩
    rcases U_ _ XA with h|h
    ·exact ak _ (ab h r.gr.size)
    ·exact(aD.mp h).elim (λ h=>ak _ (h▸U1)) λ h=>ak _ (OQ _ h)
 done:= λ {F t} S hs hB w0=>by
  refine iq w0 λ lV l9 i zh=>eG zh λ old hF ku h zh=>xa zh λ he hd=>?_;clear w0;subst hF;cases l9 with
  |cons d₁ l9=>cases hd
  |nil=>
  refine dj (K.done S hs (λ b hb=>hB b (.tail _ hb)) h) λ gs Z hf ni hz=>?_;refine c9 (jc (wG (K:= λ z z=>False) (X:= λ x s'=>(∃b,x=.ref b∧∃o,s'.heap.get? b=some o∧o.cls=.type "StopIteration")∧(t.heap.objs.size≤s'.heap.objs.size→aB c (e::lV) [g] t s'∧bF c s')) (Q:= λ r s'=>t.heap.objs.size≤s'.heap.objs.size→r=none∧aB c (e::lV) [g] t s'∧bF c s') (E:= λ z z=>False) he
   (l0 K.R.handled S.nolimit K.R.d0 (K.gen h) hf ni λ e' au q'=>?_) (λ x s' hx=>CJ hx.1 λ vf=>⟨rfl,hx.2 vf⟩) λ z z z z f=>f.elim) (λ r s' q up=>q up.heap) λ z z f z=>f)
  refine jH (hz e' au q') λ z1 gr S'=>?_;subst z1;exact⟨rfl,λ h' x vG hx=>⟨⟨x,rfl,hx⟩,λ vf=>⟨(gr.mono (λ b hb=>.inl (.tail _ hb)) λ z h=>.inl h).after vf vG,S'.keep (af S.size vf) vG⟩⟩⟩
 self:= λ {A' F ds t} S w0=>iq w0 λ lV l9 i zh=>eG zh λ old z z z zh=>wpAny_pyIter_enum zh.1 ⟨rfl,rfl⟩
end
section
variable {c:Cx}{n:Nat}{E:VE}{ρ:List Sl}
theorem kg.enum{elts:List Expr}{x1}{nT p pos pz:Pos}{z:Str}{C f:Addr}{fs:List (Str×D)}{ds:List D}{nm x y:Str}{fd:FuncData}{body:List Stmt}(q:BD)(F:nE c f fd body)(hb:body=q.body x y nm)(hg:Co fd.scope x y=true)(wy:findIn c.K (.ref C) "__iter__"=some (some (.ref f)))(Oz:isFn c.K (.ref f)=true)(hA:attrOk c.K C nm=true)(Ed:fs.lookup nm=some (.lst ds))(zw:∀s v,bF c s→iv s fd ⟨[v],[]⟩ [(x,v)])(hx:E.env.kindOf "enumerate"=some .globalImplicit)(Ir:cV c "enumerate" (.type "enumerate"))(h:Ev c (n+4) E ρ (.Name z pz) (.inst C fs)):
  kg c (n+4) E ρ (.Call (.Name "enumerate" p) [.Name z pz] [] pos) (.Tuple elts x1 nT) (· =ij 0 ds):= λ A β O ad s R I=>
 fK (iM I hx Ir rfl (fS R I (show jz c (.type "enumerate")from trivial) (ck.cons h .nil) .nil rfl λ vs ks au cY bj r r'=>by
  have K9:ks=[]:=by
   cases ks with
   |nil=>rfl
   |cons a b=>exact r'.elim
  subst K9;obtain⟨v,rfl⟩:∃v,vs=[v]:=CC.mp r.length;have r:=r.1;have ej:=r;refine iz ej ?_;clear ej;intro pa j zh;refine lB zh ?_;clear zh;intro j j j z1 j;subst z1;refine uO (wm (qd q F hb hg wy Oz hA Ed zw (R.le (aG 3 _)).in1.in1 bj.o r) λ it aH z=>?_);refine jH z ?_;clear z;intro g2 S2 zh;refine cI zh ?_;clear zh;intro a gn L z1 ie ha zh;refine b_ zh ?_;clear zh;intro hL Mn Ir hk;subst z1;refine wpAny_pyIter_enum (it:=a) (i:=0) (old:=.none) (av _ rfl) ?_;have g3:aB c [] [] aH {aH with heap:=aH.heap.push {cls:=.type "enumerate",data:=.fields #[.none,.bool false,.ref a,rawInt 0,.none,.none]}}:=aB.push (tk:=aH.toks);have S3:bF c {aH with heap:=aH.heap.push {cls:=.type "enumerate",data:=.fields #[.none,.bool false,.ref a,rawInt 0,.none,.none]}}:=S2.push (tk:=aH.toks);have vd:s.heap.objs.size≤au.heap.objs.size:=cY.size;have Cd:au.heap.objs.size≤aH.heap.objs.size:=g2.size;have NQ:(aH.heap.push {cls:=.type "enumerate",data:=.fields #[.none,.bool false,.ref a,rawInt 0,.none,.none]}).objs.size=aH.heap.objs.size+1:=aW ..;refine⟨(cY.trans g2).trans g3,S3,_,rfl,[aH.heap.objs.size,a,L],[gn],λ b hb=>?_,λ b hb=>?_,λ A' R'=>?_⟩
  ·show s.heap.objs.size≤b∧b<(aH.heap.push _).objs.size;rw[NQ]
   rcases mc hb with rfl|hb
   ·exact⟨af vd Cd,aS _⟩
   rcases mc hb with rfl|hb
   ·exact⟨af vd ha.1,cw ha.2⟩
   ·rw[aj]at hb;subst hb;exact⟨af vd hL.1,cw hL.2⟩
  ·rw[aj]at hb;subst hb;exact⟨af cY.dv Ir.1,Ir.2⟩
  ·refine cW (hk ⟨{aH with heap:=aH.heap.push {cls:=.type "enumerate",data:=.fields #[.none,.bool false,.ref a,rawInt 0,.none,.none]}},[aH.heap.objs.size,a,L]++O,[]⟩ g3 S3 rfl (.tail _ (.head _)) (.tail _ (.tail _ (.head _))) (λ b hb=>(aC.mp hb).elim (λ hb=>.inr (by
    rcases mc hb with rfl|hb
    ·exact Cd
    rcases mc hb with rfl|hb
    ·exact ha.1
    ·rw[aj]at hb;subst hb;exact hL.1)) .inl) A'.in1 (R'.le (aG 2 _)).in1) λ P XM hP=>?_
   refine⟨_,nM.enum (R'.le (aG 1 _)) XM (.head _) (by show _<(aH.heap.push _).objs.size;rw[NQ];exact aS _),[a,L],ds,0,.none,rfl,λ hm=>?_,hP,av _ rfl,rfl⟩
   rcases aD.mp hm with hm|hm
   ·exact ak _ (hm▸ha.2)
   ·rw[aj]at hm;exact ak _ (hm▸hL.2)))
end
section
variable {c:Cx}{n:Nat}{E:VE}{ρ ρ':List Sl}
theorem ba.PJ{elts:List Expr}{k:Nat}{nT pos:Pos}{e:Expr}{ds:List D}(h:Ev c n E ρ e (.tup ds))(t:ju c n E ρ (.Tuple elts k nT) (.tup ds) ρ')(hs:autoParam (swapsWithSole [.Tuple elts k nT] e pos.line E.env=pure false) rf)(hw:autoParam (swappedStores [.Tuple elts k nT] e E.env=pure none) rf):ba c n E ρ (.Assign [.Tuple elts k nT] e pos) (.next ρ'):= λ A β s R w0=>iz w0 λ O ad I=>
 Assign_Tuple (h.go R I λ v au x bj r=>wm (t A β O ad au v R bj r) λ z s' q=>by
  refine ez q ?_;clear q;intro ad' W I' z;exact⟨rfl,O,ad',I'⟩) hs hw
theorem CH{A:aK}{s:ae}{t:Addr}{vs:List ag}{k:Nat}(hh:A.handled=none)(ht:lP s.heap t vs.toArray)(hk:vs.length=k):wpAny (model c.prog c.w) A (unpackItems (.ref t) k none)
  (λ r s'=>r=vs∧∃h',s'={s with heap:=h'}∧s.heap.objs.size≤h'.objs.size∧∀a o,s.heap.get? a=some o→h'.get? a=some o) aZ s:=by
 subst hk;refine c9 ?_;show wpAny _ A (unpackItems (.ref t) vs.toArray.size none) _ _ s;exact wpAny_unpackItems_tuple hh ht λ h' he up=>⟨rfl,h',rfl,up.heap,λ a o e=>he a o (dO (aI e)) e⟩
theorem ba.ML(i j:Nat){x y:Str}{p1 p2 nT pos p':Pos}{k k':Nat}{e f:Expr}{d₁ d₂:D}(h:Ev c n E ρ (.Tuple [e,f] k' p') (.tup [d₁,d₂]))(hx:E.vn[i]? =some x)(hy:E.vn[j]? =some y)(hi:i<E.k)(hj:j<E.k)(hl:i<ρ.length)(nC:j<ρ.length)(hs:autoParam (swapsWithSole [.Tuple [.Name x p1,.Name y p2] k nT] (.Tuple [e,f] k' p') pos.line E.env=pure false) rf)(hw:autoParam (swappedStores [.Tuple [.Name x p1,.Name y p2] k nT] (.Tuple [e,f] k' p') E.env=pure (some [x,y])) rf):
  ba c n E ρ (.Assign [.Tuple [.Name x p1,.Name y p2] k nT] (.Tuple [e,f] k' p') pos) (.next ((ρ.set j (.val d₂)).set i (.val d₁))):= λ A β s R w0=>iz w0 λ O ad I=>by
  refine Assign_Tuple_swapped (names:=[x,y]) ?_ hs hw;refine h.go R I λ v au cY bj r=>?_;refine bh.qh r ?_;clear r;intro a vs ha ht r;obtain⟨eR,eQ,rfl⟩:∃a b,vs=[a,b]:=uc r.length λ a b=>⟨a,b,rfl⟩;refine wm (CH (k:=2) R.handled ht rfl) λ r' s' q=>?_;refine xa q ?_;clear q;intro z1 zh;refine cH zh ?_;clear zh;intro h' z2 hz hk;subst z1;subst z2;have g:aB c [] [] au {au with heap:=h'}:=.of_keep (tk:=au.toks) hz (λ a o z e=>hk a o e) λ z=>nn;have S:bF c {au with heap:=h'}:=bj.br.at (O:=[]) (tk:=au.toks) hz (λ a o z e=>hk a o e) λ z=>nn;have ct:=bj.fT g S;have r:=g.ka r;show wpAny _ A (assignInOrder [bindName E.env y,bindName E.env x] [eQ,eR]) _ _ _;refine aa (aV (wpAny_bindName (mq ct hj hy nC (sl:=.val d₂) (fp:=[]) ⟨rfl,r.2.1⟩ (λ z z z h=>nn h) λ cn w jU Dy NT z=>?_)));refine aa (aV (wpAny_bindName (mq jU hi hx (by rw[jt];exact hl) (sl:=.val d₁) (fp:=[]) ⟨rfl,Dy.rep (λ a h=>.inl (by rw[aj]at h;exact h▸NT)) (λ a h=>.inl h) r.1⟩ (λ z z z h=>nn h) λ d9 w' i4 z z z=>?_)));exact ah ⟨rfl,O,_,i4⟩
theorem gF.Pn{a b:Int}(h0:b≠0)(hb:b.natAbs<2^64):gF c n .FloorDiv (.int a) (.int b) (.int (a.fdiv b)):= λ A O s eR eQ R K bE bB=>by
 refine bh.ek bE λ t=>bh.ek bB λ u=>?_;refine floordiv_int h0 (Res.tok K.br fq) (.inl (PyProof.noPylong_of_log2 ?_));have:b.natAbs.log2<64:=(Nat.log2_lt (Int.natAbs_ne_zero.mpr h0)).mpr hb;exact af this (aG _ _)
end
section
set_option backward.match.sparseCases false
noncomputable def rV(c:Cx)(n:Nat)(op:mf)(d₁ d₂ d:D):Prop:=
 ∀(A:aK) (O:List Addr) (s:ae) (eR eQ:ag),Rm A n→Ok c O s→bh c.w O s.heap eR d₁→bh c.w O s.heap eQ d₂→wpAny (model c.prog c.w) A (binaryOp op eR eQ) (λ v s'=>aB c [] [] s s'∧bF c s'∧∀O',(∀a∈O',a<s.heap.objs.size)→bh c.w O' s'.heap v d) aZ s
noncomputable def Uc:Option (Option ag)→Bool
 |some none=>true
 |some (some (.ref _))=>true
 |_=>false
theorem Ku{o:Option (Option ag)}(h:Uc o=true):∃rc,o=some rc∧(rc=none∨∃g:Addr,rc=some (.ref g)):=by
 cases o with
 |none=>cases h
 |some r=>cases r with
  |none=>exact⟨_,rfl,.inl rfl⟩
  |some v=>cases v with
   |ref g=>exact⟨_,rfl,.inr ⟨g,rfl⟩⟩
   |_=>exact absurd h ew
noncomputable def wg(K:Frag)(C:Addr)(T nm:String)(f:Addr):Bool:=qv K C (d7 nm) f&&Uc (findIn K (.ref C) (dunderR nm))&&
 (findIn K (.type T) (d7 nm)).isSome&&(findIn K (.type T) (dunderR nm)).isSome&&subIn K (.type T) (.ref C)==some false
section
variable {c:Cx}{n:Nat}{E:VE}{ρ ρ':List Sl}
theorem rV.bin{op:mf}{d₁ d₂ d:D}(h:rV c n op d₁ d₂ d):gF c n op d₁ d₂ d:= λ A O s eR eQ R K bE bB=>
 wm (h A O s eR eQ R K bE bB) λ v s' q=>⟨q.1,q.2.1,q.2.2 O K.lt⟩
theorem xV.bin{l r:Expr}{op:mf}{pos:Pos}{d₁ d₂ d:D}(cq:Ev c n E ρ l d₁)(cM:Ev c n E ρ r d₂)(h:rV c n op d₁ d₂ d):xV c n E ρ (.BinOp l op r pos) d:= λ A β O ad s R I=>
 wpAny_BinOp (cq.go R I λ v au cY bj bE=>cM.go R bj λ u aH cE ct bB=>
  wm (h A O aH v u R ct.o (cE.rep0 bE) bB) λ z z q=>⟨(cY.trans cE).trans q.1,q.2.1,λ O' Dx=>q.2.2 O' λ a ha=>ab (Dx a ha) (cY.trans cE).size⟩)
set_option tactic.hygienic true in
theorem bh.V1{w:a0}{O:List Addr}{h:Heap}{v:ag}{d:D}(hd:d.seen=true)(r:bh w O h v d):v≠.notImplemented:=by
 have k:∀a,dR a≠.notImplemented:= λ a h=>by cases h
 cases d
 case none=>obtain rfl:=r;intro h;cases h
 case bool b=>obtain rfl:=r;intro h;cases h
 case int i=>exact bh.ek r λ t h=>by cases h
 case str x=>exact bh.rg r λ t h=>by cases h
 case tup ds=>exact bh.qh r λ a z z z z=>k a
 case lst ds=>exact bh.n6 r λ a z z z z=>k a
 case dm xs=>exact bh.sj r λ a z z z z z z=>k a
 case k8 j st=>exact bh.yn r λ a z z z z z z=>k a
 case inst C fs=>exact bh.qE r λ a z z z z z z z z z z=>k a
 case dK sN=>exact bh.Cc r λ a z z z z z z=>k a
 case D7 x y=>exact bh.EW r λ a z z z z z=>k a
 case lit=>exact absurd hd ew
 case any=>exact absurd hd ew
theorem bh.back{w:a0}{O:List Addr}{h:Heap}{v:ag}{d:D}{Q:ag→ae→Prop}{s:ae}(hd:d.seen=true)(r:bh w O h v d)(q:Q v s):lr Q v s:=by
 have n:=bh.V1 hd r;cases v
 case notImplemented=>exact absurd rfl n
 all_goals exact q
theorem rV.inst{op:mf}{C f:Addr}{fs gs:List (Str×D)}{d:D}(ho:qv c.K C (d7 op.info.2) f=true)(h:P6 c n (.ref f) [.inst C fs,.inst C gs] [] d)(hd:autoParam (d.seen=true) rf):rV c n op (.inst C fs) (.inst C gs) d:= λ A O s eR eQ R K bE bB=>by
 have nY:=bE;have qo:=bB;refine iz bE ?_;clear bE;intro a dx zh;refine c8 zh ?_;clear zh;intro es m ps z1 z zh;refine b_ zh ?_;clear zh;intro z h1 h2 z;subst z1;refine iz bB ?_;clear bB;intro b dy zh;refine c8 zh ?_;clear zh;intro rN m' C7 z1 z zh;refine b_ zh ?_;clear zh;intro z Cn wB z;subst z1;unfold qv at ho;simp only[bg,beq_iff_eq]at ho;refine xa ho ?_;clear ho;intro y1 hc;refine xa y1 ?_;clear y1;intro hs hf;refine FJ K.br h1 h2 (iG Cn wB).type hc hs hf (wm (h A O s _ _ R K (by exact⟨nY,qo,trivial⟩) (by trivial)) λ v s' q=>?_);exact(q.2.2 O K.lt).back hd q
theorem rV.Jv{op:mf}{C f:Addr}{fs:List (Str×D)}{i:Int}{d:D}(ho:wg c.K C "int" op.info.2 f=true)(h:P6 c n (.ref f) [.inst C fs,.int i] [] d)(hd:autoParam (d.seen=true) rf):rV c n op (.inst C fs) (.int i) d:= λ A O s eR eQ R K bE bB=>by
 have nY:=bE;have qo:=bB;refine iz bE ?_;clear bE;intro a dx zh;refine c8 zh ?_;clear zh;intro es m ps z1 z zh;refine b_ zh ?_;clear zh;intro z h1 h2 z;subst z1;refine xe bB ?_;clear bB;intro t z1;subst z1;unfold wg qv at ho;simp only[bg,beq_iff_eq]at ho;refine xa ho ?_;clear ho;intro y1 h5;refine xa y1 ?_;clear y1;intro y2 h4;refine xa y2 ?_;clear y2;intro y3 h3;refine xa y3 ?_;clear y3;intro y4 hr;refine xa y4 ?_;clear y4;intro y5 hc;refine xa y5 ?_;clear y5;intro hs hf;refine xe (dF.mp h3) λ fo h3=>?_;refine xe (dF.mp h4) λ ro h4=>?_;refine cW (Ku hr) λ rc Md WD=>?_;refine Dl (T:="int") K.br h1 h2 rfl hc hs hf Md WD h3 h4 h5 (wm (h A O s _ _ R K (by exact⟨nY,qo,trivial⟩) (by trivial)) λ v s' q=>?_);exact(q.2.2 O K.lt).back hd q
theorem cB.inst{op:CmpOp}{C f:Addr}{fs gs:List (Str×D)}{b:Bool}(ho:qv c.K C (cmpInfo op).2.1 f=true)(h:Fn c n (.ref f) [.inst C fs,.inst C gs] [] (.bool b))(WJ:∀x y,compareOp op x y=richCompare op x y:=by intros;rfl):cB c n op (.inst C fs) (.inst C gs) b:= λ A O s eR eQ R K bE bB=>by
 have nY:=bE;have qo:=bB;refine iz bE ?_;clear bE;intro a dx zh;refine c8 zh ?_;clear zh;intro es m ps z1 z zh;refine b_ zh ?_;clear zh;intro z h1 h2 z;subst z1;refine iz bB ?_;clear bB;intro b' dy zh;refine c8 zh ?_;clear zh;intro rN m' C7 z1 z zh;refine b_ zh ?_;clear zh;intro z Cn wB z;subst z1;unfold qv at ho;simp only[bg,beq_iff_eq]at ho;refine xa ho ?_;clear ho;intro y1 hc;refine xa y1 ?_;clear y1;intro hs hf;rw[WJ];refine FI R.u0 K.br h1 h2 (iG Cn wB).type (by unfold notFirst;simp) hs hf (wm (h A O s _ _ R K (by exact⟨nY,qo,trivial⟩) (by trivial)) λ v s' q=>?_);exact q.2.2.back rfl q
theorem ba.qq{e:Expr}{pos:Pos}{q:OD}(h:gz c n E ρ e q):ba c n E ρ (.Return (some e) pos) (.qq q):= λ A β s R w0=>iz w0 λ O ad I=>
 xZ (wm (h A β O ad s R I) λ v au z=>by
  refine eG z ?_;clear z;intro fp g S r hf;exact⟨v,fp,rfl,(I.fT g S).grow,S,r.less λ a ha=>(aC.mp ha).elim (λ h=>aF _ h) λ h=>ao _ (I.sub a h),λ a ha=>⟨.inr (af I.grow.size (hf a ha).1),(hf a ha).2⟩⟩)
theorem ba.Rg(i:Nat){x:Str}{p pos:Pos}{q:OD}(hx:E.vn[i]? =some x)(dQ:ρ[i]? =some (Sl.own true q)):ba c n E ρ (.Return (some (.Name x p)) pos) (.qq q):= λ A β s R w0=>iz w0 λ O ad I=>by
 refine cH (I.slot hx dQ) λ v b r k=>?_;refine xZ (I.read hx b ?_);exact⟨v,ad i,rfl,I.grow,I.br,r.less λ a ha=>(aC.mp ha).elim (λ h=>(k a h).1) λ h=>I.sub a h,λ a ha=>⟨(k a ha).2.2.2.1 rfl,(k a ha).2.2.2.2.2⟩⟩
end
end
section
variable {c:Cx}{n:Nat}{E:VE}{ρ ρ':List Sl}{β:dH}{O:List Addr}{ad:Nat→List Addr}{s:ae}
theorem Tr.or3{e f g:Expr}{pos:Pos}{b b' PA:Bool}(h:Tr c n E ρ e b)(h':b=false→Tr c n E ρ f b')(pG:b=false→b'=false→Tr c n E ρ g PA):Tr c n E ρ (.BoolOp .Or [e,f,g] pos) (b||b'||PA):= λ A β O ad s R I=>by
 refine u1 (iR (h.go R I λ au x bj=>?_));cases b with
 |true=>simp only[if_true];exact⟨by trivial,x,bj.br⟩
 |false=>
  simp only[aR,if_false,Ay];refine iR ((h' rfl).go R bj λ aH cE ct=>?_);cases b' with
  |true=>simp only[if_true];exact⟨by trivial,x.trans cE,ct.br⟩
  |false=>
   simp only[aR,if_false,Ay];refine iR ((pG rfl rfl).go R ct λ cn qa jU=>?_);cases PA with
   |true=>simp only[if_true];exact⟨by trivial,(x.trans cE).trans qa,jU.br⟩
   |false=>simp only[aR,if_false];exact wpAny_allTrue_Or_nil ⟨by trivial,(x.trans cE).trans qa,jU.br⟩
theorem Ev.qL{e f:Expr}{pos:Pos}{p:Bool}{d₁ d₂:D}(h:Ev c n E ρ e d₁)(ht:kA c n d₁ p)(cM:p=true→Ev c n E ρ f d₂):Ev c n E ρ (.BoolOp .And [e,f] pos) (if p then d₂ else d₁):= λ A β O ad s R I=>by
 refine wpAny_And2 (h.go R I λ v au x bj r=>wm (ht A O au v R bj.o r) λ b' aH q=>?_);obtain⟨rfl,cE,S⟩:=q;have ct:=bj.fT cE S;cases b' with
 |false=>simp only[aR,if_false];exact⟨x.trans cE,S,cE.rep0 r⟩
 |true=>simp only[if_true];exact(cM rfl).go R ct λ v cn qa jU r=>⟨(x.trans cE).trans qa,jU.br,r⟩
theorem Ev.TP{e f:Expr}{pos:Pos}{p q:Bool}(h:Ev c n E ρ e (.bool p))(cM:p=true→Ev c n E ρ f (.bool q)):Ev c n E ρ (.BoolOp .And [e,f] pos) (.bool (p&&q)):=by
 have:=Ev.qL (pos:=pos) h kA.bool cM;cases p<;>exact this
theorem Fn.Fx{C f:Addr}{fs:List (Str×D)}{k:Int}(hs:findIn c.K (.ref C) "__len__"=some (some (.ref f)))(hf:isFn c.K (.ref f)=true)(h:Fn c n (.ref f) [.inst C fs] [] (.int k))(h0:0≤k)(h1:k<2^63):Fn c (n+1) (.builtin "len") [.inst C fs] [] (.int k):= λ A O s vs ks R K ej r'=>by
 refine cW (AV ej) λ v z1 r=>?_;subst z1;cases yI r';have r1:=r;refine iz r ?_;clear r;intro a dx zh;refine c8 zh ?_;clear zh;intro es m ps z1 z zh;refine b_ zh ?_;clear zh;intro z hi hd z;subst z1;refine yi kind_len plain_len entry_len (args_len1 _) ?_;refine aa (m:=oneArg "len" _) (ah ?_);refine aa (m:=callSpecial? (.ref a) (d_ "__len__")) (special_fn K.br.fY (iG hi hd) hs (beq_iff_eq.mp hf) (wm (h A.in1 O s _ _ R.in1 K ej r') λ r s' hr=>?_));refine jH hr ?_;clear hr;intro g S rr;refine bh.ek rr ?_;clear rr;intro t;refine aa (aV (ah ?_));refine aa (jd ?_);show wpAny _ _ (if k<0 then _ else _) _ _ _;refine wN (by lia) ?_;show wpAny _ _ (if k ≥ 2^63 then _ else _) _ _ _;refine wN (by lia) ?_;exact aa (Au (ah ⟨_,rfl,g.toks,S.toks,fq⟩))
theorem ba.putL(i:Nat){x name:Str}{p p' pos:Pos}{e:Expr}{C:Addr}{u:Option Addr}{fs:List (Str×D)}{ds:List D}(h:gz c n E ρ e (.lst ds))(hx:E.vn[i]? =some x)(dQ:ρ[i]? =some (Sl.own true (.inst u C fs)))(hA:fg c.K C name=true)(zt:fs.length≤900)(hs:autoParam (swapsWith e (some (.Attribute (.Name x p) name p')) pos.line E.env=pure false) rf):ba c n E ρ (.Assign [.Attribute (.Name x p) name p'] e pos) (.next (ρ.set i (.own true (.kc u C fs name ds)))):= λ A β s R w0=>iz w0 λ O ad I=>
 yb (wm (h A β O ad s R I) λ v au z=>by
  refine eG z ?_;clear z;intro fp g1 S1 ol hf;refine bL ol ?_;clear ol;intro l vs z1 z2 hl NU;subst z1;subst z2;have bj:=I.fT g1 S1;refine cH (I.slot hx dQ) λ VJ LL mV n_=>?_;refine iz mV ?_;clear mV;intro Bu dx zh;refine c8 zh ?_;clear zh;intro es m ps z1 jx zh;refine b_ zh ?_;clear zh;intro hu ku OV zh;refine b_ zh ?_;clear zh;intro OT hz hg MU;subst z1;have h1:=g1.keep Bu _ (by simp) OV (bU (by simp));have h2:=g1.keep dx _ (by simp) OT (cP rfl);have b:Bound au.heap E.env x (.ref Bu):=g1.bound (by simp) (by simp) LL;refine bj.read hx b ?_;refine tB bj.br h1 h2 hA (by rw[hg];rfl) (by exact af hz zt) λ h' m' tk hd An=>?_;have kz:dx∈ad i:=by rw[jx];exact .tail _ (.head _)
  have G_:=hf l (.head _);have Qm:Bu≠l:= λ e=>by
   have:=(I.small i Bu (by rw[jx];exact .head _)).2.1;exact ak _ (ab this (e▸G_.1))
  have Ql:dx≠l:= λ e=>by
   have:=(I.small i dx kz).2.1;exact ak _ (ab this (e▸G_.1))
  have g:aB c [dx] [] au {au with heap:=h',toks:=tk}:=SameBut.grow An h2 (cP rfl);have S:bF c {au with heap:=h',toks:=tk}:=SameBut.br bj.br An (bj.low _ (n_ _ kz).1);have mi:tu [dx] O au:= λ b hb=>by obtain rfl:=m1 hb;exact .inl (n_ _ kz).1
  have OK:tu [dx] ([l]++O) au:= λ b hb=>(mi b hb).imp (λ h=>.tail _ h) id;have lH:aB c [dx] [] s {au with heap:=h',toks:=tk}:=(g1.mono (λ j=>nn) λ j=>nn).trans g;refine⟨rfl,[l]++O,_,I.jj (N:=[l]) (fp:=[Bu,dx,l]) hx dQ lH S (λ b hb=>by obtain rfl:=m1 hb;exact kz) LL ⟨Bu,dx,l,_,m',ps,vs,rfl,rfl,hu,ku,Qm,Ql,An.extBut _ _ ku h1,hd,?_,λ y=>?_,?_,g.jh (λ h=>Ql (aj.mp h).symm) hl,g.fj OK (.refl _ au) NU⟩ (λ b hb=>?_) λ b hb=>?_⟩
  ·have:=n0 (x:=name) (hsh:=jN c.w.params name) (key:=.str name (au.toks+1)) (v:=.ref l) es;lia
  ·rw[zF (hg y)]
  ·exact g.yJ OK (.refl _ au) (g1.yJ (λ j=>nn) (λ b hb=>(aC.mp hb).elim (λ hb=>.inr (by obtain rfl:=m1 hb;exact G_.1)) .inl) MU)
  ·obtain rfl:=m1 hb;exact⟨G_.1,ab G_.2 g.size⟩
  ·rw[jx]
   rcases mc hb with rfl|hb
   ·exact .inl (.head _)
   rcases mc hb with rfl|hb
   ·exact .inl (.tail _ (.head _))
   ·exact .inr hb) hs
theorem Ev.PD(i:Nat){x name y:Str}{p pos:Pos}{C:Addr}{u:Option Addr}{m:Bool}{fs:List (Str×D)}{ds:List D}{d:D}(hx:E.vn[i]? =some x)(dQ:ρ[i]? =some (Sl.own m (.kc u C fs y ds)))(hA:attrOk c.K C name=true)(hf:fs.lookup name=some d)(hy:autoParam ((name==y)=false) rf)(hd:autoParam (d.seen=true) rf):Ev c n E ρ (.Attribute (.Name x p) name pos) d:= λ A β O ad s R I=>by
 refine cH (I.slot hx dQ) λ v b r k=>?_;refine xe r ?_;clear r;intro a zh;refine iq zh ?_;clear zh;intro dx l es zh;refine cI zh ?_;clear zh;intro m ps vs z1 jx hu zh;refine b_ zh ?_;clear zh;intro z z z zh;refine b_ zh ?_;clear zh;intro h1 h2 hz zh;refine b_ zh ?_;clear zh;intro hg r z z;subst z1;refine cW (r.lookup hf) λ v hv r=>?_;refine gX (I.read hx b (jP I.br h1 h2 hA (v:=v) ?_ (r.handed hd) ⟨(aB.refl ..).toks,I.br.toks,r⟩));rw[hg,if_neg (by simpa using hy),hv]
theorem ba.IW(i:Nat){x name:Str}{p p' apos pos pos':Pos}{e:Expr}{C:Addr}{u:Option Addr}{fs:List (Str×D)}{ds:List D}{d:D}(h:Ev c n E ρ e d)(hx:E.vn[i]? =some x)(dQ:ρ[i]? =some (.own true (.kc u C fs name ds)))(hA:attrOk c.K C name=true)(hz:ds.length≤900)(i9:autoParam (attributeBase (.Attribute (.Name x p) name p') "append" E.env (eval (.Attribute (.Name x p) name p') E.env)=eval (.Attribute (.Name x p) name p') E.env) rf)(rI:autoParam (((backTo pos (starEach [e] E.env)).all (λ x=> !x.1)&&(backToKw pos (keywordEach [] E.env)).all (λ x=>x.1.isSome)
   &&decide (([e]:List Expr).length+([]:List dU).length+(if([]:List dU).isEmpty then 0 else 1)<30))=true) rf)(iO:autoParam ((apos.endLine==pos.line)=true) rf)(ur:autoParam (backTo pos (starEach [e] E.env)=[(false,eval e E.env)]) rf)(hi:autoParam (interactive E.env=false) rf)(hs:autoParam (swapsWith (.Call (.Attribute (.Attribute (.Name x p) name p') "append" apos) [e] [] pos) none pos'.line E.env=pure false) rf):
  ba c n E ρ (.Expr (.Call (.Attribute (.Attribute (.Name x p) name p') "append" apos) [e] [] pos) pos') (.next (ρ.set i (.own true (.kc u C fs name (ds++[d]))))):= λ A β s R w0=>iz w0 λ O ad I=>by
 refine gW (oN i9 rI iO ur ?_) hi hs;refine cH (I.slot hx dQ) λ v b r k=>?_;refine xe r ?_;clear r;intro a zh;refine iq zh ?_;clear zh;intro dx l es zh;refine cI zh ?_;clear zh;intro m ps vs z1 jx hu zh;refine b_ zh ?_;clear zh;intro Se xF Oh zh;refine b_ zh ?_;clear zh;intro h1 h2 sO zh;refine b_ zh ?_;clear zh;intro hg rf hl hr;subst z1;have g0:aB c [] [] s {s with toks:=s.toks+1}:=(aB.refl ..).toks;refine gX (I.read hx b (jP I.br h1 h2 hA (by rw[hg,if_pos rfl]) rfl ⟨l,_,rfl,hl,h.go R (I.fT g0 I.br.toks) λ y aH iQ ct bB=>?_⟩));have gg:=g0.trans iQ;have nC:=gg.jh (nn) hl;have Ec:=gg.ka hr;have Cn:=gg.keep a _ (nn) h1 (bU (by simp));have wB:=gg.keep dx _ (nn) h2 (cP rfl);have Rf:=gg.Ji rf;have Eb:=Ec.length;refine c9 (kn nC (λ h' uw eO up=>?_) (cQ (by simp only[a_];exact u_ Eb hz rfl)));have kz:l∈ad i:=by rw[jx];exact .tail _ (.tail _ (.head _))
 refine bL nC ?_;clear nC;intro mV Fh jm og z ig;have g:aB c [l] [] aH {aH with heap:=h'}:=SameBut.grow (tk:=aH.toks) eO jm (c0 ig);have S:bF c {aH with heap:=h'}:=SameBut.br (tk:=aH.toks) ct.br eO (ct.low _ (k _ kz).1);have mi:tu [l] O aH:= λ b hb=>by obtain rfl:=m1 hb;exact .inl (k _ kz).1
 refine⟨rfl,[]++O,_,ct.jj (N:=[]) (fp:=ad i) hx dQ g S (λ b hb=>by obtain rfl:=m1 hb;exact kz) (gg.bound (by simp) (by simp) b) ⟨a,dx,l,es,m,ps,vs++[y],rfl,jx,hu,Se,xF,Oh,eO.extBut _ _ xF Cn,eO.extBut _ _ Oh wB,sO,hg,g.yJ mi (.refl O aH) Rf,by simpa using uw,(g.fj mi (.refl O aH) Ec).append (g.rep mi (.refl O aH) bB)⟩ (λ z h=>nn h) λ b hb=>.inl hb⟩
end
section
variable {c:Cx}{n:Nat}{E:VE}{ρ ρ':List Sl}{β:dH}{O:List Addr}{ad:Nat→List Addr}{s:ae}
theorem Inv.Kn(I:Inv c E β O ad ρ s){i:Nat}{x:Str}{d d':D}(hx:E.vn[i]? =some x)(dQ:ρ[i]? =some (.val d))(h:∀v,bh c.w O s.heap v d→bh c.w O s.heap v d'):Inv c E β O ad (ρ.set i (.val d')) s:=by
 have hl:i<ρ.length:=(ay.mp dQ).1;refine⟨I.ok,I.br,I.grow,I.lt,I.low,I.sub,I.n7,I.new,I.ns,I.cells,I.uA,I.ti,I.CF,I.CG,λ j y hj=>?_,I.mE,I.out⟩
 by_cases Ee:j=i
 ·subst Ee;have:=I.vars j y hj;rw[ai,dQ]at this;rw[ai,bp hl];refine mn this ?_;clear this;intro e v b r;exact⟨e,v,b,h v r⟩
 ·rw[ai,aQ (Ne.symm Ee),← ai];exact I.vars j y hj
theorem Bs{A:aK}{l:Addr}{vs:List ag}{x:ag}{xss:List (List Int)}{xs:List Int}{Q:ag→ae→Prop}{X:ag→ae→Prop}(R:Rm A 1)(hl:eC s.heap l vs.toArray)(r:a7 c.w O s.heap vs (D.jl xss))(rx:bh c.w O s.heap x (.lst (D.ints xs)))(h:Q (.int (xss.countP λ y=>decide (y=xs):Nat) s.toks) {s with toks:=s.toks+1}):wpAny (model c.prog c.w) A (call (.builtin "list.count") [.ref l,x]) Q X s:=by
 obtain⟨⟨cls,dd,data,sl⟩,n,ho,hc,zv,hd⟩:=id hl;simp only at hc hd zv;subst hc hd zv;have Nz:=xB (n:=6) (xs:=xss);have Ny:=(oe (n:=7) (xs:=xs)).lst;refine xe (Nz.1 _ _ _ _ r) λ as mw=>?_;refine xe (Ny.1 _ _ _ _ rx) λ bs mU=>?_;have qz:=Nz.2;have l₂:=Ny.2;have:=R.units;refine DR yc ⟨_,ho,rfl⟩ PySem.F.entry_list_count (PySem.F.args_list_count_2 _ _) (PySem.SeqAt.list_countAt l vs.toArray n none sl x _) ⟨ho,SeqAt.items_eqAt (vs:=vs.toArray) (by simpa using mw) mU qz.1 l₂.1 (Nat.min_comm _ _▸Pm (az 1) (eT qz.2) R.units),?_⟩;have e:vs.toArray.toList.countP (λ y=>PyData.eqv (SeqAt.readOf s.heap y) (P_ xs))=xss.countP λ y=>decide (y=xs):=by
  rw[← LF zK,← SeqAt.readsAll_map _ _ _ qz.1 mw,List.countP_map];rfl
 rw[e];exact h
theorem Ev.count{x:Str}{p apos pos:Pos}{e:Expr}{xss:List (List Int)}{xs:List Int}(cq:Ev c (n+1) E ρ (.Name x p) (.lst (D.jl xss)))(h:Ev c (n+1) E ρ e (.lst (D.ints xs)))(i9:autoParam (attributeBase (.Name x p) "count" E.env (eval (.Name x p) E.env)=eval (.Name x p) E.env) rf)(rI:autoParam (((backTo pos (starEach [e] E.env)).all (λ x=> !x.1)&&(backToKw pos (keywordEach [] E.env)).all (λ x=>x.1.isSome)
   &&decide (([e]:List Expr).length+([]:List dU).length+(if([]:List dU).isEmpty then 0 else 1)<30))=true) rf)(iO:autoParam ((apos.endLine==pos.line)=true) rf)(hp:autoParam ((starEach [e] E.env).any (·.1)=false) rf)(N_:∀env,starEach [e] env=(false,eval e env)::starEach [] env:=by intros;rfl):Ev c (n+1) E ρ (.Call (.Attribute (.Name x p) "count" apos) [e] [] pos) (.int (xss.countP λ y=>decide (y=xs):Nat)):= λ A β O ad s R I=>by
 refine kG i9 rI iO (cq.go R I λ v au qH bj bE=>?_);have nY:=bE;refine bh.n6 bE ?_;clear bE;intro l vs Qn hl NU;refine bL (id hl) λ o m ho hc xG hd=>?_;refine qc R bj m9 yc PySem.F.type_list_count ⟨_,ho,hc⟩ (λ b hb=>by injection hb with hb;subst hb;exact⟨_,ho,xG⟩) (ck.cons h .nil N_) hp λ us aH iQ ct bB=>?_;refine fy bB λ u ru=>?_;exact Bs (R.le (aG 1 n)) (iQ.jh (by simp) hl) (iQ.ka NU) ru ⟨(qH.trans iQ).toks,ct.br.toks,fq⟩
end
section
variable {c:Cx}{n:Nat}{E:VE}{ρ ρ':List Sl}{β:dH}{O Bz:List Addr}{ad:Nat→List Addr}{s:ae}
theorem C5{w:a0}{h:Heap}{a dx l C V:Addr}{es:List cT}{m:Nat}{y cY cE:Str}{vs:Array ag}{v:ag}{d:D}{xs:List Nat}(hd:d.flat=true)(SV:V≠C)(h1:h.get? a=some (ib C dx))(h2:h.get? dx=some (dictOf es m))(hl:eC h l vs)(hy:getL y es=some (some (.ref l)))(KZ:(y==cY)=false)(NS:(y==cE)=false)(hO:∀b∈O,b∈Bz∨b=a∨b=dx∨b=l)(r:bh w Bz h v (.inst V [(cY,d),(cE,.dm xs)])):bh w O h v (.inst V [(cY,d),(cE,.dm xs)]):=by
 refine bh.qE r ?_;clear r;intro a' TC rN m' C7 Hc SA e1 e2 Qx rf;refine bL hl ?_;clear hl;intro ol nl Od ux U2 zv;have Ed:C7.lookup y=none:=by
  refine eA.lookup_none rf ?_;rw[aX,KZ,aX,NS];rfl
 refine⟨a',TC,rN,m',C7,rfl,λ h=>?_,λ h=>?_,e1,e2,Qx,?_⟩
 ·rcases hO _ h with h|rfl|rfl|rfl
  ·exact Hc h
  ·rw[h1]at e1;injection e1 with e1;injection e1 with e1 _ _ _;injection e1 with e1;exact SV e1.symm
  ·rw[h2]at e1;injection e1 with e1;injection e1 with e1 _ _ _;cases e1
  ·rw[Od]at e1;injection e1 with e1;subst e1;first|(exact nn ux;done)|exact absurd ux (by simp)
 ·rcases hO _ h with h|rfl|rfl|rfl
  ·exact SA h
  ·rw[h1]at e2;injection e2 with e2;injection e2 with e2 _ _ _;cases e2
  ·rw[h2]at e2;injection e2 with e2
   have:es=rN:=by
    have:=congrArg Obj.data e2;simp only[dictOf]at this;injection this with this _
    simpa using this
   subst this;have:=Qx y;rw[hy,Ed]at this;cases this
  ·rw[Od]at e2;injection e2 with e2;subst e2;first|(exact nn ux;done)|exact absurd ux (by trivial)
 ·match C7,rf with
  |[nz,rp],rf=>
   refine⟨rf.1,bh.flat hd rf.2.1,rf.2.2.1,?_,trivial⟩;have q:=rf.2.2.2.1;refine cI q ?_;clear q;intro as ts k e has ho q;refine⟨as,ts,k,e,λ h=>?_,ho,q⟩
   rcases hO _ h with h|rfl|rfl|rfl
   ·exact has h
   ·rw[h1]at ho;injection ho with ho;injection ho with ho _ _ _;first|(exact nn ho;done)|exact absurd ho (by simp)
   ·rw[h2]at ho;injection ho with ho;injection ho with ho _ _ _;first|(exact nn ho;done)|exact absurd ho (by trivial)
   ·rw[Od]at ho;injection ho with ho;subst ho;first|(exact nn ux;done)|exact absurd ux (by trivial)
  |[],rf=>exact rf.elim
  |[_],rf=>exact rf.2.2.elim
  |_::_::_::_,rf=>exact rf.2.2.2.2.elim
theorem ba.TQ(i:Nat){x sh y sx vx cY cE:Str}{p apos pos pos' p1 p2 p3 p4 p5:Pos}{e ee:Expr}{C V f:Addr}{fd:FuncData}{body:List Stmt}{u:Option Addr}{fs:List (Str×D)}{ds:List D}{d₁ dw:D}{xs:List Nat}(h:Ev c (n+1) E (ρ.set i (.val (.inst C ((y,.lst ds)::fs)))) e d₁)(hx:E.vn[i]? =some x)(dQ:ρ[i]? =some (.own true (.kc u C fs y ds)))(hM:jS c.K C sh f=true)(zt:((y,D.lst ds)::fs).lookup sh=none)(F:nE c f fd body)(k:rL fd [sx,vx] 2=true)(ie:fd.scope.isGenerator=false)(hb:∀s v w,bF c s→iv s fd ⟨[v,w],[]⟩ [(sx,v),(vx,w)])(OH:body=[.Expr (.Call (.Attribute (.Attribute (.Name sx p1) y p2) "append" p3) [ee] [] p4) p5])(hE:∀L,Ev c n (mM fd L f [sx,vx]) [.val (.inst C ((y,.lst ds)::fs)),.val d₁] ee (.inst V [(cY,dw),(cE,.dm xs)]))(hA:attrOk c.K C y=true)(hz:ds.length≤900)(SV:V≠C)(Xb:dw.flat=true)(KZ:autoParam ((y==cY)=false) rf)(NS:autoParam ((y==cE)=false) rf)(i9:autoParam (attributeBase (.Name x p) sh E.env (eval (.Name x p) E.env)=eval (.Name x p) E.env) rf)(zu:autoParam (methodCallForm (1+0) (backTo pos (starEach [e] E.env)) (backToKw pos (keywordEach [] E.env))=true) rf)(iO:autoParam ((apos.endLine==pos.line)=true) rf)(hp:autoParam ((starEach [e] E.env).any (·.1)=false) rf)(N_:∀env,starEach [e] env=(false,eval e env)::starEach [] env:=by intros;rfl)
  (hi:autoParam (interactive E.env=false) rf) (hs:autoParam (swapsWith (.Call (.Attribute (.Name x p) sh apos) [e] [] pos) none pos'.line E.env=pure false) rf)
  (Lk:∀L,attributeBase (.Attribute (.Name sx p1) y p2) "append" (callEnvC fd L f) (eval (.Attribute (.Name sx p1) y p2) (callEnvC fd L f))=eval (.Attribute (.Name sx p1) y p2) (callEnvC fd L f):=by intros;rfl)
  (OB:∀L,((backTo p4 (starEach [ee] (callEnvC fd L f))).all (λ x=> !x.1)&&(backToKw p4 (keywordEach [] (callEnvC fd L f))).all (λ x=>x.1.isSome)
   &&decide (([ee]:List Expr).length+([]:List dU).length+(if([]:List dU).isEmpty then 0 else 1)<30))=true:=by intros;rfl)
  (K8:autoParam ((p3.endLine==p4.line)=true) rf)
  (Io:∀L,backTo p4 (starEach [ee] (callEnvC fd L f))=[(false,eval ee (callEnvC fd L f))]:=by intros;rfl)
  (Dt:∀L,interactive (callEnvC fd L f)=false:=by intros;rfl) (eO:∀L,swapsWith (.Call (.Attribute (.Attribute (.Name sx p1) y p2) "append" p3) [ee] [] p4) none p5.line (callEnvC fd L f)=pure false:=by intros;rfl):
  ba c (n+1) E ρ (.Expr (.Call (.Attribute (.Name x p) sh apos) [e] [] pos) pos') (.next (ρ.set i (.own true (.kc u C fs y (ds++[.inst V [(cY,dw),(cE,.dm xs)]]))))):= λ A β s R w0=>by
 refine iz w0 ?_;clear w0;intro O ad I;refine gW ?_ hi hs;have I':=I.freeze hx dQ (d:=.inst C ((y,.lst ds)::fs)) rfl;refine cH (I.slot hx dQ) λ v b r kk=>?_;have U9:∀a∈O.filter (λ a=>decide (a∉ad i)),a∈O∧a∉ad i:= λ a h=>by simpa using aN.mp h
 have rD:bh c.w (O.filter λ a=>decide (a∉ad i)) s.heap v (.inst C ((y,.lst ds)::fs)):=r.Bl rfl (λ a ha h=>(U9 a h).2 ha) λ a h=>(U9 a h).1;refine xe r ?_;clear r;intro a zh;refine iq zh ?_;clear zh;intro dx l es zh;refine cI zh ?_;clear zh;intro m ps vs z1 jx hu zh;refine b_ zh ?_;clear zh;intro Se xF Oh zh;refine b_ zh ?_;clear zh;intro h1 h2 sO zh;refine b_ zh ?_;clear zh;intro hg rf hl hr;subst z1;refine aa (I.read hx b ?_);refine aa (bQ ?_);unfold methodCall;rw[show([e]:List Expr).length+([]:List dU).length=1+0 from rfl,zu];have ku:¬sh=y:= λ hh=>by subst hh;simp at zt
 have Sw:fs.lookup sh=none:=by
  rw[aX,show(sh==y)=false by simpa using ku]at zt;exact zt
 refine aa (aV (show wpAny _ _ (getMethod _ _ _) _ _ _ from tE I.br h1 h2 hM (by rw[hg,if_neg ku,eA.lookup_none rf Sw]) ?_));have Dn:methodCallPos true (.Name x p) E.env apos pos=pure pos:=by unfold methodCallPos;simp[iO]
 refine aa (dg Dn ?_);refine fS (kws:=[]) (kwds:=[]) R I' (si hM) (ck.cons h .nil N_) .nil hp λ us ks aH iQ ct bB qo=>?_;refine fy bB λ w MR=>?_;refine fG qo ?_;have P0:=ct.o;refine nP (vn:=[sx,vx]) (np:=2) (vs:=[.ref a,w]) (W:=[]) (G:=[]) F k ie R (.fj (ds:=[.lit (.ref a),d₁]) P0 ⟨rfl,MR,trivial⟩) rfl (hb aH (.ref a) w P0.br) λ Bz zW cn Dy jU ic z z=>?_;have QI:=iQ.trans Dy;have OU:=QI.keep a _ (by simp) h1 (bU (by simp));have OS:=QI.keep dx _ (by simp) h2 (cP rfl);have F3:=QI.jh (by simp) hl;rw[OH];refine lX (gW (oN (Lk _) (OB _) K8 (Io _) ?_) (Dt _) (eO _));obtain⟨VG,TL,Q9⟩:∃v,Bound cn.heap (callEnvC fd aH.heap.objs.size f) sx v∧bh c.w Bz cn.heap v (.lit (.ref a)):=by
  have:=jU.vars 0 sx rfl;refine mn this ?_;clear this;intro z v b r;exact⟨v,b,r⟩
 subst Q9;have g0:aB c [] [] cn {cn with toks:=cn.toks+1}:=(aB.refl ..).toks;refine gX (jU.read (i:=0) rfl TL (jP jU.br OU OS hA (by rw[hg,if_pos rfl]) rfl ⟨l,_,rfl,F3,?_⟩));have vf:nL (O.filter λ a=>decide (a∉ad i)) Bz aH:= λ b hb=>jU.new b hb;have J0:Inv c (mM fd aH.heap.objs.size f [sx,vx]) _ Bz zW [.val (.inst C ((y,.lst ds)::fs)),.val d₁] cn:=jU.Kn (i:=0) rfl rfl λ v hv=>by
  subst hv;exact Dy.rep (λ z=>nn) vf (iQ.rep0 rD)
 refine(hE aH.heap.objs.size).go R.deeper (J0.fT g0 J0.br.toks) λ Ms d9 Td i4 Q8=>?_;have gg:=(QI.trans g0).trans Td;have nC:=gg.jh (nn) hl;have Ec:=gg.ka hr;have Cn:=gg.keep a _ (nn) h1 (bU (by simp));have wB:=gg.keep dx _ (nn) h2 (cP rfl);have Rf:=gg.Ji rf;have Eb:=Ec.length;have kz:l∈ad i:=by rw[jx];exact .tail _ (.tail _ (.head _))
 have CX:bh c.w O d9.heap Ms (.inst V [(cY,dw),(cE,.dm xs)]):=C5 Xb SV Cn wB nC (by rw[hg,if_pos rfl]) KZ NS (λ b hb=>by
  by_cases Qz:b∈ad i
  ·rw[jx]at Qz;refine .inr ?_
   rcases aD.mp Qz with h|h
   ·exact .inl h
   rcases aD.mp h with h|h
   ·exact .inr (.inl h)
   ·exact .inr (.inr (aj.mp h))
  ·exact .inl (ic b (ao _ (aN.mpr ⟨hb,by simpa using Qz⟩)))) Q8
 refine c9 (kn nC (λ h' uw eO up=>?_) (cQ (by simp only[a_];exact u_ Eb hz rfl)));refine bL nC ?_;clear nC;intro mV Fh jm og z ig;have g:aB c [l] [] d9 {d9 with heap:=h'}:=SameBut.grow (tk:=d9.toks) eO jm (c0 ig);have S:bF c {d9 with heap:=h'}:=SameBut.br (tk:=d9.toks) i4.br eO (I.low _ (kk _ kz).1);have mi:tu [l] O d9:= λ b hb=>by obtain rfl:=m1 hb;exact .inl (kk _ kz).1
 have gA:aB c [l] [] s {d9 with heap:=h'}:=(gg.mono (λ z=>nn) λ z=>nn).trans g;refine qU ⟨rfl,[]++O,_,I.jj (N:=[]) (fp:=ad i) hx dQ gA S (λ b hb=>by obtain rfl:=m1 hb;exact kz) b ⟨a,dx,l,es,m,ps,vs++[Ms],rfl,jx,hu,Se,xF,Oh,eO.extBut _ _ xF Cn,eO.extBut _ _ Oh wB,sO,hg,g.yJ mi (.refl O d9) Rf,by simpa using uw,(g.fj mi (.refl O d9) Ec).append (g.rep mi (.refl O d9) CX)⟩ (λ z=>nn) λ b hb=>.inl hb⟩
end
section
variable {c:Cx}{n:Nat}{E:VE}{ρ ρ' ρ₁ ρ₂:List Sl}
theorem cx.set{i:Nat}{sl:Sl}(h:ρ.getD i .no=.no):cx ρ (ρ.set i sl):= λ j=>by
 by_cases hj:j=i
 ·subst hj;exact .inl h
 ·rw[ai (l:=ρ.set i sl),aQ (Ne.symm hj),← ai];exact .inr rfl
theorem cx.HF{i j:Nat}{sl T_:Sl}(h:ρ.getD i .no=.no)(h':ρ.getD j .no=.no):cx ρ ((ρ.set i sl).set j T_):= λ k=>by
 rcases cx.set (sl:=sl) h k with e|e
 ·exact .inl e
 ·by_cases hk:k=j
  ·subst hk;exact .inl h'
  ·rw[ai (l:=(ρ.set i sl).set j T_),aQ (Ne.symm hk),← ai];exact .inr e
theorem Ex.weak{ss:List Stmt}(h:Ex c n E ρ ss (.next ρ₁))(hw:cx ρ₂ ρ₁):Ex c n E ρ ss (.next ρ₂):= λ A β s R I=>wm (h A β s R I) λ f s' q=>by
 refine Es q ?_;clear q;intro z1 O ad I';subst z1;refine cW (I'.weaken hw) λ ad' P1 z=>?_;exact⟨rfl,O,ad',P1⟩
theorem Ex.JK{ss:List Stmt}{out:Out}(h:Ex c n E ρ₂ ss out)(hw:cx ρ₂ ρ₁):Ex c n E ρ₁ ss out:= λ A β s R w0=>by
 refine iz w0 ?_;clear w0;intro O ad I;refine cW (I.weaken hw) λ ad' P1 z=>?_;exact h A β s R ⟨O,ad',P1⟩
theorem Lp.each(i:Nat){x:Str}{p:Pos}{body:List Stmt}(hx:E.vn[i]? =some x)(hi:i<E.k)(dQ:ρ[i]? =some .no):∀(ds:List D),(∀d∈ds,Ex c n E (ρ.set i (.val d)) body (.next (ρ.set i (.val d))))→Lp c n E ρ (.Name x p) body ds (.next ρ):=by
 intro w
 induction w with
 |nil=>
  intro z;exact Lp.nil
 |cons d ds ih=>
  intro h;exact Lp.step (ju.name i hx hi (ay.mp dQ).1) ((h d (.head _)).weak (cx.set (by rw[ai,dQ];rfl))) (ih λ d' hd=>h d' (.tail _ hd))
theorem El.nm{x:Str}{p:Pos}{d:D}{K:List Sl→Prop}(i:Nat)(hx:E.vn[i]? =some x)(hi:i<E.k)(dQ:ρ[i]? =some .no)(h:K (ρ.set i (.val d))):El c n E ρ (.Name x p) [] d true K:=
 ⟨_,ju.name i hx hi (ay.mp dQ).1,cx.set (by rw[ai,dQ];rfl),Hh.nil,λ z=>h⟩
theorem El.Fe{x:Str}{p:Pos}{d:D}{e:Expr}{b:Bool}{K:List Sl→Prop}(i:Nat)(hx:E.vn[i]? =some x)(hi:i<E.k)(dQ:ρ[i]? =some .no)(t:Tr c n E (ρ.set i (.val d)) e b)(h:b=true→K (ρ.set i (.val d))):El c n E ρ (.Name x p) [e] d b K:=
 ⟨_,ju.name i hx hi (ay.mp dQ).1,cx.set (by rw[ai,dQ];rfl),Hh.one t,h⟩
theorem CQ{x y:Str}{p p' q:Pos}{k:Nat}{d d':D}(i j:Nat)(hx:E.vn[i]? =some x)(hi:i<E.k)(dQ:i<ρ.length)(hy:E.vn[j]? =some y)(hj:j<E.k)(uo:j<ρ.length):ju c n E ρ (.Tuple [.Name x p,.Name y p'] k q) (.tup [d,d']) ((ρ.set i (.val d)).set j (.val d')):=
 ju.tup (kU.cons (ju.name i hx hi dQ) (kU.cons (ju.name j hy hj (by rw[jt];exact uo)) .nil))
theorem El.I9{x y:Str}{p p' q:Pos}{k:Nat}{d d':D}{e:Expr}{b:Bool}{K:List Sl→Prop}(i j:Nat)(hx:E.vn[i]? =some x)(hi:i<E.k)(dQ:ρ[i]? =some .no)(hy:E.vn[j]? =some y)(hj:j<E.k)(uo:ρ[j]? =some .no)(t:Tr c n E ((ρ.set i (.val d)).set j (.val d')) e b)(h:b=true→K ((ρ.set i (.val d)).set j (.val d'))):El c n E ρ (.Tuple [.Name x p,.Name y p'] k q) [e] (.tup [d,d']) b K:=
 ⟨_,CQ i j hx hi (ay.mp dQ).1 hy hj (ay.mp uo).1,cx.HF (by rw[ai,dQ];rfl) (by rw[ai,uo];rfl),Hh.one t,h⟩
end
section
variable {c:Cx}{n:Nat}{E:VE}{ρ ρ' ρ₁ ρ₂:List Sl}{s:ae}
theorem gz.lst{es:List Expr}{pos:Pos}{ds:List D}(h:ck c n E ρ es ds)(hl:autoParam (jv ds.length 1000=true) rf):gz c n E ρ (.List es pos) (.lst ds):= λ A β O ad s R I=>
 wpAny_List (wm (h.2 A β O ad s pos R I) λ vs au q=>⟨cQ (by rw[q.2.2.length];exact cK hl),[au.heap.objs.size],q.1.trans aB.push,q.2.1.push,⟨au.heap.objs.size,vs,rfl,rfl,⟨_,0,av _ rfl,rfl,rfl,rfl⟩,
  (aB.push (c:=c) (G:=[]) (tk:=au.toks)).fj (λ z=>nn) (λ a h=>(aC.mp h).elim (λ h=>.inr (by rw[aj]at h;exact h▸az _)) .inl) q.2.2⟩,λ a ha=>by
   rw[aj]at ha;subst ha;exact⟨q.1.size,by show _<(au.heap.push _).objs.size;rw[aW];exact aS _⟩⟩)
theorem C9(l:Addr)(items:Array ag)(n:Nat)(sl:Array (Option ag))(y:ag)(hy:items[items.size-1]? =some y)(zk:items.size≤sizeLine):
  Meets (Builtin.«list.pop» ⟨[.ref l],[]⟩)
   (λ z R s=>s.heap.get? l=some {cls:=.type "list",dict:=none,data:=.seq items n,slots:=sl}∧R (.ok (.ret y)) {s with heap:=s.heap.update l (aP λ xs=>xs.eraseIdxIfInBounds (items.size-1))}):=
 .of_wp λ prog w A R s h=>by
  obtain⟨hp,g,d,tk,os⟩:=s;refine xa h ?_;clear h;intro hl h;have Dn:0<items.size:=by
   rcases Nat.eq_zero_or_pos items.size with h0|h0
   ·simp[h0]at hy
   ·exact h0
  have ku:¬items.isEmpty=true:=by
   intro he;have:items.size=0:=by simpa using he
   exact T3 Dn this
  have hk:seqIndex? (-1) items.size=some (items.size-1):=by
   rw[MeetsSeq.seqIndex_neg (by trivial) (by lia)];exact congrArg some (V4 _)
  wp_walk using iX hl
  simp only[hk,hy,nt,jf];have sO:(items.eraseIdxIfInBounds (items.size-1)).size≤sizeLine+1:=af (MeetsSeq.size_erased items _) (eT zk)
  wp_walk using(ff hl rfl (hz:=zk) (_hz':=sO)),iX hl
  exact⟨_,rfl,h⟩
theorem pop_list{A:aK}{l:Addr}{vs:List ag}{y:ag}{Q:ag→ae→Prop}{X:ag→ae→Prop}(hl:eC s.heap l (vs++[y]).toArray)(hz:vs.length≤1000)(h:∀h',eC h' l vs.toArray→c7 l s.heap h'→Q y {s with heap:=h'}):
  wpAny (model c.prog c.w) A (call (.builtin "list.pop") [.ref l]) Q X s:=by
 obtain⟨⟨cls,dd,data,sl⟩,n,ho,hc,zv,hd⟩:=id hl;simp only at hc hd zv;subst hc hd zv;have e:(vs++[y]).toArray.eraseIdxIfInBounds ((vs++[y]).toArray.size-1)=vs.toArray:=by
  apply Array.ext';simp[Array.eraseIdxIfInBounds,List.eraseIdx_append_of_length_le]
 refine DR Az ⟨_,ho,rfl⟩ PySem.F.entry_list_pop (PySem.F.args_list_pop_1 _) (C9 l (vs++[y]).toArray n sl y (by simp) (by simp only[a_,aY,aJ,dp];rw[cG];exact L4 hz rfl)) ⟨ho,h _ ?_ (bC ..)⟩;refine xe (x4 (o:={cls:=.type "list",dict:=none,data:=.seq (vs++[y]).toArray n,slots:=sl}) rfl (λ xs=>xs.eraseIdxIfInBounds ((vs++[y]).toArray.size-1))) λ n' iP=>?_;refine⟨_,n',b0 _ ho (s5 iP),(z7 ..).trans rfl,rfl,?_⟩;rw[iP,e]
theorem ba.Rk(i:Nat){x:Str}{p apos pos pos' nT:Pos}{elts:List Expr}{k:Nat}{ds es:List D}(hx:E.vn[i]? =some x)(dQ:ρ[i]? =some (.own true (.lst (ds++[.tup es]))))(hz:ds.length≤900)(t:ju c n E (ρ.set i (.own true (.lst ds))) (.Tuple elts k nT) (.tup es) ρ')(i9:autoParam (attributeBase (.Name x p) "pop" E.env (eval (.Name x p) E.env)=eval (.Name x p) E.env) rf)(rI:autoParam (((backTo pos (starEach [] E.env)).all (λ x=> !x.1)&&(backToKw pos (keywordEach [] E.env)).all (λ x=>x.1.isSome)
   &&decide (([]:List Expr).length+([]:List dU).length+(if([]:List dU).isEmpty then 0 else 1)<30))=true) rf)(iO:autoParam ((apos.endLine==pos.line)=true) rf)(hs:autoParam (swapsWithSole [.Tuple elts k nT] (.Call (.Attribute (.Name x p) "pop" apos) [] [] pos) pos'.line E.env=pure false) rf)(hw:autoParam (swappedStores [.Tuple elts k nT] (.Call (.Attribute (.Name x p) "pop" apos) [] [] pos) E.env=pure none) rf):
  ba c n E ρ (.Assign [.Tuple elts k nT] (.Call (.Attribute (.Name x p) "pop" apos) [] [] pos) pos') (.next ρ'):= λ A β s R w0=>by
 refine iz w0 ?_;clear w0;intro O ad I;refine Assign_Tuple ?_ hs hw;refine kG i9 rI iO ?_;refine cH (I.slot hx dQ) λ v b r kk=>?_;refine I.read hx b ?_;refine bL r ?_;clear r;intro a vs z1 jx hl hr;subst z1;refine bL (id hl) λ o m ho hc xG hd=>?_;refine qc R I m9 Az PySem.F.type_list_pop ⟨_,ho,hc⟩ (λ b hb=>by injection hb with hb;subst hb;exact⟨_,ho,xG⟩) .nil rfl λ us aH iQ ct bB=>?_;have R0:us=[]:=by
  have:=bB.length;simpa using this
 subst R0;have zp:=iQ.jh (nn) hl;have qF:=iQ.ka hr;have hlen:=qF.length;obtain⟨ws,y,rfl⟩:∃ws y,vs=ws++[y]:=⟨vs.dropLast,vs.getLast (by intro e;subst e;simp at hlen),(List.dropLast_concat_getLast _).symm⟩;have wx:ws.length=ds.length:=by simpa using hlen
 have hy:bh c.w O aH.heap y (.tup es):=by
  refine cW (qF.at (i:=ds.length) (d:=.tup es) (by simp)) λ v' FW rv=>?_;rw[← wx]at FW;simp at FW;subst FW;exact rv
 have RV:a7 c.w O aH.heap ws ds:=by
  have:∀{ws:List ag} {ds:List D} {y:ag} {d:D},ws.length=ds.length→a7 c.w O aH.heap (ws++[y]) (ds++[d])→a7 c.w O aH.heap ws ds:=by
   intro ws
   induction ws with
   |nil=>intro ds y d hl z;cases ds with|nil=>trivial|cons _ _=>cases hl
   |cons w ws ih=>
    intro ds y d hl h;cases ds with
    |nil=>cases hl
    |cons e ds=>
     exact⟨h.1,ih (by simpa using hl) h.2⟩
  exact this wx qF
 refine pop_list zp (by exact u_ wx hz rfl) λ h' nC An=>?_;have kz:a∈ad i:=by rw[jx];exact .head _
 refine bL zp ?_;clear zp;intro mV Fh jm og z ig;have g:aB c [a] [] aH {aH with heap:=h'}:=SameBut.grow (tk:=aH.toks) An jm (c0 ig);have S:bF c {aH with heap:=h'}:=SameBut.br (tk:=aH.toks) ct.br An (ct.low _ (kk _ kz).1);have mi:tu [a] O aH:= λ b hb=>by obtain rfl:=m1 hb;exact .inl (kk _ kz).1
 have jU:=ct.jj (N:=[]) (q':=.lst ds) (fp:=ad i) hx dQ g S (λ b hb=>by obtain rfl:=m1 hb;exact kz) (iQ.bound (by simp) (by simp) b) ⟨a,ws,rfl,jx,nC,g.fj mi (.refl O aH) RV⟩ (λ z h=>nn h) λ b hb=>.inl hb;refine wm (t A β _ _ _ y R jU (g.rep mi (.refl O aH) hy)) λ z s' q=>?_;refine ez q ?_;clear q;intro ad' W I' z;exact⟨rfl,_,ad',I'⟩
end
theorem CZ:typeLookup (.type "list_reverseiterator") (dunder "add")=pure none:=by kernel_rfl
theorem AP:typeLookup (.type "list_reverseiterator") (dunderR "add")=pure none:=by kernel_rfl
theorem H7:typeLookup (.type "list") (dunderI "add")=pure (some (.builtin "list.__iadd__")):=by kernel_rfl
theorem KO:isSeqSlot (some (.builtin "list.__iadd__"))=true:=by decide +kernel
theorem CY:fillsNumberSlot (.type "list_reverseiterator") "add"=pure false:=by
 simp only[fillsNumberSlot,CZ,AP,pure_bind];rfl
section
variable {M:qS}{A:aK}{E:ag→ae→Prop}{s:ae}
theorem EX{a b:ag}{Q:Option ag→ae→Prop}(ha:s.TypeIs a "list")(hb:s.TypeIs b "list_reverseiterator")(h:Q none s):wpAny M A (binaryOp1 "add" a b) Q E s:=by
 exact aa (fZ ha (aa (fZ hb (aa (dg PySem.noFill_list_add (wN (by trivial) (aa (dg CY (wF (wF (wF (vW (wF (wF (wF (wF (ah h)))))))))))))))))
theorem rF{a b:ag}{Q:ag→ae→Prop}(ha:s.TypeIs a "list")(hb:s.TypeIs b "list_reverseiterator")(hc:wpAny M A (call (.builtin "list.__iadd__") [a,b]) Q E s):wpAny M A (inplaceOp .Add a b) Q E s:=by
 have W8:fillsInplaceSlot (.type "list") "add" (Operator.Add==.Add)=pure false:=by
  show(typeLookup (.type "list") (dunderI "add")>>= λ fi=>pure (fi.isSome&& !isSeqSlot fi))=pure false;rfl
 have Wz:seqSlot? (.type "list") (dunderI "add")=pure (some (.builtin "list.__iadd__")):=PySem.seqSlot_of H7 KO;exact aV (aa (fZ ha (aa (dg W8 (wF (aa (EX ha hb (aa (dg Wz (aa (gm hc)))))))))))
end
theorem qy:mroOf (.type "reversed")=pure [.type "reversed",.type "object"]:=by kernel_rfl
theorem oQ:typeLookup (.type "reversed") "__new__"=pure (some (.builtin "reversed.__new__")):=by kernel_rfl
theorem vE:Bind.madeBy (.type "reversed")=pure (some "reversed.__new__"):=madeBy_type qy oQ (by decide +kernel)
theorem qg(a:ag):checkTypeCall "reversed" ⟨[a],[]⟩=pure ():=by kernel_rfl
theorem ry(a:ag):checkBuiltinCall "reversed.__new__" ⟨[.type "reversed",a],[]⟩=pure ():=by kernel_rfl
theorem pI:entryFor table "reversed.__new__"=some Builtin.«reversed.__new__»:=entryFor_of_tree (by kernel_rfl)
theorem Hz:isSubtype (.type "list_reverseiterator") (.type "reversed")=pure false:=by kernel_rfl
theorem w_:isSubtype (.type "reversed") (.type "reversed")=pure true:=by kernel_rfl
theorem px:plainId "reversed.__new__"=true:=by decide +kernel
theorem fM:Slot "list" "__reversed__" "list.__reversed__":=
 .of (owner:="list") (n:="__reversed__") (by kernel_rfl) (by decide +kernel) (by decide +kernel) (by decide +kernel)
  (by first|exact .inl (by decide +kernel)|exact .inr (by decide +kernel)) (by kernel_rfl)
theorem om:entryFor table "list.__reversed__"=some Builtin.«list.__reversed__»:=z6 (by kernel_rfl)
noncomputable abbrev sD(h:Heap)(I l:Addr)(i:Int):Prop:=h.get? I=some {cls:=.type "list_reverseiterator",data:=.fields #[.ref l,rawInt i]}
section
variable {prog:Program}{w:a0}{A:aK}{E:ag→ae→Prop}{s:ae}
theorem C_(l:Addr)(items:Array ag)(n:Nat)(sl:Array (Option ag)):
  Meets (Builtin.«list.__reversed__» ⟨[.ref l],[]⟩) (λ z R s=>s.heap.get? l=some {cls:=.type "list",dict:=none,data:=.seq items n,slots:=sl}∧
   R (.ok (.ret (.ref s.heap.objs.size))) {s with heap:=s.heap.push {cls:=.type "list_reverseiterator",data:=.fields #[.ref l,rawInt ((items.size:Int) -1)]}}):=
 .of_wp λ prog w A R s h=>by
  obtain⟨hp,g,d,tk,os⟩:=s;obtain⟨hl,h⟩:=h
  wp_walk using iX hl
  exact⟨_,rfl,h⟩
theorem oS(a:ag):argsOk "list.__reversed__" ⟨[a],[]⟩:=by
 kernel_rfl
set_option maxHeartbeats 1000000 in
theorem C4(l:Addr)(items:Array ag)(n:Nat)(sl:Array (Option ag)):
  Meets (Builtin.«reversed.__new__» ⟨[.type "reversed",.ref l],[]⟩) (λ z R s=>s.heap.get? l=some {cls:=.type "list",dict:=none,data:=.seq items n,slots:=sl}∧
   R (.ok (.ret (.ref s.heap.objs.size))) {s with heap:=s.heap.push {cls:=.type "list_reverseiterator",data:=.fields #[.ref l,rawInt ((items.size:Int) -1)]}}):=
 .of_wp λ prog w A R s h=>by
  obtain⟨hp,g,d,tk,os⟩:=s;obtain⟨hl,h⟩:=h;have ic:=w_;have Ed:=fM.lookup;have Yx:=fM.bind (.ref l)
  wp_walk using iX hl
  have hT:i_ ⟨hp,g,d,tk,os⟩ (.ref l) "list":=⟨_,hl,rfl⟩;refine bc (f7 (R:=wants (λ v s'=>R (.ok (.ret v)) s') λ e s'=>R (.error e) s') fM.plain om (fM.check _ _ _ _ _ _ _ _ hT (oS _) (C_ l items n sl prog w A.in1 _ _ ⟨hl,h⟩))) λ r s' hr=>?_;cases r with
  |error e=>exact hr
  |ok fl=>
   cases fl with
   |ret v=>exact ah ⟨v,rfl,hr⟩
   |_=>exact hr.elim
end
section
variable {prog:Program}{w:a0}{A:aK}{E:ag→ae→Prop}{s:ae}
set_option maxHeartbeats 1000000 in
theorem vJ{l:Addr}{items:Array ag}{Q:ag→ae→Prop}(hl:eC s.heap l items)(h:Q (.ref s.heap.objs.size) {s with heap:=s.heap.push {cls:=.type "list_reverseiterator",data:=.fields #[.ref l,rawInt ((items.size:Int) -1)]}}):wpAny (model prog w) A (call (.type "reversed") [.ref l]) Q E s:=by
 obtain⟨⟨cls,dd,data,sl⟩,n,ho,hc,zv,hd⟩:=id hl;simp only at hc hd zv;subst hc hd zv;have Sf:=qy;have Oi:=vE;refine lW (iK ?_);show wpAny _ _ (callAny (.type "reversed") _) _ _ _;refine ah ⟨Code.quiet_builtin _ (by decide +kernel),bx yf ?_⟩;rw[Er (weight_type_call_type "reversed" [.ref l] []) (units_type_call_type "reversed" [.ref l] [])];have h1:(gE "reversed"==gE "type")=false:=by decide +kernel
 have h2:((Manifest.find? "reversed").bind (·.mro.findSome? λ t=>(Manifest.find? t).bind λ b=>if b.noNew then some true else if b.attrs.any (·.1=="__new__")then some false else none)).getD false=false:=by decide +kernel
 have Xj:=qg (.ref l)
 repeat (any_goals (first|assumption|wp_step))
 refine bc (f7 (R:=wants (λ obj au=>obj=.ref s.heap.objs.size∧au={s with heap:=s.heap.push {cls:=.type "list_reverseiterator",data:=.fields #[.ref l,rawInt ((items.size:Int) -1)]}}) E) px pI (dg (ry (.ref l)) (C4 l items n sl prog w A.in1 _ s ⟨ho,rfl,rfl⟩))) λ r au hr=>?_;cases r with
 |error e=>exact hr
 |ok fl=>
  cases fl with
  |ret obj=>
   obtain⟨rfl,rfl⟩:=hr;have hT:i_ {s with heap:=s.heap.push {cls:=.type "list_reverseiterator",data:=.fields #[.ref l,rawInt ((items.size:Int) -1)]}} (.ref s.heap.objs.size) "list_reverseiterator":=⟨_,av _ rfl,rfl⟩;have ic:=Hz
   repeat (any_goals (first|assumption|wp_step))
  |_=>exact hr.elim
end
theorem iN:Slot "list_reverseiterator" "__next__" "list_reverseiterator.__next__":=
 .of (owner:="list_reverseiterator") (n:="__next__") (by rw[typeLookup_type,builtinLookup_eq_fast];kernel_rfl) (by decide +kernel) (by decide +kernel) (by decide +kernel)
  (by first|exact .inl (by decide +kernel)|exact .inr (by decide +kernel)) (by rw[isSubtype_type];kernel_rfl)
theorem oj:entryFor table "list_reverseiterator.__next__"=some Builtin.«list_reverseiterator.__next__»:=z6 (by kernel_rfl)
theorem pe(a:ag):argsOk "list_reverseiterator.__next__" ⟨[a],[]⟩:=by
 kernel_rfl
section
variable {prog:Program}{w:a0}{A:aK}{E:ag→ae→Prop}{s:ae}
theorem EY{I l:Addr}{i:Int}{items:Array ag}{x:ag}{Q:Option ag→ae→Prop}(he:sD s.heap I l i)(hl:s.heap.IsList l items)(h0:0≤i)(hx:items[i.toNat]? =some x)(hQ:∀h',sD h' I l (i-1)→c7 I s.heap h'→Q (some x) {s with heap:=h'}):wpAny (model prog w) A (pyNext (.ref I)) Q E s:=by
 have hT:s.TypeIs (.ref I) "list_reverseiterator":=⟨_,he,rfl⟩;refine nN hl ?_;clear hl;intro ol Od z nl U2;refine aa (gq (cC (name:=d_ "__next__") hT iN (bO iN hT oj ?_ (pe _))));show wpAny _ _ (field (.ref I) 1>>=_) _ _ _;refine aa (kE he rfl (x:=rawInt i) rfl ?_);show wpAny _ _ (if i<0 then _ else _) _ _ _;refine wN (by lia) ?_;show wpAny _ _ (field (.ref I) 0>>=_) _ _ s;refine aa (kE he rfl (x:=.ref l) rfl ?_);show wpAny _ _ (seqItems? (.ref l)>>=_) _ _ s;refine aa (gQ Od U2 ?_);simp only[hx];refine aa (iw he (by exact az _) λ h' Lc eO=>?_);exact ah ⟨x,rfl,ah (hQ _ Lc eO)⟩
theorem HL{I l:Addr}{i:Int}{Q:Option ag→ae→Prop}(hh:A.handled=none)(he:sD s.heap I l i)(h0:i<0)(hQ:∀h',(∀b o,s.heap.get? b=some o→h'.get? b=some o)→Q none {s with heap:=h'}):wpAny (model prog w) A (pyNext (.ref I)) Q E s:=by
 have hT:s.TypeIs (.ref I) "list_reverseiterator":=⟨_,he,rfl⟩;refine aa (gq (cC (name:=d_ "__next__") hT iN (bO iN hT oj ?_ (pe _))));show wpAny _ _ (field (.ref I) 1>>=_) _ _ _;refine aa (kE he rfl (x:=rawInt i) rfl ?_);show wpAny _ _ (if i<0 then _ else _) _ _ _;refine wP h0 ?_;refine aa (gm ?_);show wpAny _ _ ((newExc (.type "StopIteration") []>>=_)>>=_) _ _ _;refine aa (aa ?_);refine aa (bo ?_ (by exact bS _));refine aa (m:=firstArgMember _ _) (dg (a:=di) (by first|rfl|(simp only[firstArgMember];rfl)) ?_);refine bo ?_ (by size_fits);refine aa (oU ?_);rw[show A.in1.handled=none from hh];refine aa (ah (sU ?_));refine aa (cg (T:="StopIteration") (b:=true) ⟨_,av _ rfl,rfl⟩ nH ?_);exact ah (hQ _ λ b o hb=>aA _ (aA _ hb))
theorem o8:Slot "list_reverseiterator" "__iter__" "list_reverseiterator.__iter__":=
 .of (owner:="list_reverseiterator") (n:="__iter__") (by rw[typeLookup_type,builtinLookup_eq_fast];kernel_rfl) (by decide +kernel) (by decide +kernel) (by decide +kernel)
  (by first|exact .inl (by decide +kernel)|exact .inr (by decide +kernel)) (by rw[isSubtype_type];kernel_rfl)
theorem uF:entryFor table "list_reverseiterator.__iter__"=some Builtin.«dict_keyiterator.__iter__»:=
 DV (id':="dict_keyiterator.__iter__") (by kernel_rfl) (by first|rfl|decide +kernel|(simp +decide [sH])) (by decide +kernel) (by kernel_rfl)
theorem vK(a:ag):argsOk "list_reverseiterator.__iter__" ⟨[a],[]⟩:=by
 kernel_rfl
theorem yG{I l:Addr}{i:Int}{Q:ag→ae→Prop}(he:sD s.heap I l i)(h:Q (.ref I) s):wpAny (model prog w) A (pyIter (.ref I)) Q E s:=by
 have hT:s.TypeIs (.ref I) "list_reverseiterator":=⟨_,he,rfl⟩;refine oM hT o8 (bO o8 hT uF ?_ (vK _));show wpAny _ _ (ret (.ref I)) _ _ s;exact ah ⟨_,rfl,"list_reverseiterator",_,hT,iN.lookup,h⟩
end
section
variable {c:Cx}
noncomputable def vC(ds:List D)(i:Int):List D:=(ds.take (i+1).toNat).reverse
theorem EZ{ds:List D}{i:Int}(h:i<0):vC ds i=[]:=by
 unfold vC;rw[show(i+1).toNat=0 by lia];rfl
theorem v_{ds:List D}{i:Int}{d:D}(h:0≤i)(hd:ds[i.toNat]? =some d):vC ds i=d::vC ds (i-1):=by
 unfold vC;rw[VL (show 0≤i by assumption),VK i,List.take_add_one,hd];simp
theorem B8{l:Addr}{i:Int}:qB {cls:=.type "list_reverseiterator",data:=.fields #[.ref l,rawInt i]:Obj}=false:=bU (by simp)
theorem nM.rev{A:aK}{tg:Expr}{I ax:Addr}{k:Snap}{vs:List ag}{ds₀:List D}(hh:A.handled=none)(hl:k.s.heap.IsList ax vs.toArray)(hx:ax∉k.O)(hr:a7 c.w k.O k.s.heap vs ds₀)(hI:I∈k.O)(hK:I∉k.K)(ht:∀v,letOwnedTupleGo tg (.ref I) v=pure ()):
  nM c A tg (.ref I) k [] (λ F ds s=>F=[I]∧∃i:Int,sD s.heap I ax i∧i<ds₀.length∧ds=vC ds₀ i) where
 det:= λ h h'=>h.1.trans h'.1.symm
 frame:=by
  rintro F V G' ds s s' ⟨rfl,i,hi,gy,e⟩ x S hV _
  exact⟨rfl,i,x.keep _ _ (λ h=>hV _ h (.head _)) hi B8,gy,e⟩
 next:= λ {F ds d s} S hs hB w0=>by
  refine xa w0 ?_;clear w0;intro hF zh;refine cH zh ?_;clear zh;intro i fU gy e;subst hF;have h0:0≤i:=by
   rcases uZ i 0 with h|h
   ·rw[EZ h]at e;cases e
   ·exact h
  have iP:i.toNat<ds₀.length:=T8 (by assumption) (by assumption);have e2:=v_ (ds:=ds₀) h0 (aq iP);rw[e2]at e;injection e with e3 e4
  refine cW (hr.at (aq iP)) λ v hv r=>?_;refine EY fU (hs.isList hx hl) h0 (by simpa using hv) λ h' mX eO=>⟨v,rfl,?_⟩;have g:aB c [I] [] s {s with heap:=h'}:=SameBut.grow (tk:=s.toks) eO fU B8;rw[ht];exact ah ⟨g,SameBut.br (tk:=s.toks) S eO (hB I (.head _)),[I],rU.refl _ _ _,(hs.step g λ a h=>by obtain rfl:=m1 h;exact⟨.inl hI,hK⟩).nice (e3▸r),rfl,i-1,mX,by lia,e4⟩
 done:= λ {F s} S hs hB w0=>by
  refine xa w0 ?_;clear w0;intro hF zh;refine cH zh ?_;clear zh;intro i fU gy e;subst hF;have h0:i<0:=by
   rcases uZ i 0 with h|h
   ·exact h
   ·have iP:i.toNat<ds₀.length:=T8 (by assumption) (by assumption);rw[v_ h (aq iP)]at e;cases e
  refine c9 (HL hh fU h0 λ h' hk up=>⟨rfl,(aB.step (tk:=s.toks) up.heap hk).mono (λ z=>nn) (λ z=>nn),S.step (tk:=s.toks) up.heap hk⟩)
 self:= λ {A' F ds s} S w0=>by refine mn w0 ?_;clear w0;intro z i fU z;exact yG fU ⟨rfl,rfl⟩
end
theorem ER:typeLookup (.type "list_reverseiterator") "__len__"=pure none:=by kernel_rfl
theorem HH:typeLookup (.type "list_reverseiterator") "__length_hint__"=pure (some (.builtin "list_reverseiterator.__length_hint__")):=by kernel_rfl
theorem yp:isSubtype (.type "list_reverseiterator") (.type "list_reverseiterator")=pure true:=by kernel_rfl
theorem mQ{h:Heap}{a:Addr}{vs:Array ag}(f:Array ag→Array ag)(hl:eC h a vs):eC (h.update a (aP f)) a (f vs):=by
 obtain⟨⟨cls,dd,data,sl⟩,n,ho,hc,zv,hd⟩:=hl;simp only at hc hd zv;subst hc hd zv;refine xe (x4 (o:={cls:=.type "list",dict:=none,data:=.seq vs n,slots:=sl}) rfl f) λ n' iP=>?_;exact⟨_,n',b0 _ ho (s5 iP),(z7 ..).trans rfl,rfl,iP⟩
section
variable {c:Cx}{s:ae}{A:aK}{tg:Expr}{it:ag}{k:Snap}{F F':List Addr}{G:List Nat}{P:List Addr→List D→ae→Prop}
theorem AR{I l:Addr}{i:Int}(he:sD s.heap I l i):wpAny (model c.prog c.w) A (gv (.ref I)) (λ b k_=>b=false∧k_=s) aZ s:=by
 have hT:s.TypeIs (.ref I) "list_reverseiterator":=⟨_,he,rfl⟩;refine aa (iJ hT ER ?_);show wpAny _ A (specialOf (dR I) (d_ "__length_hint__")>>=_) _ _ _;refine aa (iJ hT HH ?_);have Uw:splitId "list_reverseiterator.__length_hint__"=some ("list_reverseiterator","__length_hint__"):=by kernel_rfl
 dsimp only;rw[Uw];refine aa (cg (T:="list_reverseiterator") hT yp ?_);refine wF ?_;exact ah ⟨rfl,rfl⟩
theorem xK{S:Addr}(zz:c.B≤S)(zy:S∈k.O∨k.s.heap.objs.size≤S)(Eh:S∉k.K)(res:ag):∀(ds eL:List D) (vs:List ag) (F:List Addr) (s:ae),Wk c A.in1 tg it k F G P→S∉F→bF c s→cA c k s→P F ds s→
  eC s.heap S vs.toArray→a7 c.w (S::(F++k.O)) s.heap vs eL→eL.length+ds.length≤1000→
  codeAny (model c.prog c.w) A (.builtin "list.extend.loop" ⟨[.ref S,it,res],[]⟩) (λ r s'=>r=.ok (.ret res)∧aB c (S::F) G s s'∧bF c s'∧∃i6,eC s'.heap S i6.toArray∧a7 c.w (S::k.O) s'.heap i6 (eL++ds)) s:=by
 intro w
 induction w with
 |nil=>
  intro eL vs F s K sr St hs p hS hr z;refine bx iL ?_;show wpAny _ A.in1 (pyNext it>>=_) _ _ s;refine K.done St hs p λ s' x S'=>ah ⟨rfl,x.mono (λ a h=>.inl (.tail _ h)) (λ z h=>.inl h),S',vs,x.jh sr hS,?_⟩;rw[bK];exact x.fj (O:=S::(F++k.O)) vV (λ a h=>.inl ((aD.mp h).elim (λ h=>h▸ .head _) λ h=>.tail _ (ao _ h))) hr
 |cons d ds ih=>
  intro eL vs F s K sr St hs p hS hr hl;have Iq:=hr.length;simp only[aJ]at hl;refine bx iL ?_;show wpAny _ A.in1 (pyNext it>>=_) _ _ s;refine K.next St hs p λ v s' F' g S' eO hu K' r p'=>?_;have Hd:S<s.heap.objs.size:=by refine ez hS ?_;clear hS;intro o n ho z;exact aI ho
  have pF:=hu.not sr Hd;have r:=K'.rep hs r zy Hd;have vg:=g.jh sr hS;have Ec:=g.fj vV (E_ hu) hr;show wpAny _ A.in1 (updateSeq S (·.push v)>>=_) _ _ _;refine aa ?_;refine bL (id vg) λ M4 VZ JD z z sq=>?_;have g2:aB c [S] [] s' {s' with heap:=s'.heap.update S (aP (·.push v))}:=dS (tk:=s'.toks) JD (c0 sq);have S2:bF c {s' with heap:=s'.heap.update S (aP (·.push v))}:=e_ (tk:=s'.toks) S' zz;have p2:=K.T.frame p' g2 S2 (λ a h hf=>by obtain rfl:=m1 h;exact pF hf) λ z=>nn;have Ce:=eO.step g2 λ a h=>by obtain rfl:=m1 h;exact⟨zy,Eh⟩
  have mi:tu [S] (S::(F'++k.O)) s':= λ a h=>by obtain rfl:=m1 h;exact .inl (.head _)
  have zA:=mQ (·.push v) vg;have RZ:vs.toArray.push v=(vs++[v]).toArray:=by simp
  rw[RZ]at zA;refine ff (hz:=by simp only[a_];rw[cG];lia) (_hz':=by simp only[gZ,a_];rw[cG];exact TT Iq hl rfl) JD sq (ah ⟨bX fx _,?_⟩);refine bc (ih (eL++[d]) (vs++[v]) F' _ K' pF S2 Ce p2 zA ((g2.fj mi (nL.refl _ _) Ec).append (g2.rep mi (nL.refl _ _) r)) (by simp only[aY,aJ,dp];exact JU hl rfl)) λ r k_ q=>?_;refine ra q ?_;clear q;intro z1 g3 S3 i6 h3 r3;subst z1;refine⟨rfl,?_,S3,i6,h3,by simpa using r3⟩;exact((g.mono (O':=S::F) (G':=G) (λ a h=>.inl (.tail _ h)) λ z h=>.inl h).trans (g2.mono (λ a h=>.inl (by obtain rfl:=m1 h;exact .head _)) λ z=>nn)).comp g3 (λ a h=>(aD.mp h).elim (λ h=>.inl (h▸ .head _)) λ h=>(hu a h).imp (λ h=>.tail _ h) And.left) λ z h=>.inl h
theorem yH(es:List D):vC es ((es.length:Int) -1)=es.reverse:=by
 unfold vC;rw[show((es.length:Int) -1+1).toNat=es.length by lia,List.take_length]
theorem FP{a l I:Addr}{O:List Addr}{ws vs:List ag}{ds es:List D}(R:Rm A 2)(S:bF c s)(hO:∀b∈O,b<s.heap.objs.size)(Ck:a∈O)(hB:c.B≤a)(XW:c.B≤I)(U6:a≠I)(Qn:l∉I::O)(hl:s.heap.IsList l vs.toArray)(Uy:a7 c.w (I::O) s.heap vs es)(ha:eC s.heap a ws.toArray)(WC:a7 c.w (I::O) s.heap ws ds)(he:sD s.heap I l ((vs.length:Int) -1))(hz:ds.length+es.length≤1000):
  wpAny (model c.prog c.w) A (call (.builtin "list.__iadd__") [.ref a,.ref I]) (λ v s'=>v=.ref a∧aB c [a,I] [] s s'∧bF c s'∧∃u7,eC s'.heap a u7.toArray∧a7 c.w O s'.heap u7 (ds++es.reverse)) aZ s:=by
 have Xz:s.TypeIs (.ref a) "list":=ha.isList.typeIs;have hlen:=Uy.length;have key:codeAny (model c.prog c.w) A (.call (.builtin "list.__iadd__") ⟨[.ref a,.ref I],[]⟩) (λ r s'=>r=.ok (.ret (.ref a))∧aB c [a,I] [] s s'∧bF c s'∧∃u7,eC s'.heap a u7.toArray∧a7 c.w O s'.heap u7 (ds++es.reverse)) s:=by
  refine f7 ye yg (PySem.F.slot_list_iadd.check _ _ _ _ _ _ _ _ Xz (PySem.F.args_list_iadd_2 _ _) ?_);show wpAny _ A.in1 (r0 (.ref a) (.ref I) (.ref a)) _ _ s;refine aa (fZ (T:="list_reverseiterator") ⟨_,he,rfl⟩ ?_);have h1:iD (.ref a) (.ref I)=false:=by simp[iD];exact U6
  have Ln:(gE "list_reverseiterator"==gE "list")=false:=by decide
  have Eg:(gE "list_reverseiterator"==gE "tuple")=false:=by decide
  simp only[h1,Ln,Eg,Bool.or_false,aR,if_false];refine aa (yG he ?_);refine aa (aV (wm (AR he) λ b aH hb=>?_));obtain⟨rfl,rfl⟩:=hb;have XJ:I<aH.heap.objs.size:=aI he;have Kw:Wk c A.in1 (.Name "x" default) (.ref I) ⟨aH,I::O,[]⟩ [I] [] (λ F lJ s=>F=[I]∧∃i:Int,sD s.heap I l i∧i<es.length∧lJ=vC es i):=
   ⟨nM.rev (vs:=vs) R.handled hl Qn Uy (.head _) (by simp) λ z=>rfl,λ b hb=>by obtain rfl:=m1 hb;exact⟨.inl (.head _),by simp⟩,λ b hb=>by obtain rfl:=m1 hb;exact XW,
    λ b hb=>(aD.mp hb).elim (λ h=>h▸XJ) (hO b),λ z=>nn,S.size,λ z=>rfl⟩
  split
  ·rename_i hc;exact absurd hc (by decide)
  ·refine ah ⟨bX fx _,bc (xK hB (.inl (.tail _ Ck)) (by simp) _ (vC es ((vs.length:Int) -1)) ds ws [I] aH Kw (by simpa using U6) S .refl ⟨rfl,_,he,by lia,rfl⟩ ha (a7.kept (.refl _ _) (λ b hb=>.inl ?_) WC) (by rw[hlen,yH,List.length_reverse];exact hz)) λ r s' q=>?_⟩
   ·rcases mc hb with rfl|hb
    ·exact .tail _ Ck
    rcases aC.mp hb with hb|hb
    ·obtain rfl:=m1 hb;exact .head _
    ·exact hb
   ·refine ra q ?_;clear q;intro z1 g S' u7 h' r';subst z1;rw[hlen,yH]at r';exact⟨rfl,g,S',u7,h',a7.kept (.refl _ _) (λ b hb=>.inl (.tail _ (.tail _ hb))) r'⟩
 refine lW (bc key λ r s' q=>?_);refine xa q ?_;clear q;intro z1 q;subst z1;exact⟨rfl,q⟩
variable {n:Nat}{E:VE}{ρ ρ':List Sl}
theorem Inv.load{β:dH}{O:List Addr}{ad:Nat→List Addr}{i:Nat}{x:Str}{v:ag}{Q:ag→ae→Prop}{X:ag→ae→Prop}(I:Inv c E β O ad ρ s)(hx:E.vn[i]? =some x)(b:Bound s.heap E.env x v)(h:Q v s):wpAny (model c.prog c.w) A (loadName E.env x) Q X s:=by
 have hm:=bw hx
 rcases I.ok.var x hm with hl|⟨hl,_⟩
 ·refine cW (b.1 hl) λ m hn e=>?_;exact f6 I.ok.kind hl hn e h
 ·have ku:E.env.kindOf x≠some .local:=by rcases hl with h|h<;>rw[h]<;>trivial
  refine cW (b.2 ku) λ a' e hc=>?_
  rcases hl with hl|hl
  ·exact mO I.ok.kind hl e hc h
  ·exact mN I.ok.kind hl e hc h (I.ok.JM x hm).2
theorem ba.Ii(i:Nat){x y:Str}{p p1 p2 p3 pos:Pos}{ds es:List D}(hy:Ev c (n+2) E ρ (.Name y p2) (.lst es))(hx:E.vn[i]? =some x)(hi:i<E.k)(dQ:ρ[i]? =some (.own true (.lst ds)))(hz:ds.length+es.length≤900)(hg:E.env.kindOf "reversed"=some .globalImplicit)(Ir:cV c "reversed" (.type "reversed")):
  ba c (n+2) E ρ (.AugAssign (.Name x p) .Add (.Call (.Name "reversed" p1) [.Name y p2] [] p3) pos) (.next (ρ.set i (.own true (.lst (ds++es.reverse))))):= λ A β s R w0=>by
 refine iz w0 ?_;clear w0;intro O ad I;refine wpAny_AugAssign_Name ?_;refine cH (I.slot hx dQ) λ v b r kk=>?_;refine I.load hx b ?_;refine bL r ?_;clear r;intro a ws z1 jx hl hr;subst z1;refine fK (iM I hg Ir rfl (fS R I (show jz c (.type "reversed")from trivial) (ck.cons hy .nil) .nil rfl λ vs ks au cY bj bE r'=>?_));refine fy bE λ u ru=>?_;refine fG r' ?_;refine bh.n6 ru ?_;clear ru;intro l vs Qn pb NU;refine vJ pb ?_;have g2:aB c [] [] au {au with heap:=au.heap.push {cls:=.type "list_reverseiterator",data:=.fields #[.ref l,rawInt ((vs.toArray.size:Int) -1)]}}:=aB.push (tk:=au.toks);have S2:bF c {au with heap:=au.heap.push {cls:=.type "list_reverseiterator",data:=.fields #[.ref l,rawInt ((vs.toArray.size:Int) -1)]}}:=bj.br.push (tk:=au.toks);have kz:a∈ad i:=by rw[jx];exact .head _
 have Ck:=(kk _ kz).1;have XK:au.heap.objs.size∉O:=bj.o.next;have vf:nL O (au.heap.objs.size::O) au:= λ b hb=>(aD.mp hb).elim (λ h=>.inr (h▸az _)) .inl;have WV:l<au.heap.objs.size:=by refine ez pb ?_;clear pb;intro o n ho z;exact aI ho
 have gx:=cY.trans g2;refine rF (hl.isList.typeIs|> λ z=>(gx.jh (by simp) hl).isList.typeIs) ⟨_,av _ rfl,rfl⟩ ?_;refine wm (FP (es:=es) (R.le (aG 2 n)) S2 (λ b hb=>ab (bj.lt b hb) g2.size) Ck (bj.low a Ck) bj.br.size (λ e=>XK (e▸Ck)) (λ hm=>(aD.mp hm).elim (λ h=>ak _ (h▸WV)) Qn) (g2.jh (nn) pb).isList (g2.fj (λ z=>nn) vf NU)
  (gx.jh (nn) hl) (g2.fj (λ z=>nn) vf (cY.ka hr)) (by have:=av au.heap (o:={cls:=.type "list_reverseiterator",data:=.fields #[.ref l,rawInt ((vs.toArray.size:Int) -1)]}) rfl;trivial) (by exact rC hz rfl)) λ v s' q=>?_
 refine ra q ?_;clear q;intro z1 g3 S3 u7 h' r3;subst z1;have G_:i<ρ.length:=(ay.mp dQ).1;have vd:s.heap.objs.size≤au.heap.objs.size:=cY.size;have lH:aB c [a] [] s s':=(gx.mono (λ z=>nn) λ z=>nn).comp g3 (λ b hb=>by
  rcases mc hb with rfl|hb
  ·exact .inl (.head _)
  ·rw[aj]at hb;subst hb;exact .inr vd) λ z=>nn
 have i4:=I.jj (N:=[]) (q':=.lst (ds++es.reverse)) (fp:=ad i) hx dQ lH S3 (λ b hb=>by rw[aj]at hb;subst hb;exact kz) b ⟨a,u7,rfl,jx,h',r3⟩ (λ z=>nn) λ b hb=>.inl hb;refine mq i4 hi hx (by rw[jt];exact G_) (sl:=.own true (.lst (ds++es.reverse))) (fp:=ad i) ⟨⟨a,u7,rfl,jx,h',r3⟩,λ b hb=>?_⟩ (λ j hj b hb=>?_) λ s₅ w jA z z z=>⟨rfl,_,_,by rw[l_]at jA;exact jA⟩
 ·have:=kk b hb;exact⟨this.1,this.2.1,this.2.2.1,this.2.2.2.1,this.2.2.2.2.1,ab this.2.2.2.2.2 lH.size⟩
 ·show b∉ (if j=i then ad i else ad j);rw[if_neg hj];exact I.mE i j (Ne.symm hj) b hb
end
section
variable {c:Cx}{n:Nat}{E:VE}{ρ ρ':List Sl}{scope:iT}{tn:List Str}{ix:List Nat}{β:dH}{O O':List Addr}{ad:Nat→List Addr}{s s':ae}
theorem qK{kx vx target iter:Expr}{ifs:List Expr}{scope:iT}{pos:Pos}{it:ag}{D':Addr}{env:Env}{A:aK}{R:iu→ae→Prop}(h:wpAny (model c.prog c.w) A (pyNext it) (λ r au=>match r with
   |none=>R (.ok .next) au
   |some v=>wpAny (model c.prog c.w) A (letOwnedTupleGo target it v) (λ z aH=>wpAny (model c.prog c.w) A (assign target env v) (λ z cn=>wpAny (model c.prog c.w) A (LY ifs env) (λ ok d9=>
     if ok=true then wpAny (model c.prog c.w) A (eval kx env) (λ x s₅=>wpAny (model c.prog c.w) A (eval vx env) (λ y qj=>wpAny (model c.prog c.w) A (dictSet D' x y) (λ z MK=>codeAny (model c.prog c.w) A (.compLoop (.DictComp kx vx [⟨target,iter,ifs,0⟩] scope pos) 0 it (.ref D') env) R MK) aZ qj) aZ s₅) aZ d9
     else codeAny (model c.prog c.w) A (.compLoop (.DictComp kx vx [⟨target,iter,ifs,0⟩] scope pos) 0 it (.ref D') env) R d9) aZ cn) aZ aH) aZ au) aZ s):
  codeAny (model c.prog c.w) A (.compLoop (.DictComp kx vx [⟨target,iter,ifs,0⟩] scope pos) 0 it (.ref D') env) R s:=by
 refine iK ?_;show wpAny _ A ((compTurn (.DictComp kx vx [⟨target,iter,ifs,0⟩] scope pos) 0 it (.ref D') env).onRaise (λ x=>do noteFrame x env;theTreesLotGoes x)) _ _ s;refine As ?_;rw[compTurn_dict];refine aa (bQ (wb h λ r au cq=>?_));cases r with
 |none=>exact ah cq
 |some v=>
  refine wb cq λ z aH cM=>?_;refine wb cM λ z cn mC=>?_;refine wb mC λ ok d9 pC=>?_;cases ok with
  |true=>
   rw[if_pos rfl]at pC;show wpAny _ _ (if true=true then _ else _) _ _ _;refine wP rfl ?_;exact aa (wb pC λ x s₅ zd=>aa (aV (wm zd λ y qj Be=>aa (bQ (aV (jc Be (λ z MK FQ=>ah ⟨rfl,FQ⟩) λ z z f=>f.elim))))))
  |false=>
   rw[if_neg (by decide)]at pC;show wpAny _ _ (if false=true then _ else _) _ _ _;refine wN (by decide) ?_;exact ah ⟨rfl,pC⟩
theorem foldl_rev{X:Type}:∀(l o:List X),l.foldl (λ o y=>y::o) o=l.reverse++o:=by
 intro w
 induction w with
 |nil=>
  intro z;exact rfl
 |cons y l ih=>
  intro o;exact(ih _).trans (by rw[List.reverse_cons,j6];rfl)
theorem Gy{kx vx tg iter:Expr}{ifs:List Expr}{pos:Pos}:CA c n E scope tn ix (λ o=>.dK o.length o) (λ o y=>y::o) 900 (.DictComp kx vx [⟨tg,iter,ifs,0⟩] scope pos) newDict tg ifs λ C (y:Int×D) ρ'=>Ev c n (kY E scope tn ix C) ρ' kx (.int y.1)∧Ev c n (kY E scope tn ix C) ρ' vx y.2 where
 Q2:= λ A it C D'=>⟨_,qK,λ {Q β O ad ρ s o y} hy R I hO hl F1 hk=>hy.1.go R I λ VI s₅ AE jA CX=>by
  refine bh.ek CX ?_;clear CX;intro t;refine hy.2.go R jA λ QS qj Hk DL Q7=>?_;refine c8 (F1 qj DL) λ Bu g ps Tp j zh=>b_ zh λ hm hz hp q=>?_;cases Tp;refine wpAny_dictSet_int_le hm hz (cQ (af (bV hl) (by decide))) λ h' Ip sO eO=>?_;refine cI hm ?_;clear hm;intro mV Gq Gs jm og ig j;have J3:aB c [D'] [] qj {qj with heap:=h',toks:=qj.toks+1}:=SameBut.grow eO jm (cP ig);have mi:tu [D'] O qj:= λ a h=>.inl (m1 h▸hO);exact hk qj _ DL J3 (SameBut.br DL.br eO (DL.low _ hO)) ⟨D',_,(y.1,QS)::ps,rfl,rfl,Ip,sO,λ k' z hy=>by
    rw[aX]at hy;cases Il:k'==y.1 with
    |true=>rw[Il]at hy;rw[if_pos (by simpa using Il)];exact hy
    |false=>rw[Il]at hy;rw[if_neg (by simpa using Il)];exact hp k' z hy,lM.cons (J3.rep mi (.refl _ _) Q7) (J3.Kq mi (.refl _ _) q)⟩⟩
 LN:= λ j j=>rfl
 start:=codeAny_compStart_dict
 new:=⟨_,rfl,λ h=>bo h,λ O h a e=>⟨a,_,[],rfl,rfl,⟨_,#[],0,e,rfl,rfl,λ j he=>by simp at he,λ j=>rfl⟩,λ o es ep ho hd=>by rw[e]at ho;cases ho;cases hd;exact az _,λ j j h=>(nomatch h),trivial⟩⟩
theorem gz.Pq(k:sA E.env E.vn scope tn ix=true){kx vx tg iter:Expr}{ifs:List Expr}{pos:Pos}{ds:List D}(f:D→Option (Int×D))(hi:kg c n E ρ iter tg (· =ds))(hlen:ds.length≤900)(hE:∀C,∀d∈ds,El c n (kY E scope tn ix C) (oR ρ tn ix) tg ifs d (f d).isSome λ ρ'=>∀y,f d=some y→Ev c n (kY E scope tn ix C) ρ' kx (.int y.1)∧Ev c n (kY E scope tn ix C) ρ' vx y.2)(hs:∀x,foldedSetIterable iter E.env x=pure x:=by intro z;rfl):gz c n E ρ (.DictComp kx vx [⟨tg,iter,ifs,0⟩] scope pos) (.dK (ds.filterMap f).reverse.length (ds.filterMap f).reverse):=
 gz.JS Gy k f (arm_eval_DictComp ..) rfl hi hlen ((foldl_rev _ _).trans (bK _)) hE hs
end
section
variable {c:Cx}{n:Nat}{E:VE}{ρ ρ':List Sl}{β:dH}{O O':List Addr}{ad:Nat→List Addr}{s s':ae}
noncomputable def sE(c:Cx)(m N:Nat)(keys:List Str)(_:List Addr)(h:Heap)(v:ag)(fp:List Addr):Prop:=
 ∃(a:Addr) (f:Str→Option ag) (ks:List (Str×Addr)),v=.ref a∧fp=a::ks.map (·.2)∧h.MapOf (dG c.prog c.w) a f∧h.DictLe a m∧ks.map (·.1)=keys∧(a::ks.map (·.2)).Nodup∧
  ∀x:Str×Addr,x∈ks→f x.1=some (.ref x.2)∧∃vs:List ag,eC h x.2 vs.toArray∧vs.length≤N
noncomputable abbrev sm(c:Cx)(m N:Nat)(keys:List Str):OD:=.raw (sE c m N keys)
theorem sE.keep{m N:Nat}{keys:List Str}{h h':Heap}{v:ag}{fp:List Addr}(r:sE c m N keys O h v fp)(hk:∀a∈fp,∀o,h.get? a=some o→h'.get? a=some o):sE c m N keys O' h' v fp:=by
 refine cI r ?_;clear r;intro a f ks z1 z2 y3 zh;refine b_ zh ?_;clear zh;intro hz K9 xE pE;subst z1;subst z2;refine lB y3 ?_;clear y3;intro o es ep ho hm;refine⟨a,f,ks,rfl,rfl,⟨o,es,ep,hk a (.head _) o ho,hm⟩,hz.of_same ho (hk a (.head _) o ho),K9,xE,λ x hx=>?_⟩;refine mn (pE x hx) λ hf vs y1 hlen=>?_;refine ez y1 ?_;clear y1;intro o' n' nh hl;exact⟨hf,vs,⟨o',n',hk _ (.tail _ (aM.mpr ⟨x,hx,rfl⟩)) o' nh,hl⟩,hlen⟩
theorem sE.own{m N:Nat}{keys:List Str}{h:Heap}{v:ag}{fp:List Addr}(r:sE c m N keys O h v fp):cS c O h v (sm c m N keys) fp:=⟨r,λ O' h' z z hk=>r.keep hk⟩
theorem E8{α β:Type}:∀{xs ys:List (α×β)},xs.map (·.1)=ys.map (·.1)→xs.map (·.2)=ys.map (·.2)→xs=ys:= λ {xs ys} h h'=>by
 have e:∀l:List (α×β),(l.map (·.1)).zip (l.map (·.2))=l:= λ l=>by induction l with|nil=>rfl|cons p l ih=>exact congrArg (p:: ·) ih
 rw[← e xs,h,h',e]
theorem ba.tp(i:Nat){x key:Str}{m N n_:Nat}{keys:List Str}{p p1 p2 apos pos pos':Pos}{e:Expr}{d:D}(h:Ev c n E ρ e d)(hx:E.vn[i]? =some x)(dQ:ρ[i]? =some (.own true (sm c m N keys)))(Dr:key∈keys)(hN:N≤900)(i9:autoParam (attributeBase (.Subscript (.Name x p) (.Constant (.str key) n_ p1) p2) "append" E.env (eval (.Subscript (.Name x p) (.Constant (.str key) n_ p1) p2) E.env)=eval (.Subscript (.Name x p) (.Constant (.str key) n_ p1) p2) E.env) rf)(rI:autoParam (((backTo pos (starEach [e] E.env)).all (λ x=> !x.1)&&(backToKw pos (keywordEach [] E.env)).all (λ x=>x.1.isSome)
   &&decide (([e]:List Expr).length+([]:List dU).length+(if([]:List dU).isEmpty then 0 else 1)<30))=true) rf)(iO:autoParam ((apos.endLine==pos.line)=true) rf)(ur:autoParam (backTo pos (starEach [e] E.env)=[(false,eval e E.env)]) rf)(hi:autoParam (interactive E.env=false) rf)(hs:autoParam (swapsWith (.Call (.Attribute (.Subscript (.Name x p) (.Constant (.str key) n_ p1) p2) "append" apos) [e] [] pos) none pos'.line E.env=pure false) rf):
  ba c n E ρ (.Expr (.Call (.Attribute (.Subscript (.Name x p) (.Constant (.str key) n_ p1) p2) "append" apos) [e] [] pos) pos') (.next (ρ.set i (.own true (sm c m (N+1) keys)))):= λ A β s R w0=>by
 refine iz w0 ?_;clear w0;intro O ad I;refine gW (oN i9 rI iO ur ?_) hi hs;refine cH (I.slot hx dQ) λ v b r k=>?_;refine xa r ?_;clear r;intro y1 st;refine cI y1 ?_;clear y1;intro a f ks z2 jx hm zh;refine b_ zh ?_;clear zh;intro hz K9 xE pE;subst z2;rw[← K9]at Dr;obtain⟨⟨Rx,l⟩,K_,rfl⟩:=aM.mp Dr;refine mn (pE _ K_) λ hf vs hl hlen=>?_;refine Subscript_ (I.read hx b (iy ?_));refine DP (BJ hm) nI.lookup (wpAny_getItem_of (knd:=dG c.prog c.w) (k:=Rx) (by simp[dG,m7]) hm hf ⟨l,_,rfl,hl,h.go R (I.fT ((aB.refl ..).toks.toks) I.br.toks.toks) λ y aH iQ ct bB=>?_⟩) (fm (by intros;simp));refine cH (ct.slot hx dQ) λ v' b' r' k'=>?_;refine xa r' ?_;clear r';intro y1 na;refine cI y1 ?_;clear y1;intro a' f' Rv z2 i0 Ip zh;refine b_ zh ?_;clear zh;intro sO Oo Og JF;subst z2;have e1:=jx.symm.trans i0;simp only[nu]at e1;refine xa e1 ?_;clear e1;intro z1 e2;subst z1;obtain rfl:=E8 (K9.trans Oo.symm) e2;refine mn (JF _ K_) λ Mh i6 nC wx=>?_;have Qm:l∈ks.map (·.2):=aM.mpr ⟨_,K_,rfl⟩;refine c9 (kn nC (λ h' uw eO up=>?_) (cQ (by simp only[a_];exact G6 wx hN rfl)));have kz:l∈ad i:=by rw[i0];exact .tail _ Qm
 refine bL nC ?_;clear nC;intro mV Fh jm og z ig;have g:aB c [l] [] aH {aH with heap:=h'}:=SameBut.grow (tk:=aH.toks) eO jm (c0 ig);have S:bF c {aH with heap:=h'}:=SameBut.br (tk:=aH.toks) ct.br eO (ct.low _ (k' _ kz).1);have ku:a≠l:= λ e=>(el.mp Og).1 (e▸Qm);refine⟨rfl,[]++O,_,ct.jj (N:=[]) (fp:=ad i) hx dQ g S (λ b hb=>by obtain rfl:=m1 hb;exact kz) b' (sE.own ⟨a,f',ks,rfl,i0,Ip.sameBut eO ku,sO.sameBut eO ku,Oo,Og,λ x hx=>?_⟩) (λ z=>nn) λ b hb=>.inl hb⟩;refine mn (JF x hx) λ q1 My q2 q3=>?_;refine⟨q1,?_⟩
 by_cases Ut:x.2=l
 ·rw[Ut];exact⟨i6++[y],by simpa using uw,by simp;exact wx⟩
 ·refine ez q2 ?_;clear q2;intro o n' ho q;exact⟨My,⟨o,n',(eO.2 _ Ut).trans ho,q⟩,by exact eT q3⟩
theorem ba.setInfo(i:Nat){x key:Str}{m N n_:Nat}{keys:List Str}{p p1 p2 pos:Pos}{e:Expr}(h:Ev c n E ρ e .any)(hx:E.vn[i]? =some x)(dQ:ρ[i]? =some (.own true (sm c m N keys)))(hm:m≤900)(hs:autoParam (swapsWith e (some (.Subscript (.Name x p) (.Constant (.str key) n_ p1) p2)) pos.line E.env=pure false) rf):ba c n E ρ (.Assign [.Subscript (.Name x p) (.Constant (.str key) n_ p1) p2] e pos) (.next (ρ.set i (.own true (.raw λ z z z z=>True)))):= λ A β s R w0=>iz w0 λ O ad I=>
 lu (h.go R I λ v au qH bj r=>by
  refine cH (bj.slot hx dQ) λ u b o k'=>?_;refine xa o ?_;clear o;intro y1 st;refine cI y1 ?_;clear y1;intro a f ks z2 jx Ip zh;refine b_ zh ?_;clear zh;intro hz K9 xE pE;subst z2;refine bj.read hx b (iy ?_);have kz:a∈ad i:=by rw[jx];exact .head _
  refine wpAny_setItem_of (knd:=dG c.prog c.w) (k:=key) (by simp[dG,m7]) Ip (λ h' WU eO=>?_) (hz.mono (cQ (by exact rC hm rfl)));refine cI Ip ?_;clear Ip;intro mV Gq Gs jm og ig z;have g:aB c [a] [] au {au with heap:=h',toks:=au.toks+1+1}:=SameBut.grow eO jm (cP ig);have S:bF c {au with heap:=h',toks:=au.toks+1+1}:=SameBut.br bj.br eO (bj.low _ (k' _ kz).1);exact⟨rfl,[]++O,_,bj.jj (N:=[]) (fp:=ad i) hx dQ g S (λ b hb=>by obtain rfl:=m1 hb;exact kz) b ⟨trivial,λ z z z z z=>trivial⟩ (λ z=>nn) λ b hb=>.inl hb⟩) hs
inductive KL:List (Option Expr)→List Expr→List Str→Prop
 |nil:KL [] [] []
 |cons {ks:List (Option Expr)} {vs:List Expr} {ns:List Str} {x:Str} {k:Nat} {p p':Pos}:KL ks vs ns→KL (some (.Constant (.str x) k p)::ks) (.List [] p'::vs) (x::ns)
theorem KL.walk{A:aK}{X:ag→ae→Prop}{env:Env}{pos:Pos}{ks vs ns}(r:KL ks vs ns):∃pairs,(evalEachOpt ks env).zip ((evalEach vs env).map λ v=>do let x ← v;standAt pos;pure x)=pairs.map (λ p=>(some p.1,p.2))∧pairs.length=ns.length∧
  ∀(s:ae) (Q:List (ag×ag)→ae→Prop),(∀i6 h' tk (rs:List (Str×Addr)),Carries (dG c.prog c.w) i6 (rs.map λ x=>(x.1,.ref x.2))→rs.map (·.1)=ns→s.heap.objs.size≤h'.objs.size→(∀a o,s.heap.get? a=some o→h'.get? a=some o)→
   (∀x∈rs,s.heap.objs.size≤x.2∧x.2<h'.objs.size∧eC h' x.2 #[])→(rs.map (·.2)).Nodup→Q i6 {s with heap:=h',toks:=tk})→wpAny (model c.prog c.w) A (evalPairs pairs) Q X s:=by
 induction r with
 |nil=>exact⟨[],rfl,rfl,λ s Q h=>evalPairs_nil (h [] s.heap s.toks [] trivial rfl (az _) (λ z z e=>e) (λ z=>nn) .nil)⟩
 |@cons ks vs ns x k p p' r ih=>
  refine cH ih λ pairs e1 e2 w=>?_;refine⟨(eval (.Constant (.str x) k p) env,do let x ← eval (.List [] p') env;standAt pos;pure x)::pairs,?_,by simp[e2],λ s Q h=>?_⟩
  ·rw[a9,← e1];rfl
  ·refine DU (iy (aa (wpAny_List ?_)));show wpAny _ _ (spliced []) _ _ _;refine ah ⟨bS _,aa (bQ (ah (w _ _ λ i6 h' tk rs hc hn hz hk hr hd=>?_)))⟩;have WS:eC h' s.heap.objs.size #[]:=⟨_,0,hk _ _ (av _ rfl),rfl,rfl,rfl⟩;have sO:s.heap.objs.size+1≤h'.objs.size:=by rw[aW]at hz;exact hz
   refine h _ h' tk ((x,s.heap.objs.size)::rs) ⟨by simp[dG,m7],rfl,hc⟩ (by simp[hn]) (iC sO) (λ a o e=>hk a o (aA _ e)) (λ y hy=>?_) ?_
   ·rcases mc hy with rfl|hy
    ·exact⟨az _,by show s.heap.objs.size<_;trivial,WS⟩
    ·have:=hr y hy;rw[aW]at this;exact⟨iC (show s.heap.objs.size+1≤y.2 from this.1),this.2.1,this.2.2⟩
   ·rw[a9,el];refine⟨λ hm=>?_,hd⟩;refine cW (aM.mp hm) λ y hy e=>?_;have q:=(hr y hy).1;rw[aW]at q;have q1:s.heap.objs.size+1≤y.2:=q;have e:y.2=s.heap.objs.size:=e;rw[e]at q1;exact ak _ q1
theorem tH:∀{rs:List (Str×Addr)},(rs.map (·.1)).Nodup→∀x∈rs,valueAt (rs.map λ x=>(x.1,dR x.2)) x.1=some (.ref x.2)
 |[],_,_,h=>nn h
 |r::rs,hn,x,hx=>by
  rw[a9,el]at hn;unfold valueAt;rw[a9,List.find?_cons]
  rcases mc hx with rfl|hx
  ·simp
  ·have ku:¬r.1=x.1:= λ e=>hn.1 (e▸aM.mpr ⟨x,hx,rfl⟩);simp only[ku,decide_false];exact tH hn.2 x hx
theorem gz.info{keys:List (Option Expr)}{values:List Expr}{pos:Pos}{ns:List Str}(r:KL keys values ns)(h0:ns≠[])(hlen:ns.length≤15)(xE:ns.Nodup):gz c n E ρ (.Dict keys values pos) (sm c ns.length 0 ns):= λ A β O ad s R I=>by
 refine cH (r.walk (c:=c) (A:=A) (X:=aZ) (env:=E.env) (pos:=pos)) λ pairs e1 e2 w=>?_;refine wpAny_Dict_pairs (knd:=dG c.prog c.w) e1 (by rintro rfl;exact h0 (List.eq_nil_of_length_eq_zero e2.symm)) (by exact af (de e2) hlen) (w _ _ λ i6 h' tk rs hc hn hz hk hr hd=>?_);refine⟨rs.map λ x=>(x.1,.ref x.2),hc,(CD s.heap).keep hk,λ pG hm hs=>?_⟩;have UG:(rs.map (·.1)).Nodup:=hn▸xE;rw[merged_nil_of_nodup _ (by rw[bI];exact UG)]at hm;rw[aW]at hz hr;have Cd:pG.objs.size=h'.objs.size:=hs.1;have hold:∀a o,s.heap.get? a=some o→pG.get? a=some o:= λ a o e=>(hs.2 a (dO (aI e))).trans (hk a o (aA _ e));have lb:s.heap.objs.size≤pG.objs.size:=by rw[Cd];exact iC hz
 refine⟨s.heap.objs.size::rs.map (·.2),aB.step lb hold,I.br.step lb hold,sE.own ⟨s.heap.objs.size,_,rs,rfl,rfl,hm.mapOf,λ o' rN X6 nh iP=>?_,hn,?_,λ x hx=>⟨tH UG x hx,[],?_,az _⟩⟩,λ a ha=>?_⟩
 ·refine c8 hm ?_;clear hm;intro o es ep ho z zh;refine b_ zh ?_;clear zh;intro Bj z hp z;rw[ho]at nh;cases nh;rw[Bj]at iP;cases iP;have:=hp.length;rw[aE]at this;rw[← hn,aE,← this,i5];exact az _
 ·rw[el];refine⟨λ Ip=>?_,hd⟩;refine cW (aM.mp Ip) λ x hx e=>?_;have q:s.heap.objs.size+1≤x.2:=(hr x hx).1;have e:x.2=s.heap.objs.size:=e;rw[e]at q;exact ak _ q
 ·refine jH (hr x hx) λ h1 h2 zh=>ez zh λ o n' ho q=>?_;exact⟨o,n',(hs.2 _ (by intro e;have h1:s.heap.objs.size+1≤x.2:=h1;have e:x.2=s.heap.objs.size:=e;rw[e]at h1;exact ak _ h1)).trans ho,q⟩
 ·show s.heap.objs.size≤a∧a<pG.objs.size
  rcases mc ha with rfl|ha
  ·exact⟨az _,Cd▸hz⟩
  ·refine jw ha λ x hx=>?_;exact⟨iC (hr x hx).1,Cd▸ (hr x hx).2.1⟩
end
section
variable {c:Cx}{n:Nat}{E:VE}{ρ ρ':List Sl}{β:dH}{O O':List Addr}{ad:Nat→List Addr}{s s':ae}
theorem Ev.Jd(i:Nat){x:Str}{q:OD}{d:D}{e:Expr}(hx:E.vn[i]? =some x)(dQ:ρ[i]? =some (.own true q))(hq:q.Bl=some d)(h:Ev c n E (ρ.set i (.val d)) e .any):Ev c n E ρ e .any:= λ A β O ad s R I=>
 wm (h A β _ _ s R (I.freeze hx dQ hq)) λ v s' q=>⟨q.1,q.2.1,by trivial⟩
theorem Ev.MH(i:Nat){x:Str}{ds:List D}{C:Addr}{fs:List (Str×D)}{e:Expr}(hx:E.vn[i]? =some x)(dQ:ρ[i]? =some (.own true (.lst ds)))(hf:fs.all (λ p=>p.2.flat)=true)(h:Ev c n E (ρ.set i (.val (.lst ds))) e (.inst C fs)):Ev c n E ρ e (.inst C fs):= λ A β O ad s R I=>by
 refine cH (I.slot hx dQ) λ v b y1 k=>?_;refine bL y1 ?_;clear y1;intro l vs z2 jx y3 z;subst z2;refine bL y3 ?_;clear y3;intro o m ho ux xG hd;refine wm (h A β _ _ s R (I.freeze hx dQ rfl)) λ v s' q=>?_;refine jH q ?_;clear q;intro g S r;have nh:s'.heap.get? l=some o:=g.keep _ _ (by simp) ho (c0 hd);refine⟨g,S,?_⟩;refine bh.qE r ?_;clear r;intro a dx es n ps ha OC e1 e2 hm rf;have out:∀b ob,s'.heap.get? b=some ob→ob.cls≠.type "list" →b∉O.filter (λ a=>decide (a∉ad i))→b∉O:= λ b ob eb ku hb hO=>by
  refine hb (aN.mpr ⟨hO,?_⟩);simp only[decide_eq_true_eq];rw[jx];intro OI;rw[aj]at OI;subst OI;rw[nh]at eb;cases eb;exact ku ux
 exact⟨a,dx,es,n,ps,rfl,out _ _ e1 (by simp) ha,out _ _ e2 (by simp) OC,e1,e2,hm,eA.flat hf rf⟩
theorem Fn.Fw{ds:List D}(hl:ds.length≤900):Fn c n (.type "list") [.lst ds] [] .any:= λ A O s vs ks R K ej r'=>by
 refine fy ej λ v r=>?_;refine fG r' ?_;refine bh.n6 r ?_;clear r;intro a vs ha y2 r;refine bL y2 ?_;clear y2;intro o m ho ux xG hd;have hz:=r.length;refine c9 (call_list_seq a (.inl rfl) ho ux hd (λ h' c' hk hg up=>?_) (cQ (by simp;exact u_ hz hl rfl)));exact⟨.step (tk:=s.toks) up.heap hk,K.br.step (tk:=s.toks) up.heap hk,by trivial⟩
theorem gz.Cr{pos:Pos}:gz c n E ρ (.Dict [] [] pos) (.dK 0 []):= λ A β O ad s R I=>by
 refine wpAny_Dict_empty ?_;have g:aB c [] [] s {s with heap:=s.heap.push (ik #[] 0)}:=aB.push (tk:=s.toks);have S:bF c {s with heap:=s.heap.push (ik #[] 0)}:=I.br.push (tk:=s.toks);refine⟨[s.heap.objs.size],g,S,⟨_,_,[],rfl,rfl,Heap.IntMap.new s.heap,λ o es ep ho hd=>?_,λ k v h=>(by cases h),by trivial⟩,λ a ha=>?_⟩
 ·rw[av _ rfl]at ho;cases ho;cases hd;exact az _
 ·rw[aj]at ha;subst ha;exact⟨az _,by rw[aW];exact aS _⟩
theorem Ev.Pp{ke ve:Expr}{pos:Pos}{xs:List Int}{d:D}(hk:Ev c (n+1) E ρ ke (.tup (D.ints xs)))(hv:Ev c (n+1) E ρ ve d):Ev c (n+1) E ρ (.Dict [some ke] [ve] pos) .any:= λ A β O ad s R I=>by
 have g:aB c [] [] s {s with heap:=s.heap.push (ik #[] 0)}:=aB.push (tk:=s.toks);have S:bF c {s with heap:=s.heap.push (ik #[] 0)}:=I.br.push (tk:=s.toks);have g0:({s with heap:=s.heap.push (ik #[] 0)}:ae).heap.get? s.heap.objs.size=some (ik #[] 0):=av _ rfl;refine wpAny_Dict_any rfl rfl (by simp) (by exact bD _) (DU (hk.go R (I.fT g S) λ kv au qH bj bE=>aa (hv.go R bj λ vv aH iQ ct bB=>aa (bQ (ah (evalPairs_nil ?_))))));refine bh.qh bE ?_;clear bE;intro t us ht FX MS;have Vh:=(qH.trans iQ).keep _ _ (by simp) g0 (cP rfl);unfold storeAll;rw[oY];refine aa (aa (wpAny_dictSet_heap (knd:=tupleKind (intKind c.prog c.w)) (xs:=[]) (k:=xs) R.u0 (tJ (iQ.isTup (by simp) FX) (mz MS)) ⟨_,_,_,Vh,⟨rfl,rfl,rfl⟩,rfl,rfl,λ z=>nn,ml⟩ (λ h' hd hs=>ah ?_) (cQ (by simp))));dsimp only;rw[x_];refine ah ?_;have old:∀a,a∈[s.heap.objs.size]→s.heap.objs.size≤a:= λ a h=>by rw[aj]at h;subst h;exact az _
 have g3:aB c [s.heap.objs.size] [] aH {aH with heap:=h',toks:=aH.toks+(tupleKind (intKind c.prog c.w)).draws xs}:=SameBut.grow hs Vh (cP rfl);exact⟨((g.trans qH).trans iQ).comp g3 (λ a h=>.inr (old a h)) λ z=>nn,SameBut.br ct.br hs I.br.size,by trivial⟩
noncomputable def sC(c:Cx)(key:Str)(m:Nat)(O:List Addr)(h:Heap)(v:ag)(fp:List Addr):Prop:=
 ∃(a b:Addr) (f:Str→Option ag) (xs:List (List Int×Addr×ag)),v=.ref a∧fp=[a,b]∧a≠b∧h.MapOf (dG c.prog c.w) a f∧f key=some (.ref b)∧h.DictOfH (tupleKind (intKind c.prog c.w)) b xs∧xs.length≤m∧∀x∈xs,x.2.1∉O
theorem sC.keep{key:Str}{m:Nat}{h h':Heap}{v:ag}{fp:List Addr}(r:sC c key m O h v fp)(K:Kept O h h')(hO:∀a∈O',a∈O∨h.objs.size≤a)(hk:∀a∈fp,∀o,h.get? a=some o→h'.get? a=some o):sC c key m O' h' v fp:=by
 refine xe r ?_;clear r;intro a zh;refine lB zh ?_;clear zh;intro b f xs z1 zh;refine b_ zh ?_;clear zh;intro z2 Mm y3 zh;refine b_ zh ?_;clear zh;intro hf y4 hz hx;subst z1;subst z2;refine lB y3 ?_;clear y3;intro o es ep ho hm;refine c8 y4 ?_;clear y4;intro o2 Ts X5 wu Dw zh;refine b_ zh ?_;clear zh;intro Bj Xa UW xF;refine⟨a,b,f,xs,rfl,rfl,Mm,⟨o,es,ep,hk a (.head _) o ho,hm⟩,hf,⟨o2,Ts,X5,hk b (.tail _ (.head _)) o2 wu,Dw,Bj,Xa,λ x h=>?_,xF⟩,hz,λ x h hm=>?_⟩
 ·refine cI (UW x h) λ o3 items n3 e3 c3 d3 i3=>?_;exact⟨o3,items,n3,K.get _ _ (hx x h) e3 (c0 d3),c3,d3,i3⟩
 ·refine cI (UW x h) λ o3 items n3 e3 c3 d3 i3=>?_;exact(hO _ hm).elim (hx x h) λ hl=>ak _ (ab (aI e3) hl)
noncomputable abbrev t4(c:Cx)(key:Str)(m:Nat):OD:=.raw (sC c key m)
theorem sC.own{key:Str}{m:Nat}{h:Heap}{v:ag}{fp:List Addr}(r:sC c key m O h v fp):cS c O h v (t4 c key m) fp:=⟨r,λ O' h' K hO hk=>r.keep K hO hk⟩
theorem M1(k v:Expr)(env:Env)(pos:Pos):(evalEachOpt [some k] env).zip ((evalEach [v] env).map λ v=>do let x ← v;standAt pos;pure x)=[(eval k env,do let x ← eval v env;standAt pos;pure x)].map (λ p=>(some p.1,p.2)):=rfl
theorem gz.Po{key:Str}{k:Nat}{p p' pos:Pos}:gz c n E ρ (.Dict [some (.Constant (.str key) k p)] [.Dict [] [] p'] pos) (t4 c key 0):= λ A β O ad s R I=>by
 have hl:∀x:Sem ag×Sem ag,[x].length≤15:= λ z=>(by decide:1≤15);refine @wpAny_Dict_pairs c.prog c.w _ _ (dG c.prog c.w) A aZ s E.env [some (.Constant (.str key) k p)] [.Dict [] [] p'] pos _ _ (M1 _ _ _ _) (List.cons_ne_nil _ _) (hl _) ?_;refine DU (iy (aa (wpAny_Dict_empty (aa (bQ (ah (evalPairs_nil ?_)))))));have q0:(s.heap.push (ik #[] 0)).get? s.heap.objs.size=some (ik #[] 0):=av _ rfl;have Ik:(s.heap.push (ik #[] 0)).objs.size=s.heap.objs.size+1:=aW ..;have vd:((s.heap.push (ik #[] 0)).push (ik #[] 0)).objs.size=s.heap.objs.size+2:=by rw[aW,Ik]
 have q1:((s.heap.push (ik #[] 0)).push (ik #[] 0)).get? (s.heap.objs.size+1)=some (ik #[] 0):=by
  have:=av (s.heap.push (ik #[] 0)) (o:=ik #[] 0) rfl;rwa[Ik]at this
 refine⟨[(key,.ref (s.heap.objs.size+1))],⟨by simp[dG,m7],by show dR (s.heap.push (ik #[] 0)).objs.size=_;rw[Ik],trivial⟩,(CD s.heap).keep λ a o e=>aA _ e,λ pG hm hs=>?_⟩;rw[merged_nil_of_nodup _ (by simp)]at hm;have ku:s.heap.objs.size+1≠s.heap.objs.size:=by exact vQ _
 have hold:∀a o,s.heap.get? a=some o→pG.get? a=some o:= λ a o e=>(hs.2 a (dO (aI e))).trans (aA _ (aA _ e));have Cd:pG.objs.size=s.heap.objs.size+2:=hs.1.trans vd;have lb:s.heap.objs.size≤pG.objs.size:=by exact Cd▸cD _ _
 refine⟨[s.heap.objs.size,s.heap.objs.size+1],aB.step lb hold,I.br.step lb hold,sC.own ⟨_,_,_,[],rfl,rfl,ku.symm,hm.mapOf,by simp[valueAt],⟨_,_,_,(hs.2 _ ku).trans q1,⟨rfl,rfl,rfl⟩,rfl,rfl,λ z h=>(nn h),ml⟩,az _,λ z h=>nn h⟩,λ a ha=>?_⟩
 rcases mc ha with rfl|ha
 ·exact⟨az _,by show s.heap.objs.size<pG.objs.size;exact GW Cd⟩
 ·rw[aj]at ha;subst ha;exact⟨bq _,by show s.heap.objs.size+1<pG.objs.size;exact de Cd.symm⟩
set_option tactic.hygienic true in
theorem ba.HE(i:Nat){x key:Str}{m n_:Nat}{p p1 p2 p3 pos:Pos}{te e:Expr}{xs:List Int}{d:D}(h:Ev c (n+1) E ρ e d)(ht:Ev c (n+1) E ρ te (.tup (D.ints xs)))(hx:E.vn[i]? =some x)(dQ:ρ[i]? =some (.own true (t4 c key m)))(hm:m≤900)(hs:autoParam (swapsWith e (some (.Subscript (.Subscript (.Name x p) (.Constant (.str key) n_ p1) p2) te p3)) pos.line E.env=pure false) rf):
  ba c (n+1) E ρ (.Assign [.Subscript (.Subscript (.Name x p) (.Constant (.str key) n_ p1) p2) te p3] e pos) (.next (ρ.set i (.own true (t4 c key (m+1))))):= λ A β s R w0=>iz w0 λ O ad I=>
 lu (h.go R I λ v au qH bj r=>by
  refine cH (bj.slot hx dQ) λ u b y1 k'=>?_;refine xa y1 ?_;clear y1;intro y2 z;refine xe y2 ?_;clear y2;intro a zh;refine c8 zh ?_;clear zh;intro l f ks z3 jx zh;refine b_ zh ?_;clear zh;intro Mm UH hf z;subst z3;refine Subscript_ (bj.read hx b (iy ?_));refine DP (BJ UH) nI.lookup (wpAny_getItem_of (knd:=dG c.prog c.w) (k:=key) (by simp[dG,m7]) UH hf (ht.go R (bj.fT ((aB.refl ..).toks.toks) bj.br.toks.toks) λ y aH iQ ct bB=>?_)) (fm (by intros;simp));refine cH (ct.slot hx dQ) λ u' b' y1 k₂=>?_;refine xa y1 ?_;clear y1;intro y2 na;refine xe y2 ?_;clear y2;intro a' zh;refine lB zh ?_;clear zh;intro l' f' Rv z3 zh;refine b_ zh ?_;clear zh;intro i0 OJ Sg zh;refine b_ zh ?_;clear zh;intro Mh Le sO wt;subst z3;have e1:=jx.symm.trans i0;simp only[nu,and_true]at e1;refine xa e1 ?_;clear e1;intro z1 z2;subst z1;subst z2;refine bh.qh bB ?_;clear bB;intro t us Ww FX MS;have kz:l∈ad i:=by rw[i0];exact .tail _ (.head _)
  refine wpAny_setItem_heap (knd:=tupleKind (intKind c.prog c.w)) (k:=xs) R.in1.u0 (tJ FX (mz MS)) Le (λ h' Bj eO=>?_) (cQ (by exact G6 sO hm rfl));refine cI Le ?_;clear Le;intro mV Gq Gs jm og ig z;have g:aB c [l] [] aH {aH with heap:=h',toks:=aH.toks+(tupleKind (intKind c.prog c.w)).draws xs}:=SameBut.grow eO jm (cP ig);have S:bF c {aH with heap:=h',toks:=aH.toks+(tupleKind (intKind c.prog c.w)).draws xs}:=SameBut.br ct.br eO (ct.low _ (k₂ _ kz).1);refine⟨rfl,[]++O,_,ct.jj (N:=[]) (fp:=ad i) hx dQ g S (λ b hb=>by obtain rfl:=m1 hb;exact kz) b' (sC.own ⟨a,l,f',storedH Rv xs t v,rfl,i0,OJ,Sg.sameBut eO OJ,Mh,Bj,?_,λ x hx=>?_⟩) (λ z=>nn) λ b hb=>.inl hb⟩
  ·unfold storedH;split<;>simp<;>lia
  ·rcases mem_storedH hx with⟨y,hy,e1,e2⟩|⟨e1,e2⟩
   ·rw[e2];exact wt y hy
   ·rw[e2];exact Ww) hs
end
structure FD where
 params:Arguments
 body:List Stmt
 scope:iT
noncomputable def fdOf(s:Stmt):FD:=⟨(vw s).a,(vw s).b,(vw s).sc⟩
noncomputable def defAt(i:Nat):FD:=fdOf (oP PySem.Challenge.pw_jg0005_01.main.body i)
noncomputable def iY(i j:Nat):FD:=fdOf (oP (nD PySem.Challenge.pw_jg0005_01.main.body i) j)
structure rS where
 name:Str
 qualname:Str
 doc:ag
 pyModule:ag
 annotations:Option Addr
 code:ag
 closureTuple:ag
 V8:ag
noncomputable def FD.fd(d:FD)(v:ag)(u:rS):FuncData:=
 {name:=u.name,qualname:=u.qualname,params:=d.params,body:=.stmts d.body,scope:=d.scope,globals:=mainGlobals,closure:=[],defaults:=v,kwdefaults:=u.V8,
  doc:=u.doc,pyModule:=u.pyModule,annotations:=u.annotations,code:=u.code,closureTuple:=u.closureTuple,builtins:=builtinsNs}
noncomputable def FnAt(c:Cx)(a:Addr)(d:FD)(v:ag):Prop:=∃u,nE c a (d.fd v u) d.body∧∃p∈c.tabs,u.code=.ref p.1
noncomputable def rP:FD:=defAt 28
theorem Nr{α:Type}{l:List α}(h:l.length=0):l=[]:=gc.mp h
theorem rB{α:Type}{l:List α}(h:l.length=1):∃a,l=[a]:=CC.mp h
theorem xy{α:Type}{l:List α}(h:l.length=2):∃a b,l=[a,b]:=by
 exact uc h λ a b=>⟨a,b,rfl⟩
theorem Rr{α:Type}{l:List α}(h:l.length=5):∃a b c d e,l=[a,b,c,d,e]:=by
 exact Np h λ a b c d e=>⟨a,b,c,d,e,rfl⟩
theorem Bb{ks:List (Str×ag)}(h:ks.map (·.1)=(fN (·.1) ([]:List (Str×D)))):ks=[]:=by simpa using h
theorem L5{ks:List (Str×ag)}{x:Str}{l:List Str}(h:ks.map (·.1)=x::l):∃a t,ks=(x,a)::t∧t.map (·.1)=l:=by
 cases ks with
 |nil=>cases h
 |cons k t=>cases k;cases h;exact⟨_,_,rfl,rfl⟩
theorem Qf{ks:List (Str×ag)}{x:Str}{d:D}(h:ks.map (·.1)=(fN (·.1) ([(x,d)]:List (Str×D)))):∃a,ks=[(x,a)]:=by
 obtain⟨a,t,rfl,k⟩:=L5 (x:=x) h;exact⟨a,by rw[qW.mp k]⟩
theorem Ru{ks:List (Str×ag)}{x x':Str}{d d':D}(h:ks.map (·.1)=(fN (·.1) ([(x,d),(x',d')]:List (Str×D)))):∃a b,ks=[(x,a),(x',b)]:=by
 obtain⟨a,t,rfl,k⟩:=L5 (x:=x) h;obtain⟨b,rfl⟩:=Qf (d:=d') k;exact⟨a,b,rfl⟩
theorem Qe{ks:List (Str×ag)}{x y z:Str}{d e f:D}(h:ks.map (·.1)=(fN (·.1) ([(x,d),(y,e),(z,f)]:List (Str×D)))):∃a b c,ks=[(x,a),(y,b),(z,c)]:=by
 obtain⟨a,t,rfl,k⟩:=L5 (x:=x) h;obtain⟨b,c,rfl⟩:=Ru (d:=e) (d':=f) k;exact⟨a,b,c,rfl⟩
theorem V9{ks:List (Str×ag)}{x y z p q:Str}{d e f g i:D}(h:ks.map (·.1)=(fN (·.1) ([(x,d),(y,e),(z,f),(p,g),(q,i)]:List (Str×D)))):∃a b c d e,ks=[(x,a),(y,b),(z,c),(p,d),(q,e)]:=by
 refine ez (L5 (x:=x) h) λ a t z1 k=>?_;subst z1;refine ez (L5 (x:=y) k) λ b t z1 l=>?_;subst z1;refine iq (Qe (d:=f) (e:=g) (f:=i) l) λ c d e z1=>?_;subst z1;exact⟨a,b,c,d,e,rfl⟩
noncomputable def sT(c:Cx)(T:Addr)(vs:List ag):Prop:=∃o n,c.K.lookup T=some o∧o.data=.seq vs.toArray n
theorem sT.binds{c:Cx}{s:ae}{fd:FuncData}{args:Args}{binds:List (Str×ag)}{T:Addr}{vs:List ag}{k:Option (Array ag)→Sem (List (Str×ag))}(H:sT c T vs)(S:bF c s)(hd:fd.defaults=.ref T)(cq:bindArgs fd args=seqItems? fd.defaults>>=k)(cM:k (some vs.toArray)=pure binds):iv s fd args binds:=by
 refine ez H ?_;clear H;intro o n ho hs;exact BindsTo.of_defaults hd (S.fY _ _ ho) hs cq cM
noncomputable def m4:FD:=iY 5 0
noncomputable def GC:FD:=iY 5 6
noncomputable def GB:FD:=iY 5 10
noncomputable def JR:FD:=iY 5 14
noncomputable def JP:FD:=iY 5 15
noncomputable def JQ:FD:=iY 5 16
structure fh(c:Cx):Prop where
 make:makesIn c.K 189=true
 xC:findIn c.K (.ref 189) "__init__"=some (some (.ref 60))
 Ht:typeIn c.K (.ref 60)=some (.type "function")
 QJ:FnAt c 60 m4 (.ref 53)
 QK:∃t u,sT c 53 [.int 0 t,.int 1 u]
 sP:cV c "Fraction" (.ref 189)
 lI:cV c "isinstance" (.builtin "isinstance")
 xI:cV c "int" (.type "int")
 keep:jz c (.ref 189)
 own:se c.K 189=true
 L7:kitAny c.K (.type "int") [.type "int",.ref 189]=some true
 Um:kitAny c.K (.ref 189) [.type "int",.ref 189]=some true
 Jt:kitOne c.K (.type "int") (.ref 189)=some false
 Ju:kitOne c.K (.ref 189) (.ref 189)=some true
 Nx:kitOne c.K (.ref 189) (.type "int")=some false
 KV:kitOne c.K (.type "int") (.type "int")=some true
 putN:fg c.K 189 "numerator"=true
 putD:fg c.K 189 "denominator"=true
 Ej:attrOk c.K 189 "numerator"=true
 Bv:attrOk c.K 189 "denominator"=true
 XZ:cV c "NotImplemented" .notImplemented
 rR:wg c.K 189 "int" "add" 102=true
 PV:qv c.K 189 (d7 "add") 102=true
 nB:wg c.K 189 "int" "mul" 130=true
 Vm:qv c.K 189 (cmpInfo .Eq).2.1 158=true
 Ui:qv c.K 189 (cmpInfo .Lt).2.1 165=true
 Uj:qv c.K 189 (cmpInfo .LtE).2.1 172=true
 Lz:FnAt c 102 GC .none
 Ph:FnAt c 130 GB .none
 Pg:FnAt c 158 JR .none
 Pf:FnAt c 165 JP .none
 Pe:FnAt c 172 JQ .none
structure PG(c:Cx):Prop where
 set:cV c "set" (.type "set")
 len:cV c "len" (.builtin "len")
 RF:cV c "isinstance" (.builtin "isinstance")
 int:cV c "int" (.type "int")
 all:cV c "all" (.builtin "all")
 any:cV c "any" (.builtin "any")
 sorted:cV c "sorted" (.builtin "sorted")
 str:cV c "str" (.type "str")
 range:cV c "range" (.type "range")
 list:cV c "list" (.type "list")
 sum:cV c "sum" (.builtin "sum")
 min:cV c "min" (.builtin "min")
 enum:cV c "enumerate" (.type "enumerate")
 tuple:cV c "tuple" (.type "tuple")
 abs:cV c "abs" (.builtin "abs")
 rev:cV c "reversed" (.type "reversed")
 KV:kitOne c.K (.type "int") (.type "int")=some true
noncomputable def Ct:FD:=defAt 2
noncomputable def uH:FD:=defAt 3
noncomputable def GA:FD:=defAt 4
structure kd(c:Cx):Prop where
 To:FnAt c 30 Ct (.ref 23)
 TI:∃v,sT c 23 [v,.none]
 gC:cV c "CandidateSet" (.ref 30)
 kC:jz c (.ref 30)
 Vk:FnAt c 37 uH .none
 gS:cV c "sorted_committees" (.ref 37)
 kS:jz c (.ref 37)
 Vj:FnAt c 45 GA (.ref 38)
 Vt:sT c 38 [.none]
 OW:cV c "str_set_of_candidates" (.ref 45)
 Ry:jz c (.ref 45)
noncomputable def mZ:FD:=iY 31 0
noncomputable def rO:FD:=iY 30 0
noncomputable def zN:FD:=iY 30 1
noncomputable def zM:FD:=iY 30 3
noncomputable def Gz:FD:=iY 30 4
noncomputable def Pr:FD:=iY 30 5
noncomputable def JO:FD:=iY 30 11
structure iB(c:Cx):Prop where
 Fm:makesIn c.K 600=true
 FK:findIn c.K (.ref 600) "__init__"=some (some (.ref 582))
 EA:typeIn c.K (.ref 582)=some (.type "function")
 Lx:FnAt c 582 mZ (.ref 575)
 LD:∃t,sT c 575 [.int 1 t,.none]
 gV:cV c "Voter" (.ref 600)
 kV:jz c (.ref 600)
 MY:fg c.K 600 "approved"=true
 MW:fg c.K 600 "weight"=true
 LM:attrOk c.K 600 "approved"=true
 PH:attrOk c.K 600 "weight"=true
 M5:se c.K 600=true
 Ul:kitOne c.K (.ref 600) (.ref 600)=some true
 Jo:makesIn c.K 563=true
 Jw:findIn c.K (.ref 563) "__init__"=some (some (.ref 454))
 I7:typeIn c.K (.ref 454)=some (.type "function")
 O8:FnAt c 454 rO (.ref 449)
 Ps:sT c 449 [.none]
 gP:cV c "Profile" (.ref 563)
 kP:jz c (.ref 563)
 MX:fg c.K 563 "candidates"=true
 putN:fg c.K 563 "cand_names"=true
 Jk:fg c.K 563 "_voters"=true
 Cv:attrOk c.K 563 "candidates"=true
 GN:attrOk c.K 563 "_voters"=true
 E7:∃p,xn c.K 563 "num_cand" p 461=true
 O7:FnAt c 461 zN .none
 Nl:findIn c.K (.ref 563) "__len__"=some (some (.ref 476))
 Nm:isFn c.K (.ref 476)=true
 O6:FnAt c 476 zM .none
 Jp:jS c.K 563 "_unique_voter" 483=true
 O5:FnAt c 483 Gz .none
 Ni:jS c.K 563 "add_voter" 490=true
 O4:FnAt c 490 Pr .none
 RC:findIn c.K (.ref 563) "__iter__"=some (some (.ref 532))
 RE:isFn c.K (.ref 532)=true
 Ly:FnAt c 532 JO .none
theorem Gl(a:Int){b:Int}(hb:0<b):((a:Rat) / b).num=a.fdiv (fe a b)∧(((a:Rat) / b).den:Int)=b.fdiv (fe a b):=by
 obtain⟨n,rfl⟩:∃n:Nat,b=n:=⟨b.toNat,by lia⟩;have hn:n≠0:=by lia
 rw[show((n:Int):Rat)=((n:Int):Rat)from rfl,← u4,Rat.divInt_ofNat];unfold mkRat;rw[dif_neg hn,Rat.normalize_eq];have hg:a.natAbs.gcd n=fe a n:=by simp[fe]
 refine⟨?_,?_⟩
 ·show a / (a.natAbs.gcd n:Nat)=_;rw[hg];rw[Ai _ (by lia)]
 ·show((n / a.natAbs.gcd n:Nat):Int)=_;rw[hg];rw[Ai _ (by lia),Int.natCast_ediv]
theorem zG{g r:Int}(hr:0<r):fe r (g.fmod r)=fe g r:=by
 rw[Ah _ (bJ hr),Int.gcd_comm,Int.emod_def,Int.gcd_sub_mul_left_left]
theorem Cp{g r:Int}(hr:0<r):0≤g.fmod r∧g.fmod r<r:=by
 rw[Ah _ (bJ hr)];exact⟨Int.emod_nonneg _ (uY hr),Int.emod_lt_of_pos _ hr⟩
noncomputable def Ap(q:Rat):List (Str×D):=[("denominator",.int q.den),("numerator",.int q.num)]
noncomputable abbrev eM(q:Rat):D:=.inst 189 (Ap q)
section
variable {c:Cx}{n:Nat}
noncomputable abbrev Bm:List Str:=["self","numerator","denominator","upper","lower","divisor","rest"]
theorem wC{E:VE}{ρ:List Sl}(P:fh c)(hE:E.env.kindOf "isinstance"=some .globalImplicit)(hI:E.env.kindOf "int"=some .globalImplicit)(hF:E.env.kindOf "Fraction"=some .globalImplicit){x:Str}{d:D}{b:Bool}{p1 p2 p3 p4 p5 p6:Pos}{k:Nat}(h:Ev c n E ρ (.Name x p1) d)(hd:∀{m:Nat},Fn c m (.builtin "isinstance") [d,.tup ([gE "int",.ref 189].map D.lit)] [] (.bool b)):
  Tr c n E ρ (.UnaryOp .Not (.Call (.Name "isinstance" p2) [.Name x p1,.Tuple [.Name "int" p3,.Name "Fraction" p4] k p5] [] p6) p6) (!b):=
 Tr.not (Tr.val (Ev.call hE P.lI trivial (ck.cons h (ck.cons (Ev.tup (ck.cons (Ev.gl hI P.xI) (ck.cons (Ev.gl hF P.sP) .nil))) .nil)) .nil hd) kA.bool)
theorem yw{α:Type}{l:List α}{i:Nat}{a:α}(h:l[i]? =some a):l.set i a=l:=by
 refine xe (ay.mp h) λ hi e=>?_;subst e;exact D3 hi
noncomputable def Lu:List Stmt:=m4.body.drop 7
theorem OY{E:VE}{p1 p2 p3 p4 p5 p6 p7 p8 p9 VX:Pos}{k k':Nat}(h5:E.vn[5]? =some ("divisor":Str))(h6:E.vn[6]? =some ("rest":Str))(hE:7≤E.k)(hw:swappedStores [.Tuple [.Name "divisor" p1,.Name "rest" p2] k p3] (.Tuple [.Name "rest" p4,.BinOp (.Name "divisor" p5) .Mod (.Name "rest" p6) p7] k' p8) E.env=pure (some [("divisor":Str),("rest":Str)])):
  ∀(m:Nat) (g r:Int) (ρ:List Sl),ρ.length=7→ρ[5]? =some (.val (.int g))→ρ[6]? =some (.val (.int r))→0≤r→r≤(m:Int)→0<g→
   Wh c n E ρ (.Name "rest" p9) [.Assign [.Tuple [.Name "divisor" p1,.Name "rest" p2] k p3] (.Tuple [.Name "rest" p4,.BinOp (.Name "divisor" p5) .Mod (.Name "rest" p6) p7] k' p8) VX] (.next ((ρ.set 6 (.val (.int 0))).set 5 (.val (.int (fe g r))))):=by
 intro m
 induction m with
 |zero=>
  intro g r ρ hl hg hr h0 hm JE;obtain rfl:r=0:=Int.le_antisymm hm h0;have e:(ρ.set 6 (.val (.int 0))).set 5 (.val (.int (fe g 0)))=ρ:=by
   rw[show((fe g 0:Nat):Int)=g by rw[Int.gcd_zero];exact qR (bJ JE)];rw[yw hr,yw hg]
  rw[e];exact Wh.done (Tr.val (Ev.nm 6 h6 hr) kA.int)
 |succ m ih=>
  intro g r ρ hl hg hr h0 hm JE
  by_cases hz:r=0
  ·exact ih g r ρ hl hg hr h0 (hz▸cy m) JE
  ·have R_:0<r:=Int.lt_iff_le_and_ne.mpr ⟨h0,Ne.symm hz⟩;have hb:=Cp (g:=g) R_;refine Wh.step (Tr.val (Ev.nm 6 h6 hr) (by have:=@kA.int c n r;rwa[show(r !=0)=true by simpa using hz]at this)) (Ex.one (ba.ML 5 6 (Ev.tup (ck.cons (Ev.nm 6 h6 hr) (ck.cons (Ev.bin (Ev.nm 5 h5 hg) (Ev.nm 6 h6 hr) (gF.xr hz)) .nil))) h5 h6 (by exact bV hE) (by trivial) (by exact hl▸bq _) (by exact de hl.symm) rfl hw)) ?_;have:=ih r (g.fmod r) ((ρ.set 6 (.val (.int (g.fmod r)))).set 5 (.val (.int r))) (by simpa using hl) (by simp[hl]) (by simp[hl]) hb.1 (Int.le_of_lt_add_one (jE hb.2 hm)) R_;rw[zG R_]at this;have e:((((ρ.set 6 (.val (.int (g.fmod r)))).set 5 (.val (.int r))).set 6 (.val (.int 0))).set 5 (.val (.int (fe g r))))=(ρ.set 6 (.val (.int 0))).set 5 (.val (.int (fe g r))):=by
    rw[Aw _ _ (show(5:Nat)≠6 by decide),l_,l_]
   rwa[e]at this
theorem Gm{L u':Addr}{u:rS}{d₁ d₂:D}(P:fh c){a b:Int}(hb:0<b)(wA:b<2^64):Ex c n (mM (m4.fd (dR 53) u) L 60 Bm) [.own true (.inst (some u') 189 []),.val d₁,.val d₂,.val (.int a),.val (.int b),.no,.no] Lu
  (.next [.own true (.inst (some u') 189 (Ap ((a:Rat) / b))),.val d₁,.val d₂,.val (.int a),.val (.int b),.val (.int (fe a b)),.val (.int 0)]):=by
 have Ox:=Gl a hb;rw[show Ap ((a:Rat) / b)=([("denominator",.int (b.fdiv (fe a b))),("numerator",.int (a.fdiv (fe a b)))]:List (Str×D)) by rw[Ap,Ox.1,Ox.2]];have hz:b≠0:=uY hb;have JE:0<fe a b:=Int.gcd_pos_of_ne_zero_right _ hz;have W6:fe a b≤b.natAbs:=Nat.le_of_dvd (Int.natAbs_pos.mpr hz) (Int.gcd_dvd_natAbs_right a b);have Lb:((fe a b:Nat):Int)≠0:=Int.ofNat_ne_zero.mpr (dA JE);have UX:((fe a b:Nat):Int).natAbs<2^64:=b8 W6 (Qa (bJ hb) (jE wA (by decide)));refine Ex.seq (ba.ite (p:=(b==0)) (Tr.cmp (Ev.nm 4 rfl rfl) Ev.int cB.Ei) (λ h=>absurd h (by simpa using hz)) λ z=>Ex.nil) ?_;refine Ex.seq (ba.ite (p:=decide (b<0)) (Tr.cmp (Ev.nm 4 rfl rfl) Ev.int cB.ltI) (λ h=>absurd h (by simp;exact bJ hb)) λ z=>Ex.nil) ?_;refine Ex.seq (ba.asg 5 (Ev.nm 4 rfl rfl) rfl (od rfl) (od rfl)) ?_;refine Ex.seq (ba.asg 6 (Ev.bin (Ev.nm 3 rfl rfl) (Ev.nm 4 rfl rfl) (gF.xr hz)) rfl (od rfl) (od rfl)) ?_;have hf:=Cp (g:=a) hb;refine Ex.seq (ba.while (OY rfl rfl (od rfl) rfl _ b (a.fmod b) _ rfl rfl rfl hf.1 (Int.self_le_toNat _) hb)) ?_;rw[zG hb];refine Ex.seq (ba.put 0 (Ev.bin (Ev.nm 3 rfl rfl) (Ev.nm 5 rfl rfl) (gF.Pn Lb UX)) rfl rfl P.putN (by simp)) ?_;exact Ex.one (ba.put 0 (Ev.bin (Ev.nm 4 rfl rfl) (Ev.nm 5 rfl rfl) (gF.Pn Lb UX)) rfl rfl P.putD (by exact bD _))
theorem rK(P:fh c){a b:Int}(hb:0<b)(wA:b<2^64):mG c (n+2) (.ref 189) [.int a,.int b] [] (.inst none 189 (Ap ((a:Rat) / b))):=by
 refine eX P.QJ λ u F p hp hc=>?_;refine iz P.QK λ t0 t1 hD=>?_;refine mG.make (vn:=Bm) (np:=2) [.pos 0,.pos 1] (ρ₁:= λ u=>[.own true (.inst (some u) 189 (Ap ((a:Rat) / b))),.val (.int a),.val (.int b),.val (.int a),.val (.int b),.val (.int (fe a b)),.val (.int 0)]) P.make P.xC P.Ht F (by kernel_rfl) (by kernel_rfl) rfl rfl ?_ ?_ ?_ ⟨_,rfl⟩
 ·intro s u' vs ks S hv hk;refine iz (xy hv) λ x y z1=>?_;subst z1;cases Bb hk;exact hD.binds S rfl rfl rfl
 ·intro L u';show Ex c n (mM (m4.fd (dR 53) u) L 60 Bm) [.own true (.inst (some u') 189 []),.val (.int a),.val (.int b),.no,.no,.no,.no] _ _;refine Ex.seq (ba.ite (p:=false) (wC P (by kernel_rfl) (by kernel_rfl) (by kernel_rfl) (Ev.nm 1 rfl rfl) (Fn.oc P.L7)) (λ h=>by cases h) λ z=>Ex.nil) ?_;refine Ex.seq (ba.ite (p:=false) (wC P (by kernel_rfl) (by kernel_rfl) (by kernel_rfl) (Ev.nm 2 rfl rfl) (Fn.oc P.L7)) (λ h=>by cases h) λ z=>Ex.nil) ?_;refine Ex.seq (ba.asg 3 (Ev.nm 1 rfl rfl) rfl (od rfl) (od rfl)) ?_;refine Ex.seq (ba.asg 4 (Ev.nm 2 rfl rfl) rfl (od rfl) (od rfl)) ?_;refine Ex.seq (ba.ite (p:=false) (Tr.val (Ev.call (by kernel_rfl) P.lI trivial (ck.cons (Ev.nm 1 rfl rfl) (ck.cons (Ev.gl (by kernel_rfl) P.sP) .nil)) .nil (Fn.jk P.Jt)) kA.bool) (λ h=>by cases h) λ z=>Ex.nil) ?_;refine Ex.seq (ba.ite (p:=false) (Tr.val (Ev.call (by kernel_rfl) P.lI trivial (ck.cons (Ev.nm 2 rfl rfl) (ck.cons (Ev.gl (by kernel_rfl) P.sP) .nil)) .nil (Fn.jk P.Jt)) kA.bool) (λ h=>by cases h) λ z=>Ex.nil) ?_;refine Ex.seq (ba.ite (p:=false) (Tr.val (Ev.call (by kernel_rfl) P.lI trivial (ck.cons (Ev.nm 1 rfl rfl) (ck.cons (Ev.gl (by kernel_rfl) P.sP) .nil)) .nil (Fn.jk P.Jt)) kA.bool) (λ h=>by cases h) λ z=>Ex.nil) ?_;exact Gm P hb wA
 ·intro u;exact⟨_,rfl,λ O h v fp r=>r.qD⟩
theorem oh(P:fh c)(a:Int):mG c (n+2) (.ref 189) [.int a] [] (.inst none 189 (Ap (a:Rat))):=by
 refine eX P.QJ λ u F p hp hc=>?_;refine iz P.QK λ t0 t1 hD=>?_;have e:Ap (a:Rat)=Ap ((a:Rat) / ((1:Int):Rat)):=by
  congr 1;grind
 rw[e];refine mG.make (vn:=Bm) (np:=2) [.pos 0,.dI 1 t1] (ρ₁:= λ u=>[.own true (.inst (some u) 189 (Ap ((a:Rat) / ((1:Int):Rat)))),.val (.int a),.val (.int 1),.val (.int a),.val (.int 1),.val (.int (fe a 1)),.val (.int 0)]) P.make P.xC P.Ht F (by kernel_rfl) (by kernel_rfl) rfl rfl ?_ ?_ ?_ ⟨_,rfl⟩
 ·intro s u' vs ks S hv hk;refine xe (rB hv) λ x z1=>?_;subst z1;cases Bb hk;exact hD.binds S rfl rfl rfl
 ·intro L u';show Ex c n (mM (m4.fd (dR 53) u) L 60 Bm) [.own true (.inst (some u') 189 []),.val (.int a),.val (.int 1),.no,.no,.no,.no] _ _;refine Ex.seq (ba.ite (p:=false) (wC P (by kernel_rfl) (by kernel_rfl) (by kernel_rfl) (Ev.nm 1 rfl rfl) (Fn.oc P.L7)) (λ h=>by cases h) λ z=>Ex.nil) ?_;refine Ex.seq (ba.ite (p:=false) (wC P (by kernel_rfl) (by kernel_rfl) (by kernel_rfl) (Ev.nm 2 rfl rfl) (Fn.oc P.L7)) (λ h=>by cases h) λ z=>Ex.nil) ?_;refine Ex.seq (ba.asg 3 (Ev.nm 1 rfl rfl) rfl (od rfl) (od rfl)) ?_;refine Ex.seq (ba.asg 4 (Ev.nm 2 rfl rfl) rfl (od rfl) (od rfl)) ?_;refine Ex.seq (ba.ite (p:=false) (Tr.val (Ev.call (by kernel_rfl) (fh.lI P) trivial (ck.cons (Ev.nm 1 rfl rfl) (ck.cons (Ev.gl (by kernel_rfl) (fh.sP P)) .nil)) .nil (Fn.jk (fh.Jt P))) kA.bool) (λ h=>by cases h) λ z=>Ex.nil) ?_;refine Ex.seq (ba.ite (p:=false) (Tr.val (Ev.call (by kernel_rfl) (fh.lI P) trivial (ck.cons (Ev.nm 2 rfl rfl) (ck.cons (Ev.gl (by kernel_rfl) (fh.sP P)) .nil)) .nil (Fn.jk (fh.Jt P))) kA.bool) (λ h=>by cases h) λ z=>Ex.nil) ?_;refine Ex.seq (ba.ite (p:=false) (Tr.val (Ev.call (by kernel_rfl) (fh.lI P) trivial (ck.cons (Ev.nm 1 rfl rfl) (ck.cons (Ev.gl (by kernel_rfl) (fh.sP P)) .nil)) .nil (Fn.jk (fh.Jt P))) kA.bool) (λ h=>by cases h) λ z=>Ex.nil) ?_;exact Gm P (by decide) (by decide)
 ·intro u;exact⟨_,rfl,λ O h v fp r=>r.qD⟩
theorem DA(P:fh c){q:Rat}{b:Int}(hb:0<b)(hq:(q.den:Int)<2^32)(wA:b<2^32):mG c (n+2) (.ref 189) [eM q,.int b] [] (.inst none 189 (Ap (q / (b:Rat)))):=by
 refine eX P.QJ λ u F p hp hc=>?_;refine iz P.QK λ t0 t1 hD=>?_;have hd:(0:Int)<q.den:=by have:=q.den_pos;exact cz.mpr this
 have h0:0<b*(q.den:Int):=qP hb hd;have h1:b*(q.den:Int)<2^64:=by
  have:=Int.mul_lt_mul wA (bJ hq) hd (by decide);exact this
 have e:Ap (q / (b:Rat))=Ap ((q.num:Rat) / ((b*(q.den:Int):Int):Rat)):=by
  congr 1
  have Yt:((q.den:Int):Rat)≠0:=by
   intro h;have:=ov.mp h;lia
  have Yw:(b:Rat)≠0:=by
   intro h;have:=ov.mp h;lia
  have WE:q=(q.num:Rat) / ((q.den:Int):Rat):=by
   rw[← u4,Rat.num_divInt_den]
  rw[bH]
  conv=>lhs;rw[WE]
  grind
 rw[e];refine mG.make (vn:=Bm) (np:=2) [.pos 0,.pos 1] (ρ₁:= λ u=>[.own true (.inst (some u) 189 (Ap ((q.num:Rat) / ((b*(q.den:Int):Int):Rat)))),.val (eM q),.val (.int b),.val (.int q.num),.val (.int (b*(q.den:Int))),.val (.int (fe q.num (b*(q.den:Int)))),.val (.int 0)]) P.make P.xC P.Ht F (by kernel_rfl) (by kernel_rfl) rfl rfl ?_ ?_ ?_ ⟨_,rfl⟩
 ·intro s u' vs ks S hv hk;refine iz (xy hv) λ x y z1=>?_;subst z1;cases Bb hk;exact hD.binds S rfl rfl rfl
 ·intro L u';show Ex c n (mM (m4.fd (dR 53) u) L 60 Bm) [.own true (.inst (some u') 189 []),.val (eM q),.val (.int b),.no,.no,.no,.no] _ _;refine Ex.seq (ba.ite (p:=false) (wC P (by kernel_rfl) (by kernel_rfl) (by kernel_rfl) (Ev.nm 1 rfl rfl) (Fn.Dj P.own P.Um)) (λ h=>by cases h) λ z=>Ex.nil) ?_;refine Ex.seq (ba.ite (p:=false) (wC P (by kernel_rfl) (by kernel_rfl) (by kernel_rfl) (Ev.nm 2 rfl rfl) (Fn.oc P.L7)) (λ h=>by cases h) λ z=>Ex.nil) ?_;refine Ex.seq (ba.asg 3 (Ev.nm 1 rfl rfl) rfl (od rfl) (od rfl)) ?_;refine Ex.seq (ba.asg 4 (Ev.nm 2 rfl rfl) rfl (od rfl) (od rfl)) ?_;refine Ex.seq (ba.ite (p:=true) (Tr.val (Ev.call (by kernel_rfl) (fh.lI P) trivial (ck.cons (Ev.nm 1 rfl rfl) (ck.cons (Ev.gl (by kernel_rfl) (fh.sP P)) .nil)) .nil (Fn.gj (fh.own P) (fh.Ju P))) kA.bool) (λ z=>Ex.one (ba.asg 3 (Ev.attr (Ev.nm 1 rfl rfl) P.Ej rfl) rfl (od rfl) (od rfl))) (λ h=>by cases h)) ?_;refine Ex.seq (ba.ite (p:=false) (Tr.val (Ev.call (by kernel_rfl) (fh.lI P) trivial (ck.cons (Ev.nm 2 rfl rfl) (ck.cons (Ev.gl (by kernel_rfl) (fh.sP P)) .nil)) .nil (Fn.jk (fh.Jt P))) kA.bool) (λ h=>by cases h) λ z=>Ex.nil) ?_;refine Ex.seq (ba.ite (p:=true) (Tr.val (Ev.call (by kernel_rfl) (fh.lI P) trivial (ck.cons (Ev.nm 1 rfl rfl) (ck.cons (Ev.gl (by kernel_rfl) (fh.sP P)) .nil)) .nil (Fn.gj (fh.own P) (fh.Ju P))) kA.bool) (λ z=>Ex.one (ba.asg 4 (Ev.bin (Ev.nm 4 rfl rfl) (Ev.attr (Ev.nm 1 rfl rfl) P.Bv rfl) (gF.nB (by exact cy _) (by exact L9 hq rfl))) rfl (od rfl) (od rfl))) (λ h=>by cases h)) ?_;exact Gm P h0 h1
 ·intro u;exact⟨_,rfl,λ O h v fp r=>r.qD⟩
end
theorem tW(q:Rat):q=(q.num:Rat) / ((q.den:Int):Rat):=by rw[← u4,Rat.num_divInt_den]
theorem den_pos(q:Rat):(0:Int)<q.den:=by have:=q.den_pos;exact cz.mpr this
theorem uG(q:Rat):((q.den:Int):Rat)≠0:= λ h=>by
 have:=ov.mp h;have:=den_pos q;lia
theorem HQ(q:Rat)(i:Int):((q.num+i*(q.den:Int):Int):Rat) / ((q.den:Int):Rat)=q+i:=by
 have h:=uG q;have e:=tW q;rw[fO,bH]
 grind
theorem Ks(q r:Rat):((q.num*(r.den:Int)+r.num*(q.den:Int):Int):Rat) / (((q.den:Int)*(r.den:Int):Int):Rat)=q+r:=by
 have h:=uG q;have h':=uG r;have e:=tW q;have e':=tW r;rw[fO,bH,bH,bH]
 grind
theorem HP(q:Rat)(i:Int):((q.num*i:Int):Rat) / ((q.den:Int):Rat)=q*i:=by
 have h:=uG q;have e:=tW q;rw[bH]
 grind
section
variable {c:Cx}{n:Nat}
noncomputable abbrev A6:List Str:=["self","other"]
theorem oB{d:FD}{u:rS}(hd:∀s v w,iv s (d.fd .none u) ⟨[v,w],[]⟩ [("self",v),("other",w)]){x y:D}:∀s vs ks,bF c s→vs.length=[x,y].length→ks.map (·.1)=(fN (·.1) ([]:List (Str×D)))→iv s (d.fd .none u) ⟨vs,ks⟩ ((A6.take 2).zip ([Src.pos 0,Src.pos 1].map (·.val vs ks))):=by
 intro s vs ks z hv hk;obtain⟨a,b,rfl⟩:=xy hv;cases Bb hk;exact hd s a b
theorem xJ(q:Rat):(Ap q).all (λ p=>p.2.flat)=true:=rfl
theorem Gn(P:fh c){q:Rat}{i:Int}(hq:(q.den:Int)<2^64):rV c (n+3) .Add (eM q) (.int i) (eM (q+i)):=by
 refine eX P.Lz λ u F p hp hc=>?_;refine rV.Jv (f:=102) P.rR (mG.Tl (u:=none) ?_ (xJ _));refine mG.of (vn:=A6) (np:=2) [.pos 0,.pos 1] F (by kernel_rfl) (by kernel_rfl) rfl rfl (oB λ s v w=>.of_eq (by kernel_rfl)) λ L=>?_;refine Ex.stop (ba.ite (p:=true) (Tr.val (Ev.call (by kernel_rfl) (fh.lI P) trivial (ck.cons (Ev.nm 1 rfl rfl) (ck.cons (Ev.gl (by kernel_rfl) (fh.xI P)) .nil)) .nil (Fn.jk (fh.KV P))) kA.bool) (λ z=>Ex.one (ba.qq (gz.call (by kernel_rfl) P.sP P.keep (ck.cons (Ev.bin (Ev.attr (Ev.nm 0 rfl rfl) P.Ej rfl) (Ev.bin (Ev.nm 1 rfl rfl) (Ev.attr (Ev.nm 0 rfl rfl) P.Bv rfl) (gF.nB (by have:=den_pos q;exact cy _) hq)) gF.rR) (ck.cons (Ev.attr (Ev.nm 0 rfl rfl) P.Bv rfl) .nil)) .nil ?_))) (λ h=>by cases h)) rfl;have:=rK (n:=n) P (a:=q.num+i*(q.den:Int)) (den_pos q) hq;rwa[HQ]at this
theorem Lw(P:fh c){q r:Rat}(hq:(q.den:Int)<2^32)(hr:(r.den:Int)<2^32):rV c (n+3) .Add (eM q) (eM r) (eM (q+r)):=by
 refine eX P.Lz λ u F p hp hc=>?_;have h1:=den_pos q;have h2:=den_pos r;have h3:(q.den:Int)*(r.den:Int)<2^64:=by
  have:=Int.mul_lt_mul hq (bJ hr) h2 (by decide);exact this
 refine rV.inst (f:=102) P.PV (mG.Tl (u:=none) ?_ (xJ _));refine mG.of (vn:=A6) (np:=2) [.pos 0,.pos 1] F (by kernel_rfl) (by kernel_rfl) rfl rfl (oB λ s v w=>.of_eq (by kernel_rfl)) λ L=>?_;refine Ex.seq (ba.ite (p:=false) (Tr.val (Ev.call (by kernel_rfl) (fh.lI P) trivial (ck.cons (Ev.nm 1 rfl rfl) (ck.cons (Ev.gl (by kernel_rfl) (fh.xI P)) .nil)) .nil (Fn.gj (fh.own P) (fh.Nx P))) kA.bool) (λ h=>by cases h) λ z=>Ex.nil) ?_;refine Ex.stop (ba.ite (p:=true) (Tr.val (Ev.call (by kernel_rfl) (fh.lI P) trivial (ck.cons (Ev.nm 1 rfl rfl) (ck.cons (Ev.gl (by kernel_rfl) (fh.sP P)) .nil)) .nil (Fn.gj (fh.own P) (fh.Ju P))) kA.bool) (λ z=>Ex.one (ba.qq (gz.call (by kernel_rfl) P.sP P.keep (ck.cons (Ev.bin (Ev.bin (Ev.attr (Ev.nm 0 rfl rfl) P.Ej rfl) (Ev.attr (Ev.nm 1 rfl rfl) P.Bv rfl) (gF.nB (by exact cy _) (by exact L9 hr rfl))) (Ev.bin (Ev.attr (Ev.nm 1 rfl rfl) P.Ej rfl) (Ev.attr (Ev.nm 0 rfl rfl) P.Bv rfl) (gF.nB (by lia) (by lia))) gF.rR)
  (ck.cons (Ev.bin (Ev.attr (Ev.nm 0 rfl rfl) P.Bv rfl) (Ev.attr (Ev.nm 1 rfl rfl) P.Bv rfl) (gF.nB (by lia) (by lia))) .nil)) .nil ?_))) (λ h=>by cases h)) rfl
 have:=rK (n:=n) P (a:=q.num*(r.den:Int)+r.num*(q.den:Int)) (qP h1 h2) h3;rwa[Ks]at this
theorem Lv(P:fh c){q:Rat}{i:Int}(hq:(q.den:Int)<2^64)(hi: -2^64<i)(Dt:i<2^64):rV c (n+3) .Mult (eM q) (.int i) (eM (q*i)):=by
 refine eX P.Ph λ u F p hp hc=>?_;refine rV.Jv (f:=130) P.nB (mG.Tl (u:=none) ?_ (xJ _));refine mG.of (vn:=A6) (np:=2) [.pos 0,.pos 1] F (by kernel_rfl) (by kernel_rfl) rfl rfl (oB λ s v w=>.of_eq (by kernel_rfl)) λ L=>?_;refine Ex.stop (ba.ite (p:=true) (Tr.val (Ev.call (by kernel_rfl) (fh.lI P) trivial (ck.cons (Ev.nm 1 rfl rfl) (ck.cons (Ev.gl (by kernel_rfl) (fh.xI P)) .nil)) .nil (Fn.jk (fh.KV P))) kA.bool) (λ z=>Ex.one (ba.qq (gz.call (by kernel_rfl) P.sP P.keep (ck.cons (Ev.bin (Ev.attr (Ev.nm 0 rfl rfl) P.Ej rfl) (Ev.nm 1 rfl rfl) (gF.nB hi Dt)) (ck.cons (Ev.attr (Ev.nm 0 rfl rfl) P.Bv rfl) .nil)) .nil ?_))) (λ h=>by cases h)) rfl;have:=rK (n:=n) P (a:=q.num*i) (den_pos q) hq;rwa[HP]at this
theorem Tg(P:fh c){q r:Rat}(hq:(q.den:Int)<2^64)(hr:(r.den:Int)<2^64):cB c (n+1) .Lt (eM q) (eM r) (decide (q<r)):=by
 refine eX P.Pf λ u F p hp hc=>?_;have h1:=den_pos q;have h2:=den_pos r;refine cB.inst (f:=165) P.Ui ?_;rw[show decide (q<r)=decide (q.num*(r.den:Int)<r.num*(q.den:Int))from decide_eq_decide.mpr (Rat.lt_iff q r)];refine Fn.of (vn:=A6) (np:=2) [.pos 0,.pos 1] F (by kernel_rfl) (by kernel_rfl) rfl rfl (oB λ s v w=>.of_eq (by kernel_rfl)) λ L=>?_;refine Ex.seq (ba.ite (p:=false) (Tr.val (Ev.call (by kernel_rfl) (fh.lI P) trivial (ck.cons (Ev.nm 1 rfl rfl) (ck.cons (Ev.gl (by kernel_rfl) (fh.xI P)) .nil)) .nil (Fn.gj (fh.own P) (fh.Nx P))) kA.bool) (λ h=>by cases h) λ z=>Ex.nil) ?_;exact Ex.stop (ba.ite (p:=true) (Tr.val (Ev.call (by kernel_rfl) (fh.lI P) trivial (ck.cons (Ev.nm 1 rfl rfl) (ck.cons (Ev.gl (by kernel_rfl) (fh.sP P)) .nil)) .nil (Fn.gj (fh.own P) (fh.Ju P))) kA.bool) (λ z=>Ex.one (ba.ret (Ev.cmp (Ev.bin (Ev.attr (Ev.nm 0 rfl rfl) P.Ej rfl) (Ev.attr (Ev.nm 1 rfl rfl) P.Bv rfl) (gF.nB (by lia) (by exact hr))) (Ev.bin (Ev.attr (Ev.nm 1 rfl rfl) P.Ej rfl) (Ev.attr (Ev.nm 0 rfl rfl) P.Bv rfl) (gF.nB (by lia) (by lia))) cB.ltI))) (λ h=>by cases h)) rfl
theorem Th(P:fh c){q r:Rat}(hq:(q.den:Int)<2^64)(hr:(r.den:Int)<2^64):cB c (n+1) .LtE (eM q) (eM r) (decide (q≤r)):=by
 refine eX P.Pe λ u F p hp hc=>?_;have h1:=den_pos q;have h2:=den_pos r;refine cB.inst (f:=172) P.Uj ?_;rw[show decide (q≤r)=decide (q.num*(r.den:Int)≤r.num*(q.den:Int))from decide_eq_decide.mpr (Rat.le_iff q r)];refine Fn.of (vn:=A6) (np:=2) [.pos 0,.pos 1] F (by kernel_rfl) (by kernel_rfl) rfl rfl (oB λ s v w=>.of_eq (by kernel_rfl)) λ L=>?_;refine Ex.seq (ba.ite (p:=false) (Tr.val (Ev.call (by kernel_rfl) (fh.lI P) trivial (ck.cons (Ev.nm 1 rfl rfl) (ck.cons (Ev.gl (by kernel_rfl) (fh.xI P)) .nil)) .nil (Fn.gj (fh.own P) (fh.Nx P))) kA.bool) (λ h=>by cases h) λ z=>Ex.nil) ?_;exact Ex.stop (ba.ite (p:=true) (Tr.val (Ev.call (by kernel_rfl) (fh.lI P) trivial (ck.cons (Ev.nm 1 rfl rfl) (ck.cons (Ev.gl (by kernel_rfl) (fh.sP P)) .nil)) .nil (Fn.gj (fh.own P) (fh.Ju P))) kA.bool) (λ z=>Ex.one (ba.ret (Ev.cmp (Ev.bin (Ev.attr (Ev.nm 0 rfl rfl) P.Ej rfl) (Ev.attr (Ev.nm 1 rfl rfl) P.Bv rfl) (gF.nB (by lia) (by lia))) (Ev.bin (Ev.attr (Ev.nm 1 rfl rfl) P.Ej rfl) (Ev.attr (Ev.nm 0 rfl rfl) P.Bv rfl) (gF.nB (by lia) (by lia))) cB.Rt))) (λ h=>by cases h)) rfl
end
section
set_option backward.match.sparseCases false
section
variable {c:Cx}{n:Nat}
theorem Ib.weak{tg:Expr}{d:D}{Ds Vz:List D→Prop}(h:Ib c n tg d Ds)(k:∀ds,Ds ds→Vz ds):Ib c n tg d Vz:= λ A O s v R K r=>wm (h A O s v R K r) λ it s' q=>by
 refine nO q ?_;clear q;intro g S ds hd hi;exact⟨g,S,ds,k ds hd,hi⟩
structure jL(c:Cx)(n:Nat)(d:D)(xs:List Nat):Prop where
 set:sS c n (.type "set") [d] xs
 len:Fn c n (.builtin "len") [d] [] (.int xs.length)
 it:∀(m:Nat) (tg:Expr),Ib c m tg d λ ds=>∃ys:List Nat,ys.Perm xs∧ds=D.nats ys
theorem jL.lst{xs:List Nat}(hx:xs.Sublist [0,1,2,3]):jL c (n+6) (.lst (D.nats xs)) xs:=by
 have h4:=hx.length_le;simp only[aJ,dp]at h4;have hl:(D.nats xs).length=xs.length:=aE ..;refine⟨sS.lst hx,?_,λ m tg=>(Ib.list (tg:=tg)).weak λ ds h=>⟨xs,.refl _,h⟩⟩
 ·have:=Fn.la (c:=c) (n:=n+6) (ds:=D.nats xs) (by exact u_ hl h4 rfl);rwa[hl]at this
theorem jL.tup{xs:List Nat}(hx:xs.Sublist [0,1,2,3]):jL c (n+6) (.tup (D.nats xs)) xs:=by
 have h4:=hx.length_le;simp only[aJ,dp]at h4;have hl:(D.nats xs).length=xs.length:=aE ..;refine⟨sS.tup hx,?_,λ m tg=>(Ib.tuple (tg:=tg)).weak λ ds h=>⟨xs,.refl _,h⟩⟩
 ·have:=Fn.xw (c:=c) (n:=n+6) (ds:=D.nats xs) (by lia);rwa[hl]at this
theorem jL.dm{xs:List Nat}:jL c (n+6) (.dm xs) xs:=⟨sS.dm,Fn.yY,λ m tg=>Ib.dm⟩
noncomputable def i7(g:Int→D):D→Option D
 |.int i=>some (g i)
 |_=>none
theorem fz(g:Int→D):∀ys:List Nat,(D.nats ys).filterMap (i7 g)=ys.map λ (y:Nat)=>g (y:Int)
 |[]=>rfl
 |y::ys=>by
  rw[show D.nats (y::ys)=D.int (y:Int)::D.nats ys from rfl,bA (f:=i7 g) (b:=g (y:Int)) rfl,fz g ys];rfl
noncomputable def my:Option Nat→D
 |some m=>.int (m:Int)
 |none=>.none
noncomputable abbrev LH:List Str:=["candidates","num_cand","approved","cand"]
theorem wO(P:kd c)(G:PG c){d:D}{xs:List Nat}{o:Option Nat}(H:jL c (n+3) d xs)(ho:∀m,o=some m→∀x∈xs,x<m){u:rS}{p:Addr×Addr}(hp:p∈c.tabs)(hc:u.code=.ref p.1)(L:Addr):
  Ex c (n+3) (mM (Ct.fd (.ref 23) u) L 30 LH) [.val d,.val (my o),.no,.no] Ct.body (.qq (.dm xs)):=by
 refine Ex.seq (ba.lh 2 (gz.call (by kernel_rfl) G.set trivial (ck.cons (Ev.nm 0 rfl rfl) .nil) .nil H.set.o) rfl (od rfl) (od rfl)) ?_;refine Ex.seq (ba.ite (p:=((xs.length:Int)!=(xs.length:Int))) (Tr.cmp (Ev.call (by kernel_rfl) G.len trivial (ck.cons (Ev.nm 0 rfl rfl) .nil) .nil H.len) (Ev.tO 2 rfl rfl rfl (Ev.call (by kernel_rfl) G.len trivial (ck.cons (Ev.nm 2 rfl rfl) .nil) .nil Fn.yY)) cB.KI) (λ h=>absurd h (by simp)) λ j=>Ex.nil) ?_;refine Ex.seq (ρ':=[.val d,.val (my o),.own true (.dm xs),.no]) (ba.for (kg.of (Ev.nm 0 rfl rfl) (H.it _ _)) λ ds hd=>?_) ?_
 ·obtain⟨ys,uq,rfl⟩:=hd;refine Lp.each 3 rfl (od rfl) rfl _ λ d' iP=>?_;refine jw iP λ y hy=>?_;exact Ex.one (ba.ite (p:=false) (Tr.not (Tr.val (Ev.call (by kernel_rfl) G.RF trivial (ck.cons (Ev.nm 3 rfl rfl) (ck.cons (Ev.gl (by kernel_rfl) G.int) .nil)) .nil (Fn.jk G.KV)) kA.bool)) (λ h=>by cases h) λ j=>Ex.nil)
 refine Ex.seq (ba.ite (p:=false) (Tr.not (b:=true) (Tr.val (Ev.zR (m:=n+2) (tg:=.Name "x" default) (by kernel_rfl) G.all trivial (Hi.mk (n:=n) (tn:=["cand"]) (ix:=[]) (by kernel_rfl) rfl (i7 λ i=>.bool (decide (0≤i))) (kg.of (Ev.nm 0 rfl rfl) (H.it _ _)) hp hc λ ds hd C code d' iP=>?_) (by exact bq _) λ eL ho=>?_) kA.bool)) (λ h=>by cases h) λ j=>Ex.nil) ?_
 ·obtain⟨ys,uq,rfl⟩:=hd;refine jw iP λ y hy=>?_;exact El.nm 0 rfl (od rfl) rfl λ z hz=>by
   cases hz;exact(Ev.cmp (Ev.nm 0 rfl rfl) Ev.int cB.Vg).flat rfl
 ·obtain⟨ds,⟨ys,uq,rfl⟩,rfl⟩:=ho;rw[fz,show(ys.map λ (y:Nat)=>D.bool (decide (0≤(y:Int))))=(ys.map λ j=>true).map D.bool by simp];have:=x8.all (c:=c) (x:="x") (p:=default) (bs:=ys.map λ j=>true) (az (n+2));rwa[show(ys.map λ j=>true).all id=true by simp]at this
 refine Ex.seq (ba.ite (p:=((!(my o).isNone)&&false)) (Tr.qL (Tr.cmp (Ev.nm 1 rfl rfl) Ev.lF (cB.vF (by cases o<;>rfl))) λ hn=>Tr.val (Ev.zR (m:=n+2) (tg:=.Name "x" default) (by kernel_rfl) G.any trivial (Hi.mk (n:=n) (tn:=["cand"]) (ix:=[1]) (by kernel_rfl) rfl (i7 λ i=>.bool false) (kg.of (Ev.nm 0 rfl rfl) (H.it _ _)) hp hc λ ds hd C code d' iP=>?_) (by omega) λ eL ho=>?_) kA.bool) (λ h=>by simp at h) λ j=>Ex.nil) ?_
 ·obtain⟨ys,uq,rfl⟩:=hd;refine jw iP λ y hy=>?_;obtain⟨m,rfl⟩:∃m,o=some m:=by cases o with|none=>exact absurd hn (by decide)|some m=>exact⟨m,rfl⟩
  exact El.nm 0 rfl (od rfl) rfl λ z hz=>by
   cases hz;have gy:=ho m rfl y (uq.mem_iff.mp hy);have:=cB.Vg (c:=c) (n:=n) (a:=(y:Int)) (b:=(m:Int));rw[show decide ((m:Int)≤(y:Int))=false by simp;omega]at this;exact(Ev.cmp (Ev.nm 0 rfl rfl) (Ev.nm 1 rfl rfl) this).flat rfl
 ·obtain⟨ds,⟨ys,uq,rfl⟩,rfl⟩:=ho;rw[fz,show(ys.map λ j=>D.bool false)=(ys.map λ j=>false).map D.bool by simp];have:=x8.any (c:=c) (x:="x") (p:=default) (bs:=ys.map λ j=>false) (az (n+2));rwa[show(ys.map λ j=>false).any id=false by simp]at this
 exact Ex.one (ba.Rg 2 rfl rfl)
theorem DG(P:kd c)(G:PG c){d:D}{xs:List Nat}(H:jL c (n+3) d xs):mG c (n+4) (.ref 30) [d] [] (.dm xs):=by
 refine eX P.To λ u F p hp hc=>?_;refine xe P.TI λ v hD=>?_;refine mG.of (vn:=LH) (np:=2) [.pos 0,.dN] F (by kernel_rfl) (by kernel_rfl) rfl rfl ?_ λ L=>?_
 ·intro s vs ks S hv hk;refine xe (rB hv) λ x z1=>?_;subst z1;cases Bb hk;exact hD.binds S rfl rfl rfl
 ·exact wO P G (o:=none) H (λ m h=>by cases h) hp hc L
theorem Br(P:kd c)(G:PG c){d:D}{xs:List Nat}{o:Option Nat}(H:jL c (n+3) d xs)(ho:∀m,o=some m→∀x∈xs,x<m):mG c (n+4) (.ref 30) [d] [("num_cand",my o)] (.dm xs):=by
 obtain⟨u,F,p,hp,hc⟩:=P.To;obtain⟨v,hD⟩:=P.TI;refine mG.of (vn:=LH) (np:=2) [.pos 0,.kw 0] F (by kernel_rfl) (by kernel_rfl) rfl rfl ?_ λ L=>?_
 ·intro s vs ks S hv hk;obtain⟨x,rfl⟩:=rB hv;obtain⟨y,rfl⟩:=Qf hk;exact hD.binds S rfl rfl rfl
 ·exact wO P G H ho hp hc L
theorem mG.Tj{f:ag}{ds:List D}{kws:List (Str×D)}{xs:List Nat}(h:mG c n f ds kws (.dm xs)):P6 c n f ds kws (.dm xs):= λ A O s vs ks R K r r'=>
 wm (h A O s vs ks R K r r') λ v s' q=>by
  refine eG q ?_;clear q;intro fp g S r jx;refine⟨g,S,λ O' Dx=>?_⟩;refine lB r ?_;clear r;intro a ts m z1 zh;refine b_ zh ?_;clear zh;intro z2 e hl hx;subst z1;subst z2;exact⟨a,ts,m,rfl,λ hb=>ak _ (ab (Dx a hb) (jx a (.head _)).1),e,hl,hx⟩
end
end
section
set_option backward.match.sparseCases false
noncomputable def strsOf(xs:List Nat):List Str:=xs.map λ (x:Nat)=>(toString (x:Int):Str)
noncomputable def keyOf(xs:List Nat):Str:=("{":Str)++Txt.join (", ":Str) (strsOf xs)++("}":Str)
theorem HA:∀xs∈kJ,sortedS (strsOf xs)=true∧JoinOk (", ":Str) (strsOf xs)=true∧Str.length ("{":Str)+(Txt.join (", ":Str) (strsOf xs)).length≤1000∧((("{":Str)++Txt.join (", ":Str) (strsOf xs)).length+Str.length ("}":Str))≤1000:=by decide +kernel
section
variable {c:Cx}{n:Nat}
theorem Perm.strsOf{ys xs:List Nat}(h:ys.Perm xs):(strsOf xs).Perm (strsOf ys):=(h.symm.map _)
theorem EL(P:kd c)(G:PG c){xs:List Nat}(hx:xs.Sublist [0,1,2,3]):Fn c (n+5) (.ref 45) [.dm xs] [] (.str (keyOf xs)):=by
 obtain⟨u,F,p,hp,hc⟩:=P.Vj;obtain⟨h1,h2,h3,QH⟩:=HA xs (oA hx);have h4:=hx.length_le;simp only[aJ,dp]at h4;refine Fn.of (vn:=["candset","cand_names","named"]) (np:=2) [.pos 0,.dN] F (by kernel_rfl) (by kernel_rfl) rfl rfl ?_ λ L=>?_
 ·intro s vs ks S hv hk;obtain⟨x,rfl⟩:=rB hv;cases Bb hk;exact P.Vt.binds S rfl rfl rfl
 ·show Ex c (n+4) (mM (GA.fd (.ref 38) u) L 45 ["candset","cand_names","named"]) [.val (.dm xs),.val .none,.no] _ _;refine Ex.seq (ba.ite (p:=true) (Tr.cmp (Ev.nm 1 rfl rfl) Ev.lF (cB.NB rfl)) (λ j=>Ex.one (ba.asg 2 (Ev.zR (m:=n+2) (tg:=.Name "x" default) (by kernel_rfl) G.sorted trivial (Hi.mk (n:=n) (tn:=["cand"]) (ix:=[]) (by kernel_rfl) rfl (i7 λ i=>.str (toString i)) (kg.of (Ev.nm 0 rfl rfl) Ib.dm) hp hc λ ds hd C code d' iP=>?_) (by exact eT (bq _)) λ eL ho=>(?_:x8 c (n+4) (n+2) _ _ eL (.lst ((strsOf xs).map D.str)))) rfl (od rfl) (od rfl))) (λ h=>by cases h)) ?_
  ·obtain⟨ys,uq,rfl⟩:=hd;refine jw iP λ y hy=>?_;have Wn:y∈[0,1,2,3]:=hx.subset (uq.mem_iff.mp hy);exact El.nm 0 rfl (od rfl) rfl λ z hz=>by
    cases hz;exact(Ev.call (by kernel_rfl) G.str trivial (ck.cons (Ev.nm 0 rfl rfl) .nil) .nil (Fn.str ((by decide:∀y∈[0,1,2,3],((y:Nat):Int).natAbs<2^60) y Wn))).flat rfl
  ·obtain⟨ds,⟨ys,uq,rfl⟩,rfl⟩:=ho;rw[fz,show(ys.map λ (y:Nat)=>D.str (toString (y:Int)))=(strsOf ys).map D.str by simp[strsOf,bI]];have hl:(strsOf ys).length≤4:=by rw[strsOf,aE,uq.length_eq];exact h4
   exact x8.sorted (n:=n+2) (az _) (by rw[aE];exact rC hl rfl) (vM.strs (by exact L4 hl rfl) (Perm.strsOf uq) h1)
  ·refine Ex.one (ba.ret (Ev.bin (Ev.bin Ev.ny (Ev.join Ev.ny (Ev.nm 2 rfl rfl) h2) (gF.PU h3)) Ev.ny (gF.PU QH)))
noncomputable def natOf:D→Option Nat
 |.int i=>some i.toNat
 |_=>none
theorem pB:∀xs:List Nat,(D.nats xs).filterMap natOf=xs
 |[]=>rfl
 |x::xs=>by
  rw[show D.nats (x::xs)=D.int (x:Int)::D.nats xs from rfl,bA (f:=natOf) (b:=x) rfl,pB xs]
noncomputable def Cw:D→Option D
 |.dm xs=>some (.dm xs)
 |.lst ds=>some (.dm (ds.filterMap natOf))
 |.tup ds=>some (.dm (ds.filterMap natOf))
 |_=>none
theorem wQ{mk:List Nat→D}(h:∀xs,Cw (mk xs)=some (.dm xs)):∀cs:List (List Nat),(cs.map mk).filterMap Cw=cs.map D.dm
 |[]=>rfl
 |x::xs=>by rw[a9,bA (h x),wQ h xs,a9]
theorem xg(P:kd c)(G:PG c){mk:List Nat→D}{css:List (List Nat)}{d:D}(UJ:∀xs,Cw (mk xs)=some (.dm xs))(hC:∀xs∈css,jL c (n+6) (mk xs) xs)(hi:∀(m:Nat) (tg:Expr),Ib c m tg d λ ds=>∃cs:List (List Nat),cs.Perm css∧ds=cs.map mk)(hx:∀xs∈css,xs.Sublist [0,1,2,3])(hs:css.Pairwise λ x y=>strLt (keyOf x) (keyOf y)=true)(h6:css.length≤6):Fn c (n+12) (.ref 37) [d] [] (.lst (css.map D.dm)):=by
 obtain⟨u,F,p,hp,hc⟩:=P.Vk;refine Fn.of (vn:=["committees"]) (np:=1) [.pos 0] F (by kernel_rfl) (by kernel_rfl) rfl rfl ?_ λ L=>?_
 ·intro s vs ks S hv hk;obtain⟨x,rfl⟩:=rB hv;cases Bb hk;exact .of_eq (by kernel_rfl)
 ·show Ex c (n+11) (mM (uH.fd .none u) L 37 ["committees"]) [.val d] _ _;refine Ex.one (ba.ret (Ev.LK (m:=n+9) (tg:=.Name "x" default) (u:=.ref 45) (by kernel_rfl) G.sorted trivial (Hi.mk (n:=n+7) (tn:=["committee"]) (ix:=[]) (by kernel_rfl) rfl Cw (kg.of (Ev.nm 0 rfl rfl) (hi _ _)) hp hc λ ds hd C code d' iP=>?_) (by exact eT (bq _)) (by kernel_rfl) P.OW λ eL ho=>?_))
  ·obtain⟨cs,Lf,rfl⟩:=hd;refine jw iP λ xs Jx=>?_;have hm:=Lf.mem_iff.mp Jx;rw[UJ xs];exact El.nm 0 rfl (od rfl) rfl λ z hz=>by
    cases hz;exact xV.call (by kernel_rfl) P.gC P.kC (ck.cons (Ev.nm 0 rfl rfl) .nil) .nil (DG P G (hC xs hm)).Tj
  ·obtain⟨ds,⟨cs,Lf,rfl⟩,rfl⟩:=ho;rw[wQ UJ];have Ve:cs.length≤6:=by rw[Lf.length_eq];exact h6
   exact I2.sorted (n:=n+9) (az _) (by rw[aE];exact rC Ve rfl) (vM.Nv (n:=n+8) (f:=D.dm) (key:=keyOf) [] Lf.symm hs Ve λ x wt=>EL P G (n:=n+3) (hx x (Lf.mem_iff.mp wt)))
end
end
noncomputable def Hq(w:Int)(xs:List Nat):List (Str×D):=[("weight",.int w),("approved",.dm xs)]
noncomputable abbrev ly(v:Int×List Nat):D:=.inst 600 (Hq v.1 v.2)
noncomputable def Kx(n:Nat):List (Str×D):=[("cand_names",.lst ((aw n).map λ (i:Nat)=>D.str (toString (i:Int)))),("candidates",.lst (D.nats (aw n)))]
noncomputable abbrev o9(n:Nat)(vs:List (Int×List Nat)):D:=.inst 563 (("_voters",.lst (vs.map ly))::Kx n)
section
variable {c:Cx}{n:Nat}
noncomputable abbrev J5:List Str:=["self","approved","weight","num_cand"]
theorem kA.none:kA c n .none false:= λ A O s v R K r=>by
 subst r;exact dg (t:=truthy .none) (a:=false) (by first|rfl|kernel_rfl) ⟨rfl,.refl ..,K.br⟩
theorem BQ(P:iB c)(PC:kd c)(G:PG c){d:D}{xs:List Nat}{o:Option Nat}{w:Int}(H:jL c (n+3) d xs)(ho:∀m,o=some m→∀x∈xs,x<m)(hw:0<w){u:rS}(L u':Addr):
  Ex c (n+4) (mM (mZ.fd (.ref 575) u) L 582 J5) [.own true (.inst (some u') 600 []),.val d,.val (.int w),.val (my o)] mZ.body (.next [.own true (.inst (some u') 600 (Hq w xs)),.val d,.val (.int w),.val (my o)]):=by
 refine Ex.seq (ba.put 0 (Ev.call (by kernel_rfl) PC.gC PC.kC (ck.cons (Ev.nm 1 rfl rfl) .nil) (ou.cons (Ev.nm 3 rfl rfl) .nil) ((Br PC G H ho).fn rfl)) rfl rfl P.MY (by simp)) ?_;refine Ex.seq (ba.put 0 (Ev.nm 2 rfl rfl) rfl rfl P.MW (by exact bD _)) ?_;exact Ex.one (ba.ite (p:=decide (w≤0)) (Tr.cmp (Ev.PB 0 rfl rfl P.PH rfl) Ev.int cB.Rt) (λ h=>absurd h (by simp;omega)) λ z=>Ex.nil)
theorem Hp(P:iB c)(PC:kd c)(G:PG c){d:D}{xs:List Nat}{w:Int}(H:jL c (n+3) d xs)(hw:0<w):mG c (n+6) (.ref 600) [d] [("weight",.int w)] (.inst none 600 (Hq w xs)):=by
 obtain⟨u,F,p,hp,hc⟩:=P.Lx;obtain⟨t,hD⟩:=P.LD;refine mG.make (vn:=J5) (np:=3) [.pos 0,.kw 0,.dN] (ρ₁:= λ u'=>[.own true (.inst (some u') 600 (Hq w xs)),.val d,.val (.int w),.val (my none)]) P.Fm P.FK P.EA F (by kernel_rfl) (by kernel_rfl) rfl rfl ?_ ?_ ?_ ⟨_,rfl⟩
 ·intro s u' vs ks S hv hk;obtain⟨x,rfl⟩:=rB hv;obtain⟨y,rfl⟩:=Qf hk;exact hD.binds S rfl rfl rfl
 ·intro L u';exact BQ P PC G (o:=none) H (λ m h=>by cases h) hw L u'
 ·intro u;exact⟨_,rfl,λ O h v fp r=>r.qD⟩
theorem Ew(P:iB c)(PC:kd c)(G:PG c){d:D}{xs:List Nat}{w:Int}{m:Nat}(H:jL c (n+3) d xs)(ho:∀x∈xs,x<m)(hw:0<w):mG c (n+6) (.ref 600) [d] [("weight",.int w),("num_cand",.int (m:Int))] (.inst none 600 (Hq w xs)):=by
 refine eX P.Lx λ u F p hp hc=>?_;refine xe P.LD λ t hD=>?_;refine mG.make (vn:=J5) (np:=3) [.pos 0,.kw 0,.kw 1] (ρ₁:= λ u'=>[.own true (.inst (some u') 600 (Hq w xs)),.val d,.val (.int w),.val (my (some m))]) P.Fm P.FK P.EA F (by kernel_rfl) (by kernel_rfl) rfl rfl ?_ ?_ ?_ ⟨_,rfl⟩
 ·intro s u' vs ks S hv hk;refine xe (rB hv) λ x z1=>?_;subst z1;refine iz (Ru hk) λ y z z1=>?_;subst z1;exact hD.binds S rfl rfl rfl
 ·intro L u';exact BQ P PC G (o:=some m) H (λ m' h=>by cases h;exact ho) hw L u'
 ·intro u;exact⟨_,rfl,λ O h v fp r=>r.qD⟩
theorem C3:∀m:Nat,qp 0 (m:Int)=(aw m).map λ (i:Nat)=>(i:Int):= λ m=>by
 unfold qp;rw[show((m:Int) -0).toNat=m by rfl];exact cj λ i z=>by exact Int.zero_add _
theorem HK(m:Nat):(qp 0 (m:Int)).map D.int=D.nats (aw m):=by rw[C3,bI];rfl
noncomputable abbrev MZ:List Str:=["self","num_cand","cand_names"]
theorem HS(P:iB c)(G:PG c){m:Nat}(h0:0<m)(h4:m≤4):mG c (n+3) (.ref 563) [.int (m:Int)] [] (.kc none 563 (Kx m) "_voters" []):=by
 refine eX P.O8 λ u F p hp hc=>?_;refine mG.make (n:=n+1) (vn:=MZ) (np:=2) [.pos 0,.dN] (ρ₁:= λ u'=>[.own true (.kc (some u') 563 (Kx m) "_voters" []),.val (.int (m:Int)),.val .none]) P.Jo P.Jw P.I7 F (by kernel_rfl) (by kernel_rfl) rfl rfl ?_ ?_ ?_ ⟨_,rfl⟩
 ·intro s u' vs ks S hv hk;refine xe (rB hv) λ x z1=>?_;subst z1;cases Bb hk;exact P.Ps.binds S rfl rfl rfl
 ·intro L u';show Ex c (n+1) (mM (rO.fd (.ref 449) u) L 454 MZ) [.own true (.inst (some u') 563 []),.val (.int (m:Int)),.val .none] _ _;refine Ex.seq (ba.ite (p:=decide ((m:Int)≤0)) (Tr.cmp (Ev.nm 1 rfl rfl) Ev.int cB.Rt) (λ h=>absurd h (by simp;exact dA h0)) λ j=>Ex.nil) ?_;have hr:Fn c (n+1) (.type "list") [.D7 0 (m:Int)] [] (.lst (D.nats (aw m))):=by
   have:=Fn.Fv (c:=c) (n:=n+1) (a:=0) (b:=(m:Int)) (by decide) (by decide) (by exact cy _) (by exact RL h4 rfl);rwa[show D.ints (qp 0 (m:Int))=D.nats (aw m)from HK m]at this
  refine Ex.seq (ba.put 0 (Ev.call (by kernel_rfl) G.list trivial (ck.cons (Ev.call (by kernel_rfl) G.range trivial (ck.cons (Ev.nm 1 rfl rfl) .nil) .nil Fn.AY) .nil) .nil hr) rfl rfl P.MX (by simp)) ?_;refine Ex.seq (ba.put 0 (d:=.lst ((aw m).map λ (i:Nat)=>D.str (toString (i:Int)))) (gz.ev (q:=.lst ((aw m).map λ (i:Nat)=>D.str (toString (i:Int)))) ?_ rfl) rfl rfl P.putN (by exact bD _)) ?_
  ·rw[← fz λ i=>D.str (toString i)];refine gz.comp (tn:=["cand"]) (ix:=[]) (by kernel_rfl) (ds:=D.nats (aw m)) (i7 λ i=>.str (toString i)) (kg.of (Ev.call (by kernel_rfl) G.range trivial (ck.cons (Ev.nm 1 rfl rfl) .nil) .nil Fn.AY) (by rw[← HK];exact Ib.range (by decide) (by decide) (by lia) (by lia))) (by simp[D.nats];exact af h4 (aG _ _)) λ C d' iP=>?_;refine jw iP λ y hy=>?_;have hy:=aO.mp hy;exact El.nm 0 rfl (od rfl) rfl λ z hz=>by
    cases hz;exact Ev.call (by kernel_rfl) G.str trivial (ck.cons (Ev.nm 0 rfl rfl) .nil) .nil (Fn.str (by exact G6 hy h4 rfl))
  refine Ex.seq (ba.putL 0 (gz.lst .nil) rfl rfl P.Jk (by simp)) ?_;exact Ex.one (ba.ite (p:=false) (Tr.val (Ev.nm 2 rfl rfl) kA.none) (λ h=>by cases h) λ j=>Ex.nil)
 ·intro u;exact⟨_,rfl,λ O h v fp r=>r.Ca⟩
theorem yS(P:iB c)(G:PG c){m:Nat}{vs:List (Int×List Nat)}(h4:m≤4):P7 c (n+1) 461 [o9 m vs] (.int (m:Int)):=by
 refine eX P.O7 λ u F p hp hc=>?_;refine P7.of (vn:=["self"]) (np:=1) F (by kernel_rfl) (by kernel_rfl) rfl ?_ λ L=>?_
 ·intro s vs S hv;refine xe (rB hv) λ x z1=>?_;subst z1;exact .of_eq (by kernel_rfl)
 ·have:=Fn.la (c:=c) (n:=n) (ds:=D.nats (aw m)) (by simp[D.nats];lia);rw[show((D.nats (aw m)).length:Int)=(m:Int) by simp[D.nats]]at this;exact Ex.one (ba.ret (Ev.call (by kernel_rfl) G.len trivial (ck.cons (Ev.attr (Ev.nm 0 rfl rfl) P.Cv rfl) .nil) .nil this))
theorem A5(P:iB c)(G:PG c){m:Nat}{vs:List (Int×List Nat)}(h:vs.length≤900):Fn c (n+2) (.builtin "len") [o9 m vs] [] (.int (vs.length:Int)):=by
 refine eX P.O6 λ u F p hp hc=>?_;refine Fn.Fx P.Nl P.Nm ?_ (by exact cy _) (by exact Wg h rfl);refine Fn.of (vn:=["self"]) (np:=1) [.pos 0] F (by kernel_rfl) (by kernel_rfl) rfl rfl ?_ λ L=>?_
 ·intro s vs ks S hv hk;refine xe (rB hv) λ x z1=>?_;subst z1;cases Bb hk;exact .of_eq (by kernel_rfl)
 ·have:=Fn.la (c:=c) (n:=n) (ds:=vs.map ly) (by simp;exact af h (aG _ _));rw[show((vs.map ly).length:Int)=(vs.length:Int) by simp]at this;exact Ex.one (ba.ret (Ev.call (by kernel_rfl) G.len trivial (ck.cons (Ev.attr (Ev.nm 0 rfl rfl) P.GN rfl) .nil) .nil this))
theorem uniq(P:iB c)(PC:kd c)(G:PG c){m:Nat}{vs:List (Int×List Nat)}{w:Int}{xs:List Nat}(h4:m≤4)(hw:0<w)(ho:∀x∈xs,x<m):Fn c (n+10) (.ref 483) [o9 m vs,.inst 600 (Hq w xs)] [] (.inst 600 (Hq w xs)):=by
 refine eX P.O5 λ u F p hp hc=>?_;refine xe P.E7 λ pr K3=>?_;refine Fn.of (vn:=["self","voter","_voter"]) (np:=2) [.pos 0,.pos 1] F (by kernel_rfl) (by kernel_rfl) rfl rfl ?_ λ L=>?_
 ·intro s vs ks S hv hk;refine iz (xy hv) λ x y z1=>?_;subst z1;cases Bb hk;exact .of_eq (by kernel_rfl)
 ·show Ex c (n+9) (mM (Gz.fd .none u) L 483 ["self","voter","_voter"]) [.val (o9 m vs),.val (.inst 600 (Hq w xs)),.no] _ _;refine Ex.seq (ba.ite (p:=true) (Tr.val (Ev.call (by kernel_rfl) G.RF trivial (ck.cons (Ev.nm 1 rfl rfl) (ck.cons (Ev.gl (by kernel_rfl) P.gV) .nil)) .nil (Fn.gj P.M5 P.Ul)) kA.bool) (λ z=>Ex.one (ba.asg 2 (Ev.call (by kernel_rfl) P.gV P.kV (ck.cons (Ev.attr (Ev.nm 1 rfl rfl) P.LM rfl) .nil) (ou.cons (Ev.attr (Ev.nm 1 rfl rfl) P.PH rfl) (ou.cons (Ev.prop (Ev.nm 0 rfl rfl) K3 (yS (n:=n+7) P G h4)) .nil)) ((Ew (n:=n+3) P PC G jL.dm ho hw).fn rfl)) rfl (od rfl) (od rfl))) (λ h=>by cases h)) ?_;exact Ex.one (ba.ret (Ev.nm 2 rfl rfl))
end
noncomputable def pK:FD:=defAt 6
section
variable {c:Cx}{n:Nat}
theorem Ti(P:fh c){q r:Rat}:cB c (n+1) .Eq (eM q) (eM r) (decide (q=r)):=by
 refine eX P.Pg λ u F p hp hc=>?_;refine cB.inst (f:=158) P.Vm ?_;have e:decide (q=r)=((q.num==r.num)&&((q.den:Int)==(r.den:Int))):=by
  by_cases h:q=r
  ·subst h;simp
  ·rw[decide_eq_false h]
   symm
   rw[Bool.and_eq_false_iff]
   by_cases hn:q.num=r.num
   ·right;simp only[beq_eq_false_iff_ne,ne_eq];intro hd;exact h (Rat.ext hn (by exact vS hd))
   ·left;simpa using hn
 rw[e];refine Fn.of (vn:=A6) (np:=2) [.pos 0,.pos 1] F (by kernel_rfl) (by kernel_rfl) rfl rfl (oB λ s v w=>.of_eq (by kernel_rfl)) λ L=>?_;refine Ex.seq (ba.ite (p:=false) (Tr.val (Ev.call (by kernel_rfl) (fh.lI P) trivial (ck.cons (Ev.nm 1 rfl rfl) (ck.cons (Ev.gl (by kernel_rfl) (fh.xI P)) .nil)) .nil (Fn.gj (fh.own P) (fh.Nx P))) kA.bool) (λ h=>by cases h) λ z=>Ex.nil) ?_;exact Ex.stop (ba.ite (p:=true) (Tr.val (Ev.call (by kernel_rfl) (fh.lI P) trivial (ck.cons (Ev.nm 1 rfl rfl) (ck.cons (Ev.gl (by kernel_rfl) (fh.sP P)) .nil)) .nil (Fn.gj (fh.own P) (fh.Ju P))) kA.bool) (λ z=>Ex.one (ba.ret (Ev.TP (Ev.cmp (Ev.attr (Ev.nm 0 rfl rfl) P.Ej rfl) (Ev.attr (Ev.nm 1 rfl rfl) P.Ej rfl) cB.Ei) λ z=>Ev.cmp (Ev.attr (Ev.nm 0 rfl rfl) P.Bv rfl) (Ev.attr (Ev.nm 1 rfl rfl) P.Bv rfl) cB.Ei))) (λ h=>by cases h)) rfl
theorem vI(P:fh c)(H:FnAt c 441 rP .none){q:Rat}{b:Int}(hb:0<b)(hq:(q.den:Int)<2^32)(wA:b<2^32):mG c (n+3) (.ref 441) [eM q,.int b] [] (.inst none 189 (Ap (q / (b:Rat)))):=by
 refine eX H ?_;clear H;intro u F p hp hc;refine mG.of (vn:=["x","y"]) (np:=2) [.pos 0,.pos 1] F (by kernel_rfl) (by kernel_rfl) rfl rfl ?_ λ L=>?_
 ·intro s vs ks z hv hk;refine iz (xy hv) λ a b z1=>?_;subst z1;cases Bb hk;exact .of_eq (by kernel_rfl)
 ·exact Ex.one (ba.qq (gz.call (by kernel_rfl) P.sP P.keep (ck.cons (Ev.nm 0 rfl rfl) (ck.cons (Ev.nm 1 rfl rfl) .nil)) .nil (DA P hb hq wA)))
noncomputable def lU:Option Rat→D
 |none=>.int 0
 |some a=>eM a
noncomputable def pQ:Option Rat→Rat
 |none=>0
 |some a=>a
noncomputable def nw:List Rat→Option Rat→Option Rat
 |[],a=>a
 |q::qs,a=>nw qs (some (q+pQ a))
noncomputable def zX:List Rat→Option Rat→Prop
 |[],_=>True
 |q::qs,a=>(q.den:Int)<2^32∧((pQ a).den:Int)<2^32∧zX qs (some (q+pQ a))
noncomputable def w9:Expr:=pH pK.body 1
noncomputable def IT:List Stmt:=nD pK.body 1
theorem LR(P:fh c){q:Rat}{a:Option Rat}(h1:(q.den:Int)<2^32)(h2:((pQ a).den:Int)<2^32):gF c (n+3) .Add (eM q) (lU a) (eM (q+pQ a)):=by
 cases a with
 |none=>
  have:=(Gn (c:=c) (n:=n) P (q:=q) (i:=0) (by exact L9 h1 rfl)).bin;rwa[show((0:Int):Rat)=0 from rfl]at this
 |some a=>exact(Lw P h1 h2).bin
theorem AH(P:fh c)(H:FnAt c 200 pK .none){m:Nat}{qs:List Rat}(hm:m≤n+3)(ho:zX qs none):x8 c (n+4) m (.ref 200) w9 (qs.map eM) (lU (nw qs none)):=by
 refine eX H ?_;clear H;intro u F p hp hc;refine x8.of (vn:=["values","result","value"]) F (by kernel_rfl) rfl (λ s v z=>.of_eq (by kernel_rfl)) hm λ L it=>?_;show I3 c (n+3) (mM (pK.fd .none u) L 200 ["values","result","value"]) [.val (.lit it),.no,.no] _ _ _ _ _;refine I3.seq (ba.asg 1 Ev.int rfl (od rfl) (od rfl)) ?_;refine I3.for (ρ':=[.val (.lit it),.val (lU (nw qs none)),.no]) (Ev.nm 0 rfl rfl) ?_ (Ex.one (ba.ret (Ev.nm 1 rfl rfl)));have key:∀(qs:List Rat) (a:Option Rat),zX qs a→Lp c (n+3) (mM (pK.fd .none u) L 200 ["values","result","value"]) [.val (.lit it),.val (lU a),.no] w9 IT (qs.map eM) (.next [.val (.lit it),.val (lU (nw qs a)),.no]):=by
  intro qs
  induction qs with
  |nil=>intro a z;exact Lp.nil
  |cons q qs ih=>
   intro a h;refine Lp.step (ρ'':=[.val (.lit it),.val (lU (some (q+pQ a))),.no]) (ju.name 2 rfl (od rfl) (od rfl)) ?_ (ih _ h.2.2);refine Ex.weak (ρ₁:=[.val (.lit it),.val (lU (some (q+pQ a))),.val (eM q)]) ?_ (cx.set (ρ:=[.val (.lit it),.val (lU (some (q+pQ a))),.no]) (i:=2) rfl);exact Ex.one (ba.asg 1 (Ev.ite (p:=true) (d₂:=.none) (Tr.val (Ev.call (by kernel_rfl) (fh.lI P) trivial (ck.cons (Ev.nm 2 rfl rfl) (ck.cons (Ev.gl (by kernel_rfl) (fh.sP P)) .nil)) .nil (Fn.gj (fh.own P) (fh.Ju P))) kA.bool) (λ z=>Ev.bin (Ev.nm 2 rfl rfl) (Ev.nm 1 rfl rfl) (LR P h.1 h.2.1)) (λ h=>by cases h)) rfl (od rfl) (od rfl))
 exact key qs none ho
end
noncomputable def uI:FD:=defAt 33
noncomputable abbrev Row:=List Nat×Int
noncomputable abbrev iF(r:Row):D:=.tup [.lst (D.nats r.1),.int r.2]
noncomputable def dZ(rows:List Row):List (Int×List Nat):=rows.map λ r=>(r.2,r.1)
noncomputable def Cz(m:Nat)(r:Row):Prop:=r.1.Sublist [0,1,2,3]∧(∀x∈r.1,x<m)∧0<r.2∧r.2≤12
section
variable {c:Cx}{n:Nat}
theorem Df(P:iB c)(PC:kd c)(G:PG c)(H:FnAt c 611 uI .none){m:Nat}{rows:List Row}(h0:0<m)(h4:m≤4)(hr:∀r∈rows,Cz m r)(hl:rows.length≤100):Fn c (n+12) (.ref 611) [.int (m:Int),.lst (rows.map iF)] [] (o9 m (dZ rows)):=by
 refine eX H ?_;clear H;intro u F p hp hc;refine eX P.O4 λ u2 F2 p2 Yp Dw=>?_;refine Fn.of (vn:=["n","rows","made","ballot","weight"]) (np:=2) [.pos 0,.pos 1] F (by kernel_rfl) (by kernel_rfl) rfl rfl ?_ λ L=>?_
 ·intro s vs ks z hv hk;refine iz (xy hv) λ a b z1=>?_;subst z1;cases Bb hk;exact .of_eq (by kernel_rfl)
 ·show Ex c (n+11) (mM (uI.fd .none u) L 611 ["n","rows","made","ballot","weight"]) [.val (.int (m:Int)),.val (.lst (rows.map iF)),.no,.no,.no] _ _;refine Ex.seq (ba.lh 2 (gz.call (by kernel_rfl) P.gP P.kP (ck.cons (Ev.nm 0 rfl rfl) .nil) .nil (HS (n:=n+8) P G h0 h4)) rfl (od rfl) (od rfl)) ?_;have key:∀(rs:List Row) (vs:List (Int×List Nat)),(∀r∈rs,Cz m r)→vs.length+rs.length≤200→Lp c (n+11) (mM (uI.fd .none u) L 611 ["n","rows","made","ballot","weight"]) [.val (.int (m:Int)),.val (.lst (rows.map iF)),.own true (.kc none 563 (Kx m) "_voters" (vs.map ly)),.no,.no]
    (pH uI.body 1) (nD uI.body 1) (rs.map iF) (.next [.val (.int (m:Int)),.val (.lst (rows.map iF)),.own true (.kc none 563 (Kx m) "_voters" ((vs++dZ rs).map ly)),.no,.no]):=by
   intro rs
   induction rs with
   |nil=>intro vs z z;rw[show vs++dZ []=vs by simp[dZ]];exact Lp.nil
   |cons r rs ih=>
    intro vs Uz hz;have Md:=Uz r (.head _);rw[show vs++dZ (r::rs)=(vs++[(r.2,r.1)])++dZ rs by simp[dZ]];refine Lp.step (CQ 3 4 rfl (od rfl) (od rfl) rfl (od rfl) (od rfl)) ?_ (ih (vs++[(r.2,r.1)]) (λ r' h=>Uz r' (.tail _ h)) (by simp at hz⊢;exact JU hz rfl));refine Ex.weak (ρ₁:=[.val (.int (m:Int)),.val (.lst (rows.map iF)),.own true (.kc none 563 (Kx m) "_voters" ((vs.map ly)++[ly (r.2,r.1)])),.val (.lst (D.nats r.1)),.val (.int r.2)]) (Ex.one ?_) ?_
    ·exact ba.TQ (n:=n+10) 2 (Ev.call (by kernel_rfl) P.gV P.kV (ck.cons (Ev.nm 3 rfl rfl) .nil) (ou.cons (Ev.nm 4 rfl rfl) .nil) ((Hp (n:=n+5) P PC G (jL.lst (n:=n+2) Md.1) Md.2.2.1).fn rfl)) rfl rfl P.Ni rfl F2 (by kernel_rfl) rfl (λ s v w z=>.of_eq (by kernel_rfl)) rfl
      (λ L'=>Ev.Nh (Ev.nm 0 rfl rfl) P.Jp rfl (ck.cons (Ev.nm 1 rfl rfl) .nil) .nil (uniq (n:=n) (vs:=vs) P PC G h4 Md.2.2.1 Md.2.1)) P.GN (by simp at hz⊢;exact GY hz rfl) (by decide) rfl
    ·rw[hJ,a9,jZ];exact cx.HF (ρ:=[.val (.int (m:Int)),.val (.lst (rows.map iF)),.own true (.kc none 563 (Kx m) "_voters" ((vs.map ly)++[ly (r.2,r.1)])),.no,.no]) (i:=3) (j:=4) rfl rfl
  refine Ex.seq (ba.for (kg.of (Ev.nm 1 rfl rfl) Ib.list) λ ds hd=>(by subst hd;exact key rows [] hr (by simp;exact af hl (aG _ _)))) ?_;refine Ex.freeze 2 rfl rfl rfl ?_;exact Ex.one (ba.ret (Ev.nm 2 rfl rfl))
end
section
set_option backward.match.sparseCases false
noncomputable def nk:FD:=defAt 34
noncomputable def qm(p:Nat→Bool):D→Option D
 |.int i=>if p i.toNat then some (.int i)else none
 |_=>none
theorem lz(p:Nat→Bool):∀xs:List Nat,(D.nats xs).filterMap (qm p)=D.nats (xs.filter p)
 |[]=>rfl
 |x::xs=>by
  rw[show D.nats (x::xs)=D.int (x:Int)::D.nats xs from rfl];cases h:p x with
  |true=>rw[bA (f:=qm p) (b:=.int (x:Int)) (by simp[qm,h]),bY (by simpa using h),lz p xs];rfl
  |false=>rw[eJ (f:=qm p) (by simp[qm,h]),bZ (by simp[h]),lz p xs]
section
variable {c:Cx}{n:Nat}{E:VE}{ρ:List Sl}
theorem Cq{p:Nat→Bool}{x:Nat}{y:Str}{q:Pos}{e elt:Expr}(hx:E.vn[0]? =some y)(hk:0<E.k)(dQ:ρ[0]? =some .no)(t:Tr c n E (ρ.set 0 (.val (.int (x:Int)))) e (p x))(h:Ev c n E (ρ.set 0 (.val (.int (x:Int)))) elt (.int (x:Int))):
  El c n E ρ (.Name y q) [e] (.int (x:Int)) (qm p (.int (x:Int))).isSome λ ρ'=>∀z,qm p (.int (x:Int))=some z→Ev c n E ρ' elt z:=by
 have e1:(qm p (.int (x:Int))).isSome=p x:=by cases h:p x<;>simp[qm,h]
 rw[e1];refine El.Fe 0 hx hk dQ t λ hp z hz=>?_;have:z=.int (x:Int):=by simp[qm,hp]at hz;exact hz.symm
 subst this;exact h
theorem wH{g:Int→D}{x:Nat}{y:Str}{q:Pos}{elt:Expr}(hx:E.vn[0]? =some y)(hk:0<E.k)(dQ:ρ[0]? =some .no)(h:Ev c n E (ρ.set 0 (.val (.int (x:Int)))) elt (g (x:Int))):
  El c n E ρ (.Name y q) [] (.int (x:Int)) (i7 g (.int (x:Int))).isSome λ ρ'=>∀z,i7 g (.int (x:Int))=some z→Ev c n E ρ' elt z:=
 El.nm 0 hx hk dQ λ z hz=>by cases hz;exact h
theorem mem_cast{x:Nat}{xs:List Nat}:decide ((x:Int)∈xs.map λ (x:Nat)=>(x:Int))=decide (x∈xs):=by
 refine decide_eq_decide.mpr ⟨λ h=>?_,λ h=>aM.mpr ⟨x,h,rfl⟩⟩;refine cW (aM.mp h) λ a ha e=>?_;have:a=x:=by exact vS e
 exact this▸ha
theorem cB.Na{x:Nat}{xs:List Nat}(hn:1≤n):cB c n .NotIn (.int (x:Int)) (.tup (D.nats xs)) (!decide (x∈xs)):=by
 have:=cB.Nb (c:=c) (x:=(x:Int)) (xs:=xs.map λ (x:Nat)=>(x:Int)) hn;rw[← dX]at this;rwa[mem_cast]at this
theorem cB.Ig{x:Nat}{xs:List Nat}(hn:1≤n):cB c n .In (.int (x:Int)) (.lst (D.nats xs)) (decide (x∈xs)):=by
 have:=cB.RJ (c:=c) (x:=(x:Int)) (xs:=xs.map λ (x:Nat)=>(x:Int)) hn;rw[← dX]at this;rwa[mem_cast]at this
theorem cB.Rn{xs:List Nat}(hn:1≤n):cB c n .NotEq (.lst (D.nats xs)) (.lst []) (!xs.isEmpty):=by
 have:=cB.KH (c:=c) (xs:=xs.map λ (x:Nat)=>(x:Int)) (ys:=[]) hn;rw[← dX]at this;rw[show(!decide ((xs.map λ (x:Nat)=>(x:Int))=[]))= !xs.isEmpty by cases xs<;>rfl]at this;exact this
end
noncomputable def fH(m:Nat)(done:List Nat):List Nat:=(aw m).filter λ x=> !decide (x∈done)
noncomputable def jo(rows:List Row)(i:Nat):List Nat:=(rows.getD i ([],0)).1
noncomputable def weight(rows:List Row)(i:Nat):Int:=(rows.getD i ([],0)).2
noncomputable def cU(rows:List Row)(x:Nat):List Nat:=(aw rows.length).filter λ i=>decide (x∈jo rows i)
noncomputable def fX(rows:List Row)(purse:List Int)(unit:Int)(x:Nat):Int:=unit-((cU rows x).map λ i=>purse.getD i 0).sum
noncomputable def eY(rows:List Row)(x:Nat):Int:=((cU rows x).map λ i=>weight rows i).sum
noncomputable def fL(rows:List Row)(m:Nat)(done:List Nat)(purse:List Int)(unit:Int):List (Int×Int×Nat):=
 ((fH m done).filter λ x=> !(cU rows x).isEmpty).map λ x=>(fX rows purse unit x,eY rows x,x)
noncomputable abbrev St:=Nat×List Int×Int
noncomputable def kQ(rows:List Row)(purse:List Int)(n9 n4:Int)(x:Nat):List Int:=(aw rows.length).map λ i=>if x∈jo rows i then 0 else purse.getD i 0*n4+weight rows i*n9
noncomputable def Go(rows:List Row)(purse:List Int)(unit:Int)(rd:List (Int×Int×Nat)):List St:=
 (rd.filter λ t=>(rd.filter λ o=>decide (o.1*t.2.1<t.1*o.2.1)).isEmpty).map λ t=>(t.2.2,kQ rows purse t.1 t.2.1 t.2.2,unit*t.2.1)
noncomputable def jJ(rows:List Row)(m:Nat)(done:List Nat)(purse:List Int)(unit:Int):List St:=
 if fL rows m done purse unit=[]then(fH m done).map λ x=>(x,purse,unit)else Go rows purse unit (fL rows m done purse unit)
noncomputable abbrev CU(t:St):D:=.tup [.int (t.1:Int),.lst (D.ints t.2.1),.int t.2.2]
noncomputable abbrev Al(t:Int×Int×Nat):D:=.tup [.int t.1,.int t.2.1,.int (t.2.2:Int)]
noncomputable abbrev H0:List Str:=["rows","n","done","purse","unit","left","wanted","cand","backers","found","lack","pace","after"]
section
variable {c:Cx}{n:Nat}
theorem gh{d:D}{xs:List Nat}(h:d∈D.nats xs):∃x,x∈xs∧d=.int (x:Int):=by
 obtain⟨y,hy,rfl⟩:=aM.mp h;exact⟨y,hy,rfl⟩
theorem rn{E:VE}{ρ:List Sl}(G:PG c){m:Nat}(hm:m≤900){p1 p3:Pos}{e tg:Expr}(hr:E.env.kindOf "range"=some .globalImplicit)(h:Ev c n E ρ e (.int (m:Int)))(hp:autoParam ((starEach [e] E.env).any (·.1)=false) rf)(hs:∀env,starEach (e::[]) env=(false,eval e env)::starEach [] env:=by intros;rfl):
  kg c n E ρ (.Call (.Name "range" p1) [e] [] p3) tg (· =D.nats (aw m)):=
 kg.of (Ev.call hr G.range trivial (ck.cons h .nil hs) .nil Fn.AY rfl hp) (by rw[← HK];exact Ib.range (by decide) (by decide) (by exact of_decide_eq_true rfl) (by exact RL hm rfl))
theorem rowAt{rows:List Row}{i:Nat}(h:i<rows.length):(rows.map iF)[((i:Nat):Int).toNat]? =some (.tup [.lst (D.nats (jo rows i)),.int (weight rows i)]):=by
 show(rows.map iF)[i]? =_;rw[bR,aq h];simp[jo,weight,ai,aq h]
theorem intAt{xs:List Int}{i:Nat}(h:i<xs.length):(D.ints xs)[((i:Nat):Int).toNat]? =some (.int (xs.getD i 0)):=by
 show(xs.map D.int)[i]? =_;rw[bR,aq h];simp[ai,aq h]
theorem Nn{E:VE}{ρ:List Sl}(G:PG c){rows:List Row}(hl:rows.length≤3){p1 p3:Pos}{x:Str}{p:Pos}(hr:E.env.kindOf "len"=some .globalImplicit)(h:Ev c n E ρ (.Name x p) (.lst (rows.map iF))):Ev c n E ρ (.Call (.Name "len" p1) [.Name x p] [] p3) (.int (rows.length:Int)):=by
 have:=Fn.la (c:=c) (n:=n) (ds:=rows.map iF) (by simp;exact af hl (aG _ _));rw[show((rows.map iF).length:Int)=(rows.length:Int) by simp]at this;exact Ev.call hr G.len trivial (ck.cons h .nil) .nil this
theorem uP{rows:List Row}{x i:Nat}(h:i∈cU rows x):i<rows.length:=aO.mp (aN.mp h).1
theorem pA(g:Int→Int)(xs:List Nat):(D.nats xs).filterMap (i7 λ i=>.int (g i))=D.ints (xs.map λ (x:Nat)=>g (x:Int)):=by
 rw[fz];simp[D.ints]
structure BB(rows:List Row)(purse:List Int)(unit:Int):Prop where
 l:rows.length≤3
 lp:purse.length=rows.length
 w:∀r∈rows,0<r.2∧r.2≤12
 p:∀q∈purse,0≤q∧q<2^36
 u:0<unit∧unit<2^36
theorem BB.pa{rows:List Row}{purse:List Int}{unit:Int}(K:BB rows purse unit)(i:Nat):0≤purse.getD i 0∧purse.getD i 0<2^36:=by
 rw[ai];cases h:purse[i]? with
 |none=>trivial
 |some q=>exact K.p q (bw h)
theorem BB.wa{rows:List Row}{purse:List Int}{unit:Int}(K:BB rows purse unit)(i:Nat):0≤weight rows i∧weight rows i≤12:=by
 unfold weight;rw[ai];cases h:rows[i]? with
 |none=>trivial
 |some q=>have:=K.w q (bw h);exact⟨by simpa using bJ this.1,by simpa using this.2⟩
theorem cB.Vl{W:List (Int×Int×Nat)}(hn:1≤n):cB c n .Eq (.lst (W.map Al)) (.lst []) W.isEmpty:=
 (show(PyData.list (W.map λ t=>.tuple [.int t.1,.int t.2.1,.int (t.2.2:Int)])).eqv (.list [])=W.isEmpty by cases W<;>rfl)▸
  cB.Vn (D.Qs.lst (D.Qs.map λ t z=>D.Qs.tup (.cons .int (.cons .int (.cons .int .nil))))) (D.Qs.lst .nil) hn
theorem cx.nil{ρ:List Sl}:cx [] ρ:= λ i=>.inl (by rfl)
theorem cx.cons{a b:Sl}{ρ ρ':List Sl}(h:a=.no∨a=b)(t:cx ρ ρ'):cx (a::ρ) (b::ρ'):= λ i=>by
 cases i with
 |zero=>exact h
 |succ i=>exact t i
theorem v3{b:Int}(hb:0≤b):∀l:List Int,(∀y∈l,0≤y∧y≤b)→0≤l.sum∧l.sum≤b*(l.length:Int)
 |[],_=>by simp
 |y::l,h=>by
  have h1:=h y (.head _);have h2:=v3 hb l λ z hz=>h z (.tail _ hz);rw[rW,aJ,x6,Int.mul_add,oX y];exact⟨Int.add_nonneg h2.1 h1.1,Int.add_le_add h2.2 ((Int.mul_one b).symm▸h1.2)⟩
theorem AJ{b:Int}(hb:0≤b){l:List Int}(h:∀y∈l,0≤y∧y≤b)(hl:l.length≤3):0≤l.sum∧l.sum≤b*3:=
 have q:=v3 hb l h
 ⟨q.1,ec q.2 (Int.mul_le_mul_of_nonneg_left (ki.mpr hl) hb)⟩
theorem CM{rows:List Row}{m:Nat}{done:List Nat}{purse:List Int}{unit:Int}(K:BB rows purse unit):∀t∈fL rows m done purse unit,-2^40<t.1∧t.1<2^40∧0≤t.2.1∧t.2.1≤36:= λ t ht=>by
 refine jw ht λ x hx=>?_;have hb:(cU rows x).length≤3:=af (bG _ _) (by simpa using K.l);have h1:=AJ (b:=2^36) (by decide) (l:=(cU rows x).map λ i=>purse.getD i 0) (λ y hy=>jw hy λ i z=>⟨(K.pa i).1,bJ (K.pa i).2⟩) (by rw[aE];exact hb);have h2:=AJ (b:=12) (by decide) (l:=(cU rows x).map λ i=>weight rows i) (λ y hy=>jw hy λ i z=>K.wa i) (by rw[aE];exact hb);have hu:=K.u;refine⟨?_,?_,h2.1,h2.2⟩
 ·exact jE (by decide: -(2:Int) ^40<0-2^36*3) (Int.sub_le_sub (bJ hu.1) h1.2)
 ·exact b9 (Int.sub_le_self _ h1.1) (kj hu.2 (by decide))
noncomputable def ME:D→List D
 |.tup ds=>ds
 |_=>[]
noncomputable def NF:D→Int
 |.int i=>i
 |_=>0
noncomputable def wo(n9 n4:Int)(d:D):Option D:=if NF ((ME d).getD 0 .none)*n4<n9*NF ((ME d).getD 1 .none)then some (.int 1)else none
theorem rA(n9 n4:Int):∀W:List (Int×Int×Nat),(W.map Al).filterMap (wo n9 n4)=D.ints ((W.filter λ o=>decide (o.1*n4<n9*o.2.1)).map λ z=>1)
 |[]=>rfl
 |t::W=>by
  rw[a9]
  by_cases h:t.1*n4<n9*t.2.1
  ·rw[bA (f:=wo n9 n4) (a:=Al t) (b:=.int 1) (if_pos h),bY (by simpa using h),rA n9 n4 W];rfl
  ·rw[eJ (f:=wo n9 n4) (a:=Al t) (if_neg h),bZ (by simpa using h),rA n9 n4 W]
set_option maxHeartbeats 4000000 in
theorem Dd(G:PG c)(H:FnAt c 616 nk .none){m:Nat}{rows:List Row}{done:List Nat}{purse:List Int}{unit:Int}(hm:m≤4)(K:BB rows purse unit):
  Fn c (n+10) (.ref 616) [.lst (rows.map iF),.int (m:Int),.tup (D.nats done),.lst (D.ints purse),.int unit] [] (.lst ((jJ rows m done purse unit).map CU)):=by
 refine eX H ?_;clear H;intro u F p hp hc;refine Fn.of (vn:=H0) (np:=5) [.pos 0,.pos 1,.pos 2,.pos 3,.pos 4] F (by kernel_rfl) (by kernel_rfl) rfl rfl ?_ λ L=>?_
 ·intro s vs ks g hv hk;refine iz (Rr hv) λ a b zh=>iq zh λ c d e z1=>?_;subst z1;cases Bb hk;exact .of_eq (by kernel_rfl)
 ·show Ex c (n+9) (mM (nk.fd .none u) L 616 H0) [.val (.lst (rows.map iF)),.val (.int (m:Int)),.val (.tup (D.nats done)),.val (.lst (D.ints purse)),.val (.int unit),.no,.no,.no,.no,.no,.no,.no,.no] _ _;refine Ex.seq (ba.oF 5 (tn:=["cand"]) (ix:=[2]) (by kernel_rfl) (ds:=D.nats (aw m)) (qm λ x=> !decide (x∈done)) (rn G (by exact af hm (aG _ _)) (by kernel_rfl) (Ev.nm 1 rfl rfl)) (by simp[D.nats];exact af hm (aG _ _)) (λ C d hd=>?_) rfl (od rfl) (od rfl) (by kernel_rfl)) ?_
  ·refine cW (gh hd) λ x hx z1=>?_;subst z1;exact Cq rfl (od rfl) rfl (Tr.cmp (Ev.nm 0 rfl rfl) (Ev.nm 1 rfl rfl) (cB.Na (by exact bD _))) (Ev.nm 0 rfl rfl)
  rw[lz];refine Ex.freeze 5 rfl rfl rfl ?_;refine Ex.seq (ba.lh 6 (gz.lst .nil) rfl (od rfl) (od rfl)) ?_;have hl:=K.l;have UM:=K.lp;have key:∀(xs:List Nat) (ws:List (Int×Int×Nat)),ws.length+xs.length≤100→Lp c (n+9) (mM (nk.fd .none u) L 616 H0) [.val (.lst (rows.map iF)),.val (.int (m:Int)),.val (.tup (D.nats done)),.val (.lst (D.ints purse)),.val (.int unit),.val (.lst (D.nats (fH m done))),.own true (.lst (ws.map Al)),.no,.no,.no,.no,.no,.no]
    (pH nk.body 2) (nD nk.body 2) (D.nats xs)
    (.next [.val (.lst (rows.map iF)),.val (.int (m:Int)),.val (.tup (D.nats done)),.val (.lst (D.ints purse)),.val (.int unit),.val (.lst (D.nats (fH m done))),.own true (.lst ((ws++(xs.filter λ x=> !(cU rows x).isEmpty).map λ x=>(fX rows purse unit x,eY rows x,x)).map Al)),.no,.no,.no,.no,.no,.no]):=by
   intro xs
   induction xs with
   |nil=>intro ws g;rw[show ws++fN _ (List.filter _ ([]:List Nat))=ws by simp];exact Lp.nil
   |cons x xs ih=>
    intro ws hz;simp only[aJ]at hz
    let u7:=if(cU rows x).isEmpty then ws else ws++[(fX rows purse unit x,eY rows x,x)]
    have RV:ws++((x::xs).filter λ x=> !(cU rows x).isEmpty).map (λ x=>(fX rows purse unit x,eY rows x,x))=u7++(xs.filter λ x=> !(cU rows x).isEmpty).map (λ x=>(fX rows purse unit x,eY rows x,x)):=by
     by_cases hb:(cU rows x).isEmpty<;>simp[u7,hb]
    rw[RV];refine Lp.step (ρ'':=[.val (.lst (rows.map iF)),.val (.int (m:Int)),.val (.tup (D.nats done)),.val (.lst (D.ints purse)),.val (.int unit),.val (.lst (D.nats (fH m done))),.own true (.lst (u7.map Al)),.no,.no,.no,.no,.no,.no]) (ju.name 7 rfl (od rfl) (od rfl)) ?_ (ih u7 (by simp only[u7];split<;>(try simp)<;>lia));refine Ex.weak (ρ₁:=[.val (.lst (rows.map iF)),.val (.int (m:Int)),.val (.tup (D.nats done)),.val (.lst (D.ints purse)),.val (.int unit),.val (.lst (D.nats (fH m done))),.own true (.lst (u7.map Al)),.val (.int (x:Int)),.val (.lst (D.nats (cU rows x))),.no,.no,.no,.no]) ?_
     (cx.HF (ρ:=[.val (.lst (rows.map iF)),.val (.int (m:Int)),.val (.tup (D.nats done)),.val (.lst (D.ints purse)),.val (.int unit),.val (.lst (D.nats (fH m done))),.own true (.lst (u7.map Al)),.no,.no,.no,.no,.no,.no]) (i:=7) (j:=8) rfl rfl)
    refine Ex.seq (ba.oF 8 (tn:=["i"]) (ix:=[7,0]) (by kernel_rfl) (ds:=D.nats (aw rows.length)) (qm λ i=>decide (x∈jo rows i)) (rn G (by exact af hl (aG _ _)) (by kernel_rfl) (Nn G hl (by kernel_rfl) (Ev.nm 0 rfl rfl))) (by simp[D.nats];lia) (λ C d hd=>?_) rfl (od rfl) (od rfl) (by kernel_rfl)) ?_
    ·refine cW (gh hd) λ i hi z1=>?_;subst z1;have hi:=aO.mp hi;exact Cq rfl (od rfl) rfl (Tr.cmp (Ev.nm 1 rfl rfl) (Ev.sub (Ev.sub (Ev.nm 2 rfl rfl) (Ev.nm 0 rfl rfl) (Sub.list (by exact cy _) (rowAt hi) (by simp;lia))) Ev.int (Sub.tup (by decide) rfl (by simp))) (cB.Ig (by exact bD _))) (Ev.nm 0 rfl rfl)
    rw[lz];refine Ex.freeze 8 rfl rfl rfl ?_;refine Ex.one (ba.ite (p:= !(cU rows x).isEmpty) (Tr.cmp (Ev.nm 8 rfl rfl) (Ev.lst .nil) (cB.Rn (by lia))) (λ hb=>?_) λ hb=>?_)
    ·have e:u7=ws++[(fX rows purse unit x,eY rows x,x)]:=by simp only[u7];rw[if_neg (by simpa using hb)]
     rw[e,hJ];have vd:(cU rows x).length≤3:=af (bG _ _) (by simpa using hl);refine Ex.one (ba.append 6 (Ev.tup (ck.cons (Ev.bin (Ev.nm 4 rfl rfl) (Ev.call (by kernel_rfl) G.sum trivial (ck.cons (gz.ev (q:=.lst (D.ints ((cU rows x).map λ i=>purse.getD i 0))) ?_ rfl) .nil) .nil (Fn.Hx (n:=n+8) ?_ ?_)) gF.Kd) (ck.cons (Ev.call (by kernel_rfl) G.sum trivial (ck.cons (gz.ev (q:=.lst (D.ints ((cU rows x).map λ i=>weight rows i))) ?_ rfl) .nil) .nil (Fn.Hx (n:=n+8) ?_ ?_)) (ck.cons (Ev.nm 7 rfl rfl) .nil))) (by simp)) rfl rfl (by simp;exact GY hz rfl))
     ·have:=pA (λ i=>purse.getD i.toNat 0) (cU rows x);simp only[eU]at this;rw[← this];refine gz.comp (tn:=["i"]) (ix:=[3]) (by kernel_rfl) (i7 λ i=>.int (purse.getD i.toNat 0)) (kg.of (Ev.nm 8 rfl rfl) Ib.list) (by simp[D.nats];exact rC vd rfl) λ C d hd=>?_;refine cW (gh hd) λ i hi z1=>?_;subst z1;have hi:=uP hi;exact wH rfl (od rfl) rfl (Ev.sub (Ev.nm 1 rfl rfl) (Ev.nm 0 rfl rfl) (Sub.list (by lia) (intAt (by exact Ea UM hi)) (by simp[D.ints];exact u_ UM hl rfl)))
     ·intro y hy;refine cW (aM.mp hy) λ i g z1=>?_;subst z1;have:=K.pa i;exact Qa this.1 (kj this.2 (by decide))
     ·simp;lia
     ·have:=pA (λ i=>weight rows i.toNat) (cU rows x);simp only[eU]at this;rw[← this];refine gz.comp (tn:=["i"]) (ix:=[0]) (by kernel_rfl) (i7 λ i=>.int (weight rows i.toNat)) (kg.of (Ev.nm 8 rfl rfl) Ib.list) (by simp[D.nats];lia) λ C d hd=>?_;refine cW (gh hd) λ i hi z1=>?_;subst z1;have hi:=uP hi;exact wH rfl (od rfl) rfl (Ev.sub (Ev.sub (Ev.nm 1 rfl rfl) (Ev.nm 0 rfl rfl) (Sub.list (by lia) (rowAt hi) (by simp;lia))) Ev.int (Sub.tup (by decide) rfl (by simp)))
     ·intro y hy;refine cW (aM.mp hy) λ i g z1=>?_;subst z1;have:=K.wa i;exact Qa this.1 (b9 this.2 (by decide))
     ·simp;lia
    ·have e:u7=ws:=by simp only[u7];rw[if_pos (by simpa using hb)]
     rw[e];exact Ex.nil
  refine Ex.seq (ba.for (kg.of (Ev.nm 5 rfl rfl) Ib.list) λ ds hd=>(by subst hd;exact key (fH m done) [] (by have:(fH m done).length≤m:=af (bG _ _) (by simp);simp;exact G6 this hm rfl))) ?_;have hW:([]++((fH m done).filter λ x=> !(cU rows x).isEmpty).map λ x=>(fX rows purse unit x,eY rows x,x))=fL rows m done purse unit:=rfl;rw[hW];have SS:(fL rows m done purse unit).length≤4:=by
   have:(fH m done).length≤m:=af (bG _ _) (by simp);have h2:((fH m done).filter λ x=> !(cU rows x).isEmpty).length≤(fH m done).length:=bG _ _;simp only[fL,aE];exact af (af h2 this) hm
  refine Ex.freeze 6 rfl rfl rfl ?_;unfold jJ
  by_cases hw:fL rows m done purse unit=[]
  ·rw[if_pos hw];refine Ex.stop (ba.ite (p:=(fL rows m done purse unit).isEmpty) (Tr.cmp (Ev.nm 6 rfl rfl) (Ev.lst .nil) (cB.Vl (by lia))) (λ g=>Ex.one (ba.ret (gz.ev (q:=.lst (((fH m done).map λ x=>((x,purse,unit):St)).map CU)) ?_ rfl))) (λ h=>by rw[hw]at h;cases h)) rfl;have e:((fH m done).map λ x=>((x,purse,unit):St)).map CU=(D.nats (fH m done)).filterMap (i7 λ i=>.tup [.int i,.lst (D.ints purse),.int unit]):=by
    rw[fz,bI];rfl
   rw[e];refine gz.comp (tn:=["cand"]) (ix:=[3,4]) (by kernel_rfl) (i7 λ i=>.tup [.int i,.lst (D.ints purse),.int unit]) (kg.of (Ev.nm 5 rfl rfl) Ib.list) (by have:(fH m done).length≤m:=af (bG _ _) (by simp);simp[D.nats];exact G6 this hm rfl) λ C d hd=>?_;refine cW (gh hd) λ x hx z1=>?_;subst z1;exact wH rfl (od rfl) rfl (Ev.tup (ck.cons (Ev.nm 0 rfl rfl) (ck.cons (Ev.nm 1 rfl rfl) (ck.cons (Ev.nm 2 rfl rfl) .nil))) (by simp))
  ·rw[if_neg hw];refine Ex.seq (ba.ite (p:=(fL rows m done purse unit).isEmpty) (Tr.cmp (Ev.nm 6 rfl rfl) (Ev.lst .nil) (cB.Vl (by lia))) (λ h=>absurd (by simpa using h) hw) λ g=>Ex.nil) ?_;refine Ex.seq (ba.lh 9 (gz.lst .nil) rfl (od rfl) (od rfl)) ?_;have Dp:=CM (m:=m) (done:=done) K;generalize fL rows m done purse unit=W at hw SS Dp⊢;have Rw:∀(ts:List (Int×Int×Nat)) (fs:List St),(∀t∈ts,t∈W)→fs.length+ts.length≤100→Lp c (n+9) (mM (nk.fd .none u) L 616 H0) [.val (.lst (rows.map iF)),.val (.int (m:Int)),.val (.tup (D.nats done)),.val (.lst (D.ints purse)),.val (.int unit),.val (.lst (D.nats (fH m done))),.val (.lst (W.map Al)),.no,.no,.own true (.lst (fs.map CU)),.no,.no,.no]
     (pH nk.body 5) (nD nk.body 5) (ts.map Al)
     (.next [.val (.lst (rows.map iF)),.val (.int (m:Int)),.val (.tup (D.nats done)),.val (.lst (D.ints purse)),.val (.int unit),.val (.lst (D.nats (fH m done))),.val (.lst (W.map Al)),.no,.no,.own true (.lst ((fs++(ts.filter λ t=>(W.filter λ o=>decide (o.1*t.2.1<t.1*o.2.1)).isEmpty).map λ t=>(t.2.2,kQ rows purse t.1 t.2.1 t.2.2,unit*t.2.1)).map CU)),.no,.no,.no]):=by
    intro ts
    induction ts with
    |nil=>intro fs g g;rw[show fs++fN _ (List.filter _ ([]:List (Int×Int×Nat)))=fs by simp];exact Lp.nil
    |cons t ts ih=>
     intro fs NZ hz;simp only[aJ]at hz;refine b_ (Dp t (NZ t (.head _))) λ b1 b2 b3 b4=>?_
     let Hf:=if(W.filter λ o=>decide (o.1*t.2.1<t.1*o.2.1)).isEmpty then fs++[(t.2.2,kQ rows purse t.1 t.2.1 t.2.2,unit*t.2.1)]else fs
     have zt:fs++((t::ts).filter λ t=>(W.filter λ o=>decide (o.1*t.2.1<t.1*o.2.1)).isEmpty).map (λ t=>((t.2.2,kQ rows purse t.1 t.2.1 t.2.2,unit*t.2.1):St))=Hf++(ts.filter λ t=>(W.filter λ o=>decide (o.1*t.2.1<t.1*o.2.1)).isEmpty).map (λ t=>((t.2.2,kQ rows purse t.1 t.2.1 t.2.2,unit*t.2.1):St)):=by
      by_cases hb:(W.filter λ o=>decide (o.1*t.2.1<t.1*o.2.1)).isEmpty=true
      ·rw[bY (by simpa using hb)];simp only[Hf,if_pos hb];simp
      ·rw[bZ (by simpa using hb)];simp only[Hf,if_neg hb]
     rw[zt];refine Lp.step (ρ'':=[.val (.lst (rows.map iF)),.val (.int (m:Int)),.val (.tup (D.nats done)),.val (.lst (D.ints purse)),.val (.int unit),.val (.lst (D.nats (fH m done))),.val (.lst (W.map Al)),.no,.no,.own true (.lst (Hf.map CU)),.no,.no,.no]) (ju.tup (kU.cons (ju.name 10 rfl (od rfl) (od rfl)) (kU.cons (ju.name 11 rfl (od rfl) (od rfl)) (kU.cons (ju.name 7 rfl (od rfl) (od rfl)) .nil)))) ?_ (ih Hf (λ t' h=>NZ t' (.tail _ h)) (by simp only[Hf];split<;>(try simp)<;>lia));refine Ex.one (ba.ite (p:=decide (((W.filter λ o=>decide (o.1*t.2.1<t.1*o.2.1)).map λ g=>(1:Int))=[])) (Tr.cmp (gz.ev (q:=.lst (D.ints ((W.filter λ o=>decide (o.1*t.2.1<t.1*o.2.1)).map λ g=>(1:Int)))) ?_ rfl) (Ev.lst .nil) (cB.Tt (ys:=[]) (by lia))) (λ hb=>?_) λ hb=>?_)
     ·rw[← rA];refine gz.comp (tn:=["other","speed","rival"]) (ix:=[10,11]) (by kernel_rfl) (wo t.1 t.2.1) (kg.of (Ev.nm 6 rfl rfl) Ib.list) (by simp;exact af SS (aG _ _)) λ C d hd=>?_;refine cW (aM.mp hd) λ o ho z1=>?_;subst z1;refine b_ (Dp o ho) λ c1 c2 c3 c4=>?_;have hi:(wo t.1 t.2.1 (Al o)).isSome=decide (o.1*t.2.1<t.1*o.2.1):=by
       show Option.isSome (if o.1*t.2.1<t.1*o.2.1 then _ else _)=_
       by_cases h:o.1*t.2.1<t.1*o.2.1<;>simp[h]
      rw[hi];refine⟨_,ju.tup (kU.cons (ju.name 0 rfl (od rfl) (od rfl)) (kU.cons (ju.name 1 rfl (od rfl) (od rfl)) (kU.cons (ju.name 2 rfl (od rfl) (od rfl)) .nil))),by repeat (first|exact cx.nil|refine cx.cons (.inr rfl) ?_|refine cx.cons (.inl rfl) ?_),Hh.one (Tr.cmp (Ev.bin (Ev.nm 0 rfl rfl) (Ev.nm 4 rfl rfl) (gF.nB (by exact Uq b3 rfl) (by exact RK b4 rfl))) (Ev.bin (Ev.nm 3 rfl rfl) (Ev.nm 1 rfl rfl) (gF.nB (by lia) (by lia))) cB.ltI),λ h z hz=>?_⟩;have:z=.int 1:=by
       have h':o.1*t.2.1<t.1*o.2.1:=by simpa using h
       rw[show wo t.1 t.2.1 (Al o)=_ from if_pos h']at hz;exact(cF hz).symm
      subst this;exact Ev.int
     ·have wA:(W.filter λ o=>decide (o.1*t.2.1<t.1*o.2.1)).isEmpty=true:=by simpa using hb
      have e:Hf=fs++[(t.2.2,kQ rows purse t.1 t.2.1 t.2.2,unit*t.2.1)]:=by simp only[Hf,if_pos wA]
      rw[e,hJ];refine Ex.weak (ρ₁:=[.val (.lst (rows.map iF)),.val (.int (m:Int)),.val (.tup (D.nats done)),.val (.lst (D.ints purse)),.val (.int unit),.val (.lst (D.nats (fH m done))),.val (.lst (W.map Al)),.val (.int (t.2.2:Int)),.no,.own true (.lst (fs.map CU++[(t.2.2,kQ rows purse t.1 t.2.1 t.2.2,unit*t.2.1)].map CU)),.val (.int t.1),.val (.int t.2.1),.val (.lst (D.ints (kQ rows purse t.1 t.2.1 t.2.2)))]) ?_ (by repeat (first|exact cx.nil|refine cx.cons (.inr rfl) ?_|refine cx.cons (.inl rfl) ?_));refine Ex.seq (ba.oF 12 (tn:=["i"]) (ix:=[7,10,11,3,0]) (by kernel_rfl) (ds:=D.nats (aw rows.length)) (i7 λ i=>.int (if t.2.2∈jo rows i.toNat then 0 else purse.getD i.toNat 0*t.2.1+weight rows i.toNat*t.1)) (rn G (by lia) (by kernel_rfl) (Nn G hl (by kernel_rfl) (Ev.nm 0 rfl rfl))) (by simp[D.nats];lia) (λ C d hd=>?_) rfl (od rfl) (od rfl) (by kernel_rfl)) ?_
      ·refine cW (gh hd) λ i hi z1=>?_;subst z1;have hi:=aO.mp hi;have hw:=K.wa i;refine wH rfl (od rfl) rfl ?_
       by_cases hm:t.2.2∈jo rows i
       ·have e3:(D.int (if t.2.2∈jo rows (i:Int).toNat then 0 else purse.getD (i:Int).toNat 0*t.2.1+weight rows (i:Int).toNat*t.1))=if decide (t.2.2∈jo rows i)=true then .int 0 else .int 0:=by simp[hm]
        rw[e3];refine Ev.ite (Tr.cmp (Ev.nm 1 rfl rfl) (Ev.sub (Ev.sub (Ev.nm 5 rfl rfl) (Ev.nm 0 rfl rfl) (Sub.list (by lia) (rowAt hi) (by simp;lia))) Ev.int (Sub.tup (by decide) rfl (by simp))) (cB.Ig (by lia))) (λ g=>Ev.int) (λ h=>by simp[hm]at h)
       ·have e3:(D.int (if t.2.2∈jo rows (i:Int).toNat then 0 else purse.getD (i:Int).toNat 0*t.2.1+weight rows (i:Int).toNat*t.1))=if decide (t.2.2∈jo rows i)=true then .int 0 else .int (purse.getD i 0*t.2.1+weight rows i*t.1):=by simp[hm]
        rw[e3];refine Ev.ite (Tr.cmp (Ev.nm 1 rfl rfl) (Ev.sub (Ev.sub (Ev.nm 5 rfl rfl) (Ev.nm 0 rfl rfl) (Sub.list (by lia) (rowAt hi) (by simp;lia))) Ev.int (Sub.tup (by decide) rfl (by simp))) (cB.Ig (by lia))) (λ h=>by simp[hm]at h) (λ g=>?_);exact Ev.bin (Ev.bin (Ev.sub (Ev.nm 4 rfl rfl) (Ev.nm 0 rfl rfl) (Sub.list (by lia) (intAt (by lia)) (by simp[D.ints];lia))) (Ev.nm 3 rfl rfl) (gF.nB (by lia) (by lia))) (Ev.bin (Ev.sub (Ev.sub (Ev.nm 5 rfl rfl) (Ev.nm 0 rfl rfl) (Sub.list (by lia) (rowAt hi) (by simp;lia))) Ev.int (Sub.tup (by decide) rfl (by simp))) (Ev.nm 2 rfl rfl) (gF.nB (by exact Uq b1 rfl) (by exact L9 b2 rfl))) gF.rR
      rw[pA (λ i=>if t.2.2∈jo rows i.toNat then 0 else purse.getD i.toNat 0*t.2.1+weight rows i.toNat*t.1)];refine Ex.freeze 12 rfl rfl rfl ?_;exact Ex.one (ba.append 9 (Ev.tup (ck.cons (Ev.nm 7 rfl rfl) (ck.cons (Ev.nm 12 rfl rfl) (ck.cons (Ev.bin (Ev.nm 4 rfl rfl) (Ev.nm 11 rfl rfl) (gF.nB (by lia) (by lia))) .nil))) (by simp)) rfl rfl (by simp;exact GY hz rfl))
     ·have wA:¬(W.filter λ o=>decide (o.1*t.2.1<t.1*o.2.1)).isEmpty=true:=by simpa using hb
      have e:Hf=fs:=by simp only[Hf,if_neg wA]
      rw[e];refine Ex.weak Ex.nil ?_
      repeat (first|exact cx.nil|refine cx.cons (.inr rfl) ?_|refine cx.cons (.inl rfl) ?_)
   refine Ex.seq (ba.for (kg.of (Ev.nm 6 rfl rfl) Ib.list) λ ds hd=>(by subst hd;exact Rw W [] (λ g h=>h) (by simp;exact af SS (aG _ _)))) ?_;refine Ex.freeze 9 rfl rfl rfl ?_;exact Ex.one (ba.ret (Ev.nm 9 rfl rfl))
end
end
noncomputable def wJ:FD:=iY 20 3
noncomputable def xN:FD:=iY 20 5
noncomputable abbrev yt(xs:List Str):List D:=xs.map D.str
noncomputable def nZ:List (Str×D):=[("resolute_values",.tup [.bool true,.bool false]),("algorithms",.tup (yt ["float-fractions","gmpy2-fractions","standard-fractions"])),("longname",.str "Phragmén's Sequential Rule (seq-Phragmén)"),("shortname",.str "seq-Phragmén"),("rule_id",.str "seqphragmen")]
noncomputable abbrev yE:D:=.inst 343 (("available_algorithms",.lst (yt ["standard-fractions"]))::nZ)
structure G4(c:Cx):Prop where
 Uh:makesIn c.K 343=true
 Un:findIn c.K (.ref 343) "__init__"=some (some (.ref 325))
 ty:typeIn c.K (.ref 325)=some (.type "function")
 Pc:FnAt c 325 wJ .none
 gR:cV c "Rule" (.ref 343)
 kR:jz c (.ref 343)
 p1:fg c.K 343 "rule_id"=true
 p2:fg c.K 343 "shortname"=true
 p3:fg c.K 343 "longname"=true
 p4:fg c.K 343 "algorithms"=true
 p5:fg c.K 343 "resolute_values"=true
 p6:fg c.K 343 "available_algorithms"=true
 a1:attrOk c.K 343 "algorithms"=true
 a2:attrOk c.K 343 "resolute_values"=true
 a3:attrOk c.K 343 "available_algorithms"=true
 cl:∃v,zP c.K 343 "_RESOLUTE_VALUES_FOR_SEQUENTIAL_RULES" v=true∧∀O s,Ok c O s→bh c.w O s.heap v (.tup [.bool true,.bool false])
 ga:∃v,cV c "available_algorithms" v∧∀O s,Ok c O s→bh c.w O s.heap v (.lst (yt ["branch-and-bound","brute-force","standard","standard-fractions"]))
 mv:jS c.K 343 "verify_compute_parameters" 340=true
 Pb:FnAt c 340 xN (.ref 333)
 Pw:sT c 333 [.none]
section
variable {c:Cx}{n:Nat}
noncomputable abbrev Kk:List Str:=["self","rule_id","algorithm"]
section
variable {c:Cx}{n:Nat}{E:VE}{ρ ρ':List Sl}{out:Out}{l:List Stmt}{s:Stmt}{p:Pos}
theorem Ex.Ki(hl:l=oP l 0::l.tail)(h:ba c n E ρ (oP l 0) (.next ρ'))(t:Ex c n E ρ' l.tail out):Ex c n E ρ l out:=Eq.mpr (congrArg (λ z=>Ex c n E ρ z out) hl) (Ex.seq h t)
theorem ba.skip(hs:s=.If (vw s).e (vw s).o (vw s).b p)(h:Tr c n E ρ (vw s).e false)(k:Ex c n E ρ (vw s).b out):ba c n E ρ s out:=Eq.mpr (congrArg (λ z=>ba c n E ρ z out) hs) (ba.ite h (λ e=>absurd e (by decide)) λ j=>k)
theorem Ex.skip(hl:l=[oP l 0])(hs:oP l 0=.If (pH l 0) (vw (oP l 0)).o (nD l 0) p)(h:Tr c n E ρ (pH l 0) false)(k:Ex c n E ρ (nD l 0) out):Ex c n E ρ l out:=Eq.mpr (congrArg (λ z=>Ex c n E ρ z out) hl) (Ex.one (ba.skip hs h k))
theorem Ex.take(hl:l=[oP l 0])(hs:oP l 0=.If (pH l 0) (vw (oP l 0)).o (nD l 0) p)(h:Tr c n E ρ (pH l 0) true)(k:Ex c n E ρ (vw (oP l 0)).o out):Ex c n E ρ l out:=Eq.mpr (congrArg (λ z=>Ex c n E ρ z out) (hl.trans (congrArg (λ s=>[s]) hs))) (Ex.one (ba.ite h (λ j=>k) λ e=>absurd e (by decide)))
end
theorem C1(P:G4 c)(G:PG c):mG c (n+4) (.ref 343) [.str "seqphragmen"] [] (.kc none 343 nZ "available_algorithms" (yt ["standard-fractions"])):=by
 refine eX P.Pc λ u F p hp hc=>?_;refine cW P.cl λ vc Wr VS=>?_;refine cW P.ga λ va W7 VT=>?_;refine mG.make (n:=n+2) (vn:=Kk) (np:=1) [.pos 0] (ρ₁:= λ u'=>[.own true (.kc (some u') 343 nZ "available_algorithms" (yt ["standard-fractions"])),.val (.str "seqphragmen"),.no]) P.Uh P.Un P.ty F (by kernel_rfl) (by kernel_rfl) rfl rfl ?_ ?_ ?_ ⟨_,rfl⟩
 ·intro s u' vs ks S hv hk;refine xe (rB hv) λ x z1=>?_;subst z1;cases Bb hk;exact .of_eq (by kernel_rfl)
 ·intro L u';show Ex c (n+2) (mM (wJ.fd .none u) L 325 Kk) [.own true (.inst (some u') 343 []),.val (.str "seqphragmen"),.no] wJ.body _;refine Ex.Ki rfl (ba.put 0 (Ev.nm 1 rfl rfl) rfl rfl P.p1 (by simp)) ?_;refine Ex.Ki (ρ':=[.own true (.inst (some u') 343 nZ),.val (.str "seqphragmen"),.no]) rfl ?_ ?_
  ·refine ba.skip rfl (Tr.cmp (Ev.nm 1 rfl rfl) Ev.ny cB.Mr) ?_
   iterate 10 (refine Ex.skip rfl rfl (Tr.cmp (Ev.nm 1 rfl rfl) Ev.ny cB.Mr) ?_)
   refine Ex.take rfl rfl (Tr.cmp (Ev.nm 1 rfl rfl) Ev.ny cB.Mr) ?_;refine Ex.seq (ba.put 0 Ev.ny rfl rfl P.p2 (by simp)) ?_;refine Ex.seq (ba.put 0 Ev.ny rfl rfl P.p3 (by simp)) ?_;refine Ex.seq (ba.put 0 (Ev.tup (ck.cons Ev.ny (ck.cons Ev.ny (ck.cons Ev.ny .nil))) (by simp)) rfl rfl P.p4 (by simp)) ?_;exact Ex.one (ba.put 0 (Ev.PE 0 rfl rfl Wr rfl VS) rfl rfl P.p5 (by simp))
  refine Ex.Ki rfl (ba.putL 0 (gz.lst .nil) rfl rfl P.p6 (by simp[nZ])) ?_;have step:∀{a:Str} {b:Bool} {ds lJ:List D},jM a=true→decide (a∈[("branch-and-bound":Str),"brute-force","standard","standard-fractions"])=b→(lJ=if b then ds++[.str a]else ds)→ds.length≤5→
    Ex c (n+2) (mM (wJ.fd .none u) L 325 Kk) [.own true (.kc (some u') 343 nZ "available_algorithms" ds),.val (.str "seqphragmen"),.val (.str a)]
     (nD wJ.body 3) (.next [.own true (.kc (some u') 343 nZ "available_algorithms" lJ),.val (.str "seqphragmen"),.no]):=by
   intro a b ds lJ h0 h1 h2 h3;refine Ex.weak (ρ₁:=[.own true (.kc (some u') 343 nZ "available_algorithms" lJ),.val (.str "seqphragmen"),.val (.str a)]) ?_ (by repeat (first|exact cx.nil|refine cx.cons (.inr rfl) ?_|refine cx.cons (.inl rfl) ?_));refine Ex.one (ba.ite (p:=b) (Tr.cmp (Ev.nm 2 rfl rfl) (Ev.gd (by kernel_rfl) W7 VT) (h1▸cB.RI h0 (by kernel_rfl) (by exact bD _))) (λ hb=>?_) λ hb=>?_)
   ·subst hb;rw[h2];exact Ex.one (ba.IW 0 (Ev.nm 2 rfl rfl) rfl rfl P.a3 (by exact rC h3 rfl))
   ·subst hb;rw[h2];exact Ex.nil
  refine Ex.one (ba.for (kg.of (Ev.PD 0 rfl rfl P.a1 rfl rfl) Ib.tuple) λ ds hd=>?_);subst hd;refine Lp.step (ρ'':=[.own true (.kc (some u') 343 nZ "available_algorithms" []),.val (.str "seqphragmen"),.no]) (ju.name 2 rfl (od rfl) (od rfl)) (step (b:=false) (by kernel_rfl) rfl rfl (by simp)) ?_;refine Lp.step (ρ'':=[.own true (.kc (some u') 343 nZ "available_algorithms" []),.val (.str "seqphragmen"),.no]) (ju.name 2 rfl (od rfl) (od rfl)) (step (b:=false) (by kernel_rfl) rfl rfl (by simp)) ?_;refine Lp.step (ρ'':=[.own true (.kc (some u') 343 nZ "available_algorithms" (yt ["standard-fractions"])),.val (.str "seqphragmen"),.no]) (ju.name 2 rfl (od rfl) (od rfl)) (step (b:=true) (by kernel_rfl) rfl rfl (by simp)) ?_;exact Lp.nil
 ·intro u;exact⟨_,rfl,λ O h v fp r=>r.Ca⟩
noncomputable abbrev MA:List Str:=["self","profile","committeesize","algorithm","resolute","max_num_of_committees"]
theorem yk(P:G4 c)(Q:iB c)(PF:fh c)(G:PG c){m k:Nat}{vs:List (Int×List Nat)}{b:Bool}{o:Option Nat}(h4:m≤4)(h1:0<k)(hk:k≤m)(h2:0<vs.length)(h3:vs.length≤3)(ho:∀j,o=some j→0<j∧b=false):
  Fn c (n+6) (.ref 340) [yE] [("profile",o9 m vs),("committeesize",.int (k:Int)),("algorithm",.str "standard-fractions"),("resolute",.bool b),("max_num_of_committees",my o)] .none:=by
 refine eX P.Pb λ u F p hp hc=>?_;refine Fn.of_next (vn:=MA) (np:=6) [.pos 0,.kw 0,.kw 1,.kw 2,.kw 3,.kw 4] (ρ₁:=[.val yE,.val (o9 m vs),.val (.int (k:Int)),.val (.str "standard-fractions"),.val (.bool b),.val (my o)]) F (by kernel_rfl) (by kernel_rfl) rfl rfl ?_ λ L=>?_
 ·intro s vs ks S hv hk;refine xe (rB hv) λ x z1=>?_;subst z1;refine iz (V9 hk) λ a b zh=>iq zh λ c d e z1=>?_;subst z1;exact P.Pw.binds S rfl rfl rfl
 ·show Ex c (n+5) (mM (xN.fd (.ref 333) u) L 340 MA) [.val yE,.val (o9 m vs),.val (.int (k:Int)),.val (.str "standard-fractions"),.val (.bool b),.val (my o)] _ _;refine xe Q.E7 λ pr K3=>?_;refine Ex.seq (ba.ite (p:=decide ((k:Int)<1)) (Tr.cmp (Ev.nm 2 rfl rfl) Ev.int cB.ltI) (λ h=>absurd h (by simp;exact cz.mpr h1)) λ z=>Ex.nil) ?_;refine Ex.seq (ba.ite (p:=decide ((m:Int)<(k:Int))) (Tr.cmp (Ev.nm 2 rfl rfl) (Ev.prop (Ev.nm 1 rfl rfl) K3 (yS Q G h4)) cB.Mq) (λ h=>absurd h (by simp;exact hk)) λ z=>Ex.nil) ?_;refine Ex.seq (ba.ite (p:=((vs.length:Int)==0)) (Tr.cmp (Ev.call (by kernel_rfl) G.len trivial (ck.cons (Ev.nm 1 rfl rfl) .nil) .nil (A5 Q G (by exact rC h3 rfl))) Ev.int cB.Ei) (λ h=>by simp at h;simp[h]at h2) λ z=>Ex.nil) ?_;refine Ex.seq (ba.ite (p:=false) (Tr.cmp (Ev.nm 3 rfl rfl) (Ev.attr (Ev.nm 0 rfl rfl) P.a1 rfl) (cB.M_ (by kernel_rfl) (by kernel_rfl) (by exact bD _))) (λ h=>by cases h) λ z=>Ex.nil) ?_;refine Ex.seq (ba.ite (p:=false) (Tr.cmp (Ev.nm 4 rfl rfl) (Ev.attr (Ev.nm 0 rfl rfl) P.a2 rfl) (by cases b<;>exact cB.KB .bool (.cons .bool (.cons .bool .nil)) (by exact bD _))) (λ h=>by cases h) λ z=>Ex.nil) ?_;cases o with
  |none=>
   refine Ex.seq (ba.ite (p:=false||false) (Tr.L3 (Tr.qL (b:=false) (b':=false) (Tr.cmp (Ev.nm 5 rfl rfl) Ev.lF cB.vF) (λ h=>by cases h)) λ z=>Tr.qL (b:=false) (b':=false) (Tr.cmp (Ev.nm 5 rfl rfl) Ev.lF cB.vF) (λ h=>by cases h)) (λ h=>by cases h) λ z=>Ex.nil) ?_;exact Ex.one (ba.ite (p:=false&&false) (Tr.qL (b:=false) (Tr.cmp (Ev.nm 5 rfl rfl) Ev.lF cB.vF) (λ h=>by cases h)) (λ h=>by cases h) λ z=>Ex.nil)
  |some j=>
   refine xa (ho j rfl) λ hj z1=>?_;subst z1;refine Ex.seq (ba.ite (p:=(true&& !true)||(true&&decide ((j:Int)<1))) (Tr.L3 (Tr.qL (Tr.cmp (Ev.nm 5 rfl rfl) Ev.lF cB.vF) λ z=>Tr.not (Tr.val (Ev.call (by kernel_rfl) (fh.lI PF) trivial (ck.cons (Ev.nm 5 rfl rfl) (ck.cons (Ev.gl (by kernel_rfl) (fh.xI PF)) .nil)) .nil (Fn.jk (fh.KV PF))) kA.bool)) λ z=>Tr.qL (Tr.cmp (Ev.nm 5 rfl rfl) Ev.lF cB.vF) λ z=>Tr.cmp (Ev.nm 5 rfl rfl) Ev.int cB.ltI) (λ h=>absurd h (by simp;exact cz.mpr hj)) λ z=>Ex.nil) ?_;exact Ex.one (ba.ite (p:=true&&false) (Tr.qL (Tr.cmp (Ev.nm 5 rfl rfl) Ev.lF cB.vF) λ z=>Tr.val (Ev.nm 4 rfl rfl) kA.bool) (λ h=>by cases h) λ z=>Ex.nil)
end
section
noncomputable abbrev Vo:=Int×List Nat
noncomputable def fJ(vs:List Vo)(x:Nat):Int:=((vs.filter λ v=>decide (x∈v.2)).map (·.1)).sum
noncomputable def lT(vs:List Vo)(ld:List Rat)(x:Nat):List Rat:=((vs.zip ld).filter λ p=>decide (x∈p.1.2)).map λ p=>p.2*(p.1.1:Rat)
theorem Ub{a b c d:Rat}(h:a≤b)(h':c≤d):a+c≤b+d:=dM (Rat.add_le_add_right.mpr h) (Rat.add_le_add_left.mpr h')
theorem PN{v:Vo}{vs:List Vo}{q:Rat}{ld:List Rat}{x:Nat}(h:x∈v.2):lT (v::vs) (q::ld) x=q*(v.1:Rat)::lT vs ld x:=
 congrArg (fN λ p:Vo×Rat=>p.2*(p.1.1:Rat)) (bY (p:= λ p:Vo×Rat=>decide (x∈p.1.2)) (a:=(v,q)) (decide_eq_true h))
theorem PM{v:Vo}{vs:List Vo}{q:Rat}{ld:List Rat}{x:Nat}(h:x∉v.2):lT (v::vs) (q::ld) x=lT vs ld x:=
 congrArg (fN λ p:Vo×Rat=>p.2*(p.1.1:Rat)) (bZ (p:= λ p:Vo×Rat=>decide (x∈p.1.2)) (a:=(v,q)) λ e=>h (of_decide_eq_true e))
theorem IU{v:Vo}{vs:List Vo}{q:Rat}{ld:List Rat}{x:Nat}(h:x∈v.2):(lT (v::vs) (q::ld) x).sum=q*(v.1:Rat)+(lT vs ld x).sum:=congrArg List.sum (PN h)
theorem IV{v:Vo}{vs:List Vo}{q:Rat}{ld:List Rat}{x:Nat}(h:x∉v.2):(lT (v::vs) (q::ld) x).sum=(lT vs ld x).sum:=congrArg List.sum (PM h)
theorem PK{v:Vo}{vs:List Vo}{x:Nat}(h:x∈v.2):fJ (v::vs) x=v.1+fJ vs x:=
 congrArg (λ l=>(fN (λ v:Vo=>v.1) l).sum) (bY (p:= λ v:Vo=>decide (x∈v.2)) (decide_eq_true h))
theorem PL{v:Vo}{vs:List Vo}{x:Nat}(h:x∉v.2):fJ (v::vs) x=fJ vs x:=
 congrArg (λ l=>(fN (λ v:Vo=>v.1) l).sum) (bZ (p:= λ v:Vo=>decide (x∈v.2)) λ e=>h (of_decide_eq_true e))
noncomputable def jb(vs:List Vo)(k:Nat)(com:List Nat)(ld:List Rat)(x:Nat):Rat:=
 if x∈com then(((k:Int)+2:Int):Rat)else if 0<fJ vs x then((lT vs ld x).sum+(1:Int)) / ((fJ vs x:Int):Rat)else(((k:Int)+1:Int):Rat)
noncomputable def Jr(a b:Rat):Bool:=decide (a<b)
noncomputable def n5:List Rat→Rat
 |[]=>0
 |q::qs=>rz Jr q qs
noncomputable def nA(vs:List Vo)(m k:Nat)(com:List Nat)(ld:List Rat):List Rat:=(aw m).map (jb vs k com ld)
noncomputable def eV(vs:List Vo)(m k:Nat)(com:List Nat)(ld:List Rat):List Nat:=(aw m).filter λ x=>decide (jb vs k com ld x=n5 (nA vs m k com ld))
noncomputable def upd(vs:List Vo)(k:Nat)(com:List Nat)(ld:List Rat)(x:Nat):List Rat:=(vs.zip ld).map λ p=>if x∈p.1.2 then jb vs k com ld x else p.2
structure lj(m:Nat)(vs:List Vo):Prop where
 l:vs.length≤3
 p:0<vs.length
 w:∀v∈vs,0<v.1∧v.1≤12
 s:∀v∈vs,v.2.Sublist [0,1,2,3]
noncomputable def eI(U:Int)(q:Rat):Prop:=∃a:Int,q*(U:Rat)=(a:Rat)
structure oT(vs:List Vo)(t:Nat)(ld:List Rat):Prop where
 l:ld.length=vs.length
 u:∃U:Int,0<U∧U≤36^t∧∀q∈ld,eI U q
 b:∀q∈ld,0≤q∧q≤((t:Int):Rat)
theorem eI.den{U:Int}(h:0<U){q:Rat}(hq:eI U q):(q.den:Int)≤U:=by
 refine xe hq ?_;clear hq;intro a e;have h1:q*((q.den:Int):Rat)=(q.num:Rat):=by
  have:=sZ (a:=(q.num:Rat)) (uG q);rwa[← tW q]at this
 have h2:q.num*U=a*(q.den:Int):=by
  have:((q.num*U:Int):Rat)=((a*(q.den:Int):Int):Rat):=by
   rw[bH,bH,← h1,← e];grind
  exact_mod_cast this
 have h3:q.den ∣ q.num.natAbs*U.natAbs:=⟨a.natAbs,by rw[← Int.natAbs_mul,h2,Int.natAbs_mul];simp[Nat.mul_comm]⟩;have h4:q.den ∣ U.natAbs:=q.reduced.symm.dvd_of_dvd_mul_left h3;have e:=qR (bJ h);rw[← e];exact ki.mpr (Nat.le_of_dvd (Int.natAbs_pos.mpr (uY h)) h4)
theorem eI.add{U:Int}{p q:Rat}(hp:eI U p)(hq:eI U q):eI U (p+q):=by
 refine xe hp ?_;clear hp;intro a e;refine xe hq ?_;clear hq;intro b f;exact⟨a+b,by rw[fO,← e,← f,Rat.add_mul]⟩
theorem eI.int(U a:Int):eI U (a:Rat):=⟨a*U,by rw[bH]⟩
theorem eI.mul{U:Int}{p:Rat}(hp:eI U p)(w:Int):eI U (p*(w:Rat)):=by
 refine xe hp ?_;clear hp;intro a e;exact⟨a*w,by rw[bH,← e];grind⟩
theorem eI.more{U:Int}{p:Rat}(hp:eI U p)(W:Int):eI (U*W) p:=by
 refine xe hp ?_;clear hp;intro a e;exact⟨a*W,by rw[bH,bH,← e];grind⟩
theorem eI.div{U W:Int}{p:Rat}(hp:eI U p)(hW:0<W):eI (U*W) (p / (W:Rat)):=by
 refine xe hp ?_;clear hp;intro a e;have SU:(W:Rat)≠0:=by have:=ph.mpr hW;grind
 exact⟨a,by rw[bH,← e];have:=sZ (a:=p) SU;grind⟩
theorem eI.sum{U:Int}{qs:List Rat}(h:∀q∈qs,eI U q):eI U qs.sum:=by
 induction qs with
 |nil=>exact eI.int U 0
 |cons q qs ih=>rw[rW];exact(h q (.head _)).add (ih λ z hz=>h z (.tail _ hz))
theorem s9(qs:List Rat)(a:Option Rat):nw qs a=if qs=[]then a else some (qs.sum+pQ a):=by
 induction qs generalizing a with
 |nil=>rfl
 |cons q qs ih=>
  refine(ih (some (q+pQ a))).trans ?_;rw[if_neg (List.cons_ne_nil q qs),rW]
  by_cases h:qs=[]
  ·subst h;show some (q+pQ a)=some (q+0+pQ a);rw[Rat.add_zero]
  ·rw[if_neg h];show some (qs.sum+(q+pQ a))=_;rw[← Rat.add_assoc,Rat.add_comm qs.sum q]
theorem ED{U:Int}(hU:0<U)(U7:U<2^32){qs:List Rat}{a:Option Rat}(h:∀q∈qs,eI U q)(ha:eI U (pQ a)):zX qs a:=by
 induction qs generalizing a with
 |nil=>trivial
 |cons q qs ih=>exact⟨b9 ((h q (.head _)).den hU) U7,b9 (ha.den hU) U7,ih (λ z hz=>h z (.tail _ hz)) ((h q (.head _)).add ha)⟩
variable {vs:List Vo}{m k t:Nat}{ld:List Rat}{com:List Nat}{x:Nat}
theorem oG(V:lj m vs)(x:Nat):0≤fJ vs x∧fJ vs x≤36:=
 have q:=AJ (b:=12) (by decide) (l:=(vs.filter λ v:Vo=>decide (x∈v.2)).map λ v:Vo=>v.1) (λ y hy=>jw hy λ v hv=>⟨bJ (V.w v (aN.mp hv).1).1,(V.w v (aN.mp hv).1).2⟩) (by rw[aE];exact af (bG _ _) V.l)
 ⟨q.1,ec q.2 (by decide)⟩
theorem s8(h:p∈vs.zip ld):p.1∈vs∧p.2∈ld:=⟨(js h).1,(js h).2⟩
theorem tm(L:oT vs t ld){U:Int}(hu:∀q∈ld,eI U q)(x:Nat):∀q∈lT vs ld x,eI U q:= λ q hq=>by
 refine jw hq λ p hp=>?_;exact(hu _ (s8 (aN.mp hp).1).2).mul _
theorem DH{x:Nat}{t:Nat}{vs:List Vo}{ld:List Rat}(hl:ld.length=vs.length)(hv:∀v∈vs,0<v.1)(hq:∀q∈ld,0≤q∧q≤((t:Int):Rat)):0≤(lT vs ld x).sum∧(lT vs ld x).sum≤((t:Int):Rat)*((fJ vs x:Int):Rat)∧0≤fJ vs x∧(fJ vs x=0→∀v∈vs,x∉v.2):=by
 induction vs generalizing ld with
 |nil=>
  refine y6 hl ⟨eo,?_,Int.le_refl _,λ _ _=>nn⟩;show(0:Rat)≤_*((0:Int):Rat);rw[Rat.intCast_zero,Rat.mul_zero];exact eo
 |cons v vs ih=>
  cases ld with
  |nil=>cases hl
  |cons q ld=>
   refine b_ (ih (Nat.succ.inj hl) (λ z hz=>hv z (.tail _ hz)) λ z hz=>hq z (.tail _ hz)) λ h1 h2 h3 h4=>?_;have w:=hv v (.head _);have w':(0:Rat)≤(v.1:Rat):=g_.mpr (bJ w);refine xa (hq q (.head _)) λ q0 q1=>?_
   by_cases hx:x∈v.2
   ·rw[IU hx,PK hx,fO,Rat.mul_add];have p:0<v.1+fJ vs x:=Int.add_pos_of_pos_of_nonneg w h3;exact⟨Rat.add_nonneg (qQ q0 w') h1,Ub (eE q1 w') h2,bJ p,λ h=>absurd h (uY p)⟩
   ·rw[IV hx,PL hx];exact⟨h1,h2,h3,λ h z hz=>by
     rcases mc hz with rfl|hz
     ·exact hx
     ·exact h4 h z hz⟩
theorem oT.pos(V:lj m vs)(L:oT vs t ld)(x:Nat):0≤(lT vs ld x).sum∧(lT vs ld x).sum≤((t:Int):Rat)*((fJ vs x:Int):Rat)∧0≤fJ vs x∧(fJ vs x=0→∀v∈vs,x∉v.2):=DH L.l (λ v hv=>(V.w v hv).1) L.b
theorem oC(V:lj m vs)(L:oT vs t ld)(hx:x∉com)(hw:0<fJ vs x):0≤jb vs k com ld x∧jb vs k com ld x≤(((t:Int)+1:Int):Rat)∧jb vs k com ld x*((fJ vs x:Int):Rat)=(lT vs ld x).sum+1:=by
 refine b_ (L.pos V x) λ h1 h2 h3 z=>?_;have hW:(0:Rat)<((fJ vs x:Int):Rat):=ph.mpr hw;have Yy:(1:Rat)≤((fJ vs x:Int):Rat):=by have:((1:Int):Rat)≤((fJ vs x:Int):Rat):=bW.mpr (by trivial);exact_mod_cast this
 have e:jb vs k com ld x*((fJ vs x:Int):Rat)=(lT vs ld x).sum+1:=by
  unfold jb;rw[if_neg hx,if_pos hw,sZ (by grind)];rfl
 refine⟨?_,?_,e⟩
 ·refine mI (c:=((fJ vs x:Int):Rat)) ?_ hW;rw[e];grind
 ·refine mI (c:=((fJ vs x:Int):Rat)) ?_ hW;rw[e,fO,Rat.add_mul];grind
theorem xp(hx:x∈com):jb vs k com ld x=(((k:Int)+2:Int):Rat):=by unfold jb;rw[if_pos hx]
theorem qw(V:lj m vs)(L:oT vs t ld)(hx:x∉com)(hw:¬0<fJ vs x):jb vs k com ld x=(((k:Int)+1:Int):Rat):=by unfold jb;rw[if_neg hx,if_neg hw]
theorem A7(V:lj m vs)(L:oT vs t ld)(ht:t<k)(hx:x∉com):jb vs k com ld x≤(((k:Int)+1:Int):Rat):=by
 by_cases hw:0<fJ vs x
 ·exact dM (oC V L hx hw).2.1 (bW.mpr (by lia))
 ·rw[qw V L hx hw];exact eo
theorem yM{t:Nat}(h:t≤4):(36:Int) ^t≤36^4:=by
 exact(by decide:∀t<5,(36:Int) ^t≤36^4) t (kq h)
theorem B1(V:lj m vs)(L:oT vs t ld)(ht:t≤4)(x:Nat):((jb vs k com ld x).den:Int)<2^32:=by
 unfold jb
 split
 ·rw[Rat.den_intCast];decide
 ·split
  ·rename_i hw;refine cH L.u λ U h0 h1 hu=>?_;have:=((eI.sum (tm L hu x)).add (eI.int U 1)).div hw;have h2:=this.den (qP h0 hw);have h3:=(oG V x).2;have h4:=yM ht;have h5:U*fJ vs x≤36^4*36:=z9 (ec h1 h4) h3 (bJ hw) (by decide);exact b9 (ec h2 h5) (by decide)
  ·rw[Rat.den_intCast];decide
theorem oT.T7(L:oT vs t ld)(ht:t≤4)(x:Nat):zX (lT vs ld x) none:=by
 refine cH L.u λ U h0 h1 hu=>?_;exact ED h0 (b9 (ec h1 (yM ht)) (by decide)) (tm L hu x) (eI.int U 0)
theorem oT.den(L:oT vs t ld)(ht:t≤4):∀q∈ld,(q.den:Int)<2^32:= λ q hq=>by
 refine cH L.u λ U h0 h1 hu=>?_;exact b9 ((hu q hq).den h0) (b9 (ec h1 (yM ht)) (by decide))
theorem B3:∀(qs:List Rat) (b:Rat),rz Jr b qs≤b∧∀q∈qs,rz Jr b qs≤q:=by
 intro w
 induction w with
 |nil=>
  intro b;exact⟨eo,λ z=>nn⟩
 |cons x xs ih=>
  intro b;rw[Fl];refine xa (ih (if Jr x b then x else b)) λ h1 h2=>?_
  by_cases h:Jr x b
  ·rw[if_pos h]at h1 h2⊢;have h':x<b:=by simpa[Jr]using h
   exact⟨dM h1 (Rat.le_of_lt h'),λ q hq=>by
    rcases mc hq with rfl|hq
    ·exact h1
    ·exact h2 q hq⟩
  ·rw[if_neg h]at h1 h2⊢;have h':b≤x:=Rat.not_lt.mp (by simpa[Jr]using h);exact⟨h1,λ q hq=>by
    rcases mc hq with rfl|hq
    ·exact dM h1 h'
    ·exact h2 q hq⟩
theorem xt{qs:List Rat}{q:Rat}(h:q∈qs):n5 qs≤q:=by
 cases qs with
 |nil=>exact nn h
 |cons y ys=>
  rcases aD.mp h with rfl|h
  ·exact(B3 ys q).1
  ·exact(B3 ys y).2 q h
theorem ua{qs:List Rat}(h:qs≠[]):n5 qs∈qs:=by
 cases qs with
 |nil=>exact absurd rfl h
 |cons y ys=>exact yT
theorem lC:x∈eV vs m k com ld↔x<m∧∀y,y<m→jb vs k com ld x≤jb vs k com ld y:=by
 unfold eV;rw[aN,aO,decide_eq_true_eq];refine⟨λ w0=>xa w0 λ h1 h2=>⟨h1,λ y hy=>h2▸xt (aM.mpr ⟨y,aO.mpr hy,rfl⟩)⟩,λ w0=>xa w0 λ h1 h2=>⟨h1,?_⟩⟩;refine Rat.le_antisymm ?_ (xt (aM.mpr ⟨x,aO.mpr h1,rfl⟩));refine cW (aM.mp (ua (qs:=nA vs m k com ld) (by unfold nA;intro e;simp at e;lia))) λ y hy e=>?_;rw[← e];exact h2 y (aO.mp hy)
structure oH(m k t:Nat)(com:List Nat):Prop where
 n:com.Nodup
 r:∀x∈com,x<m
 l:com.length=t
 k:k≤m
theorem oH.free(C:oH m k t com)(ht:t<k):∃y,y<m∧y∉com:=dr λ h=>by
 have h1:∀y∈aw m,y∈com:= λ y hy=>dr λ hn=>h ⟨y,aO.mp hy,hn⟩;have h2:=List.Nodup.length_le_of_subset List.nodup_range h1;have:=C.l;have:=C.k;rw[tw]at h2;lia
theorem h_(V:lj m vs)(L:oT vs t ld)(C:oH m k t com)(ht:t<k)(h:x∈eV vs m k com ld):x∉com:= λ hx=>by
 refine cW (C.free ht) λ y hy Wl=>?_;have h1:=(lC.mp h).2 y hy;have h2:=A7 V L ht Wl;rw[xp hx]at h1;have:=bW.mp (dM h1 h2);lia
theorem s_(h:0<m):eV vs m k com ld≠[]:= λ e=>by
 refine cW (aM.mp (ua (qs:=nA vs m k com ld) (by unfold nA;intro e;simp at e;exact T3 h e))) λ y hy e'=>?_;have:y∈eV vs m k com ld:=aN.mpr ⟨hy,by simpa using e'⟩;rw[e]at this;cases this
theorem r7(L:oT vs t ld)(f:Vo×Rat→Rat):((vs.zip ld).map f).length=vs.length:=by simp[L.l]
theorem tI(V:lj m vs)(L:oT vs t ld)(hx:x∉com):oT vs (t+1) (upd vs k com ld x):=by
 have pD:∀q∈upd vs k com ld x,q∈ld∨(0<fJ vs x∧q=jb vs k com ld x):= λ q hq=>by
  refine jw hq λ p hp=>?_
  by_cases h:x∈p.1.2
  ·rw[if_pos h];refine .inr ⟨?_,rfl⟩;refine b_ (L.pos V x) λ z z h3 h4=>?_;exact dr λ e=>h4 (by lia) _ (s8 hp).1 h
  ·rw[if_neg h];exact .inl (s8 hp).2
 refine cH L.u λ U h0 h1 hu=>?_;refine⟨r7 L _,?_,λ q hq=>?_⟩
 ·by_cases hw:0<fJ vs x
  ·refine⟨U*fJ vs x,qP h0 hw,?_,λ q hq=>?_⟩
   ·rw[uX];exact z9 h1 (oG V x).2 (bJ hw) (bJ (wU (by decide)))
   ·rcases pD q hq with h|⟨_,rfl⟩
    ·exact(hu q h).more _
    ·unfold jb;rw[if_neg hx,if_pos hw];exact((eI.sum (tm L hu x)).add (eI.int U 1)).div hw
  ·refine⟨U,h0,?_,λ q hq=>?_⟩
   ·rw[uX];have:(0:Int)<36^t:=wU (by decide);lia
   ·rcases pD q hq with h|⟨h,_⟩
    ·exact hu q h
    ·exact absurd h hw
 ·rcases pD q hq with h|⟨hw,rfl⟩
  ·exact⟨(L.b q h).1,dM (L.b q h).2 (bW.mpr (by lia))⟩
  ·have:=oC (k:=k) V L hx hw;exact⟨this.1,by exact_mod_cast this.2.1⟩
theorem oT.start(vs:List Vo):oT vs 0 (vs.map λ z=>0):=by
 have h:∀q∈vs.map (λ z=>(0:Rat)),q=0:= λ q hq=>by refine cW (aM.mp hq) λ z z e=>?_;exact e.symm
 exact⟨by exact aE _,⟨1,by decide,by decide,λ q hq=>by rw[h q hq];exact eI.int 1 0⟩,λ q hq=>by rw[h q hq];exact⟨eo,eo⟩⟩
noncomputable def xA(f:Nat→D):List Nat→List (Int×D)→List (Int×D)
 |[],acc=>acc
 |x::xs,acc=>xA f xs (((x:Int),f x)::acc)
theorem Nu(f:Nat→D)(x:Nat)(xs:List Nat)(acc:List (Int×D)):xA f (x::xs) acc=xA f xs (((x:Int),f x)::acc):=rfl
theorem mW{f:Nat→D}{x:Nat}:∀(xs:List Nat) (acc:List (Int×D)),(xA f xs acc).lookup (x:Int)=if x∈xs then some (f x)else acc.lookup (x:Int):=by
 intro w
 induction w with
 |nil=>
  intro acc;rfl
 |cons y ys ih=>
  intro acc;rw[Nu,ih,aX]
  by_cases h:x∈ys
  ·simp[h]
  ·by_cases e:x=y
   ·subst e;simp[h]
   ·have:((x:Int)==(y:Int))=false:=by simp;lia
    simp[h,e,this]
noncomputable def D8{α:Type}(v:α)(com:List Nat):List Nat→List α→List α
 |[],ws=>ws
 |x::xs,ws=>D8 v com xs (if x∈com then ws.set x v else ws)
theorem E9{α:Type}(v:α)(com:List Nat)(x:Nat)(xs:List Nat)(ws:List α):D8 v com (x::xs) ws=D8 v com xs (if x∈com then ws.set x v else ws):=rfl
theorem HT{α:Type}{v:α}:∀(xs:List Nat) (ws:List α),(D8 v com xs ws).length=ws.length:=by
 intro w
 induction w with
 |nil=>
  intro z;exact rfl
 |cons x xs ih=>
  intro ws;rw[E9,ih];split<;>simp
theorem HU{α:Type}{v:α}{i:Nat}:∀(xs:List Nat) (ws:List α),i<ws.length→(D8 v com xs ws)[i]? =if i∈xs∧i∈com then some v else ws[i]? :=by
 intro w
 induction w with
 |nil=>
  intro ws z;rfl
 |cons x xs ih=>
  intro ws h;rw[E9,ih _ (by split<;>simpa using h)]
  by_cases h1:i∈xs∧i∈com
  ·rw[if_pos h1,if_pos ⟨.tail _ h1.1,h1.2⟩]
  ·rw[if_neg h1]
   by_cases hx:x∈com
   ·rw[if_pos hx]
    by_cases e:i=x
    ·subst e;rw[if_pos ⟨.head _,hx⟩];simp[h]
    ·rw[aQ (λ h=>e h.symm),if_neg (λ h=>h1 ⟨(aD.mp h.1).resolve_left e,h.2⟩)]
   ·rw[if_neg hx,if_neg (show¬(i∈x::xs∧i∈com)from λ h=>(aD.mp h.1).elim (λ e=>hx (by rw[← e];exact h.2)) λ h'=>h1 ⟨h',h.2⟩)]
theorem BZ{α:Type}{v:α}(f:Nat→α):D8 v com (aw m) ((aw m).map f)=(aw m).map λ x=>if x∈com then v else f x:=by
 refine j5 λ i=>?_
 by_cases h:i<m
 ·rw[HU _ _ (by simpa using h)]
  by_cases hc:i∈com<;>simp[h,hc]
 ·rw[bk (by rw[HT];simp;lia),bk (by simp;lia)]
noncomputable def AG(f:Nat→Vo→D→D):List Vo→Nat→List D→List D
 |[],_,ws=>ws
 |v::vs,i,ws=>AG f vs (i+1) (match ws[i]? with|some w=>ws.set i (f i v w)|none=>ws)
theorem Ez(f:Nat→Vo→D→D)(v:Vo)(vs:List Vo)(i:Nat)(ws:List D):AG f (v::vs) i ws=AG f vs (i+1) (match ws[i]? with|some w=>ws.set i (f i v w)|none=>ws):=rfl
theorem J6(f:Nat→Vo→D→D)(i:Nat)(ws:List D):AG f [] i ws=ws:=rfl
theorem Ey{f:Nat→Vo→D→D}:∀(vs:List Vo) (i:Nat) (ws:List D),ws.length=i+vs.length→∀j,(AG f vs i ws)[j]? =if i≤j then(vs[j-i]?.bind λ v=>ws[j]?.map (f j v))else ws[j]? :=by
 intro w
 induction w with
 |nil=>
  intro i ws h j;rw[J6]
  split
  ·rw[bk (by simp at h;lia)];rfl
  ·rfl
 |cons v vs ih=>
  intro i ws h j;simp only[aJ]at h;have hi:i<ws.length:=by exact GW h
  rw[Ez,aq hi,ih (i+1) _ (by rw[jt];exact LQ h)]
  rcases u5 j i with h1|h1|h1
  ·rw[if_neg (by lia),if_neg (by lia),aQ (by exact dA h1)]
  ·subst h1;rw[if_neg (by lia),if_pos (by exact az _),bp hi,DY];simp[hi]
  ·rw[if_pos (by trivial),if_pos (by exact bV h1),aQ (by exact dO h1)];obtain⟨d,rfl⟩:∃d,j=i+1+d:=Tq h1;rw[PW,List.getElem?_cons_succ,oy]
theorem I4{k:Nat}{com:List Nat}{ld:List Rat}{x:Nat}{f:Nat→Vo→D→D}{ws:List D}(h:ld.length=vs.length)(hw:ws.length=vs.length)(hf:∀j v w,ws[j]? =some w→f j v w=eM (if x∈v.2 then jb vs k com ld x else ld.getD j 0)):AG f vs 0 ws=(upd vs k com ld x).map eM:=by
 refine j5 λ j=>?_;rw[Ey vs 0 ws (by lia),if_pos (bS _),DX,bR,upd,bR]
 by_cases hj:j<vs.length
 ·have hz:j<(vs.zip ld).length:=by rw[lR];exact KJ h hj
  have W0:j<ld.length:=by exact Ea h hj
  rw[aq hj,aq (show j<ws.length by exact Ea hw hj),aq hz];simp only[nt,jf,List.getElem_zip];rw[hf j _ _ (aq (show j<ws.length by lia)),ai,aq W0];rfl
 ·rw[bk (l:=vs) (by exact cu hj),bk (l:=vs.zip ld) (by rw[lR];lia)];rfl
noncomputable def cJ(xs:List Nat):List Nat:=(ql (xs.map λ (x:Nat)=>(x:Int))).map CB
theorem v7(xs:List Nat):(cJ xs).map (λ (x:Nat)=>(x:Int))=ql (xs.map λ (x:Nat)=>(x:Int)):=by
 unfold cJ;rw[bI];have:∀y∈ql (xs.map λ (x:Nat)=>(x:Int)),((λ (x:Nat)=>(x:Int))∘CB) y=id y:= λ y hy=>by
  obtain⟨z,_,rfl⟩:=aM.mp ((mT _).mem_iff.mp hy);simp
 rw[cj this,List.map_id]
theorem eK(xs:List Nat):(cJ xs).Perm xs:=by
 have:=(mT (xs.map λ (x:Nat)=>(x:Int))).map CB;rw[bI]at this;refine this.trans (by rw[show CB∘ (λ (x:Nat)=>(x:Int))=id from funext λ x=>by simp,List.map_id])
theorem xh(xs:List Nat):(cJ xs).Pairwise (·≤ ·):=by
 have h:=mS (xs.map λ (x:Nat)=>(x:Int));rw[← v7,tv]at h;exact h.imp λ h=>by exact ki.mp h
theorem AK{ys xs:List Nat}(hx:xs.Pairwise (· < ·))(hy:ys.Pairwise (· < ·))(h:∀x∈xs,x∈ys):xs.Sublist ys:=by
 induction ys generalizing xs with
 |nil=>cases xs with|nil=>exact .slnil|cons x xs=>exact nn (h x (.head _))
 |cons y ys ih=>
  have hy:=dP.mp hy;cases xs with
  |nil=>exact List.nil_sublist _
  |cons x xs=>
   have wt:=dP.mp hx
   rcases mc (h x (.head _))with rfl|hm
   ·exact(ih wt.2 hy.2 λ z hz=>(mc (h z (.tail _ hz))).elim (λ e=>T5 (wt.1 _ hz) e) id).cons₂ _
   ·refine(ih hx hy.2 λ z hz=>(mc (h z hz)).elim (λ e=>?_) id).cons _;have l:=e▸hy.1 _ hm;exact(mc hz).elim (λ e=>T5 l e.symm) λ hz=>VB (wt.1 _ hz) l
theorem v5(hn:com.Nodup)(hr:∀x∈com,x<m)(hm:m≤4):(cJ com).Sublist [0,1,2,3]:=
 have hp:=eK com
 AK (((xh com).and (hp.nodup_iff.mpr hn)).imp λ h=>mH h.1 h.2) (by decide) λ x hx=>
  (aO.mpr (ab (hr x (hp.mem_iff.mp hx)) hm):x∈aw 4)
theorem oH.next(C:oH m k t com)(ht:t<k)(hx:x∉com)(hm:x<m):oH m k (t+1) (com++[x]):=
 ⟨j0.mpr ⟨C.n,jG _ _,λ a ha b hb=>by rw[aj]at hb;subst hb;exact λ e=>hx (e▸ha)⟩,λ z hz=>(aC.mp hz).elim (C.r z) (λ h=>by rw[aj]at h;subst h;exact hm),by rw[aY,C.l];rfl,C.k⟩
theorem oH.sort(C:oH m k t com):oH m k t (cJ com):=
 ⟨(eK com).nodup_iff.mpr C.n,λ z hz=>C.r z ((eK com).mem_iff.mp hz),by rw[(eK com).length_eq,C.l],C.k⟩
theorem oH.nil(h:k≤m):oH m k 0 []:=⟨ml,λ z=>nn,rfl,h⟩
end
section
set_option backward.match.sparseCases false
noncomputable def DF:FD:=defAt 26
noncomputable def IL:FD:=defAt 27
noncomputable def Cs:FD:=defAt 25
structure LW(c:Cx):Prop where
 Pd:FnAt c 200 pK .none
 gT:cV c "total" (.ref 200)
 kT:jz c (.ref 200)
 O9:FnAt c 441 rP .none
 gD:cV c "division" (.ref 441)
 kD:jz c (.ref 441)
 Pa:FnAt c 428 DF (.ref 423)
 Pu:sT c 423 [.none,.none]
 gR:cV c "_seqphragmen_resolute" (.ref 428)
 kR:jz c (.ref 428)
 O_:FnAt c 434 IL (.ref 429)
 Pt:sT c 429 [.none,.none]
 gI:cV c "_seqphragmen_irresolute" (.ref 434)
 kI:jz c (.ref 434)
 IG:FnAt c 422 Cs (.ref 415)
 IM:∃t,sT c 415 [.str "fastest" t,.bool true,.none]
 gC:cV c "compute_seqphragmen" (.ref 422)
 kC:jz c (.ref 422)
noncomputable def Jj:BD:=⟨⟨588,12,588,17⟩,⟨589,18,589,23⟩,⟨589,12,589,23⟩,⟨589,12,589,23⟩,⟨588,21,588,25⟩,⟨588,21,588,33⟩,⟨588,8,589,23⟩⟩
section
variable {c:Cx}{n:Nat}{E:VE}{ρ ρ':List Sl}
theorem KY(P:iB c){tg:Expr}{m:Nat}{vs:List Vo}:Ib c (n+1) tg (o9 m vs) (· =vs.map ly):=by
 refine eX P.Ly λ u F p hp hc=>?_;exact Ib.inst (nm:="_voters") (x:="self") (y:="voter") Jj F (by kernel_rfl) (by kernel_rfl) P.RC P.RE P.GN rfl λ s v z=>.of_eq (by kernel_rfl)
theorem xM(P:iB c)(G:PG c){elts:List Expr}{x1}{nT p pos pz:Pos}{z:Str}{m:Nat}{vs:List Vo}(hx:E.env.kindOf "enumerate"=some .globalImplicit)(h:Ev c (n+4) E ρ (.Name z pz) (o9 m vs)):
  kg c (n+4) E ρ (.Call (.Name "enumerate" p) [.Name z pz] [] pos) (.Tuple elts x1 nT) (· =ij 0 (vs.map ly)):=by
 refine eX P.Ly λ u F p hp hc=>?_;exact kg.enum (nm:="_voters") (x:="self") (y:="voter") Jj F (by kernel_rfl) (by kernel_rfl) P.RC P.RE P.GN rfl (λ s v j=>.of_eq (by kernel_rfl)) hx G.enum h
noncomputable def D.QY:D→Option (List D)
 |.tup l=>some l
 |_=>.none
noncomputable def D.ND:D→Option Int
 |.int i=>some i
 |_=>.none
noncomputable def D.NG:D→Option (List (Str×D))
 |.inst _ l=>some l
 |_=>.none
noncomputable def D.NA:D→Option (List Nat)
 |.dm l=>some l
 |_=>.none
noncomputable def Mz(d:D):Option Vo:=d.NG.bind λ l=>(l[0]?).bind λ a=>(l[1]?).bind λ b=>a.2.ND.bind λ w=>b.2.NA.map λ xs=>(w,xs)
noncomputable def M0(d:D):Option (Int×D):=d.QY.bind λ l=>(l[0]?).bind λ a=>(l[1]?).bind λ b=>a.ND.map λ i=>(i,b)
noncomputable def CN(x:Nat)(d:D):Option D:=(Mz d).bind λ v=>if x∈v.2 then some (.int v.1)else none
theorem Eu(x:Nat)(vs:List Vo):(vs.map ly).filterMap (CN x)=D.ints ((vs.filter λ v=>decide (x∈v.2)).map (·.1)):=by
 induction vs with
 |nil=>rfl
 |cons v vs ih=>
  have e:CN x (ly v)=if x∈v.2 then some (.int v.1)else none:=rfl
  rw[a9,f9,e,ih]
  by_cases h:x∈v.2
  ·rw[if_pos h,bY (p:= λ v:Vo=>decide (x∈v.2)) (decide_eq_true h)];rfl
  ·rw[if_neg h,bZ (p:= λ v:Vo=>decide (x∈v.2)) λ e=>h (of_decide_eq_true e)]
noncomputable def Ba(ld:List Rat)(x:Nat)(d:D):Option D:=(M0 d).bind λ p=>(Mz p.2).bind λ v=>if x∈v.2 then some (eM (ld.getD p.1.toNat 0*(v.1:Rat)))else none
theorem FC(ld:List Rat)(x:Nat)(vs:List Vo)(i:Nat)(h:ld.length=i+vs.length):(ij i (vs.map ly)).filterMap (Ba ld x)=(lT vs (ld.drop i) x).map eM:=by
 induction vs generalizing i with
 |nil=>rfl
 |cons v vs ih=>
  have hi:i<ld.length:=GW h;have e:Ba ld x (.tup [.int (i:Int),ly v])=if x∈v.2 then some (eM (ld.getD i 0*(v.1:Rat)))else none:=rfl
  show ya (Ba ld x) (D.tup [.int (i:Int),ly v]::ij (i+1) (vs.map ly))=_;rw[f9,e,ih (i+1) (LQ h),et hi,ai,aq hi]
  by_cases hx:x∈v.2
  ·rw[if_pos hx,PN hx];rfl
  ·rw[if_neg hx,PM hx]
theorem yU{d:D}{vs:List Vo}{i:Nat}(h:d∈ij i (vs.map ly)):∃j v,v∈vs∧i≤j∧j<i+vs.length∧d=.tup [.int (j:Int),ly v]:=by
 induction vs generalizing i with
 |nil=>exact nn h
 |cons v vs ih=>
  rcases mc h with rfl|h
  ·exact⟨i,v,.head _,az _,jO (bD _),rfl⟩
  ·exact bL (ih h) λ j w hw h1 h2 e=>⟨j,w,.tail _ hw,bV h1,fw h2 (dq i 1 _),e⟩
theorem Lp.fill(i j:Nat){x y:Str}{f:Nat→D}{p1 p2 p3 p4 pos:Pos}{e:Expr}(hy:E.vn[i]? =some y)(hx:E.vn[j]? =some x)(hj:j<E.k)(rH:i≠j)(hl:i<ρ.length)(dQ:ρ[j]? =some .no)(hs:swapsWith e (some (.Subscript (.Name y p2) (.Name x p3) p4)) pos.line E.env=pure false):∀(xs:List Nat) (N:Nat) (acc:List (Int×D)),N+xs.length≤900→
  (∀z∈xs,∀N acc,Ev c n E ((ρ.set i (.own true (.dK N acc))).set j (.val (.int (z:Int)))) e (f z))→
  Lp c n E (ρ.set i (.own true (.dK N acc))) (.Name x p1) [.Assign [.Subscript (.Name y p2) (.Name x p3) p4] e pos] (D.nats xs) (.next (ρ.set i (.own true (.dK (N+xs.length) (xA f xs acc))))):=by
 intro w
 induction w with
 |nil=>
  intro N acc u u;exact Lp.nil
 |cons z xs ih=>
  intro N acc hz he;have K7:j<ρ.length:=(ay.mp dQ).1;simp only[aJ]at hz⊢;rw[show N+(xs.length+1)=(N+1)+xs.length by lia];refine Lp.step (ρ'':=ρ.set i (.own true (.dK (N+1) (((z:Int),f z)::acc)))) (ju.name j hx hj (by simpa using K7)) ?_ (ih _ _ (by exact JU hz rfl) λ z' h=>he z' (.tail _ h));have hi:((ρ.set i (.own true (.dK N acc))).set j (.val (.int (z:Int))))[i]? =some (.own true (.dK N acc)):=by rw[aQ (Ne.symm rH),bp hl]
  have Ot:((ρ.set i (.own true (.dK N acc))).set j (.val (.int (z:Int))))[j]? =some (.val (.int (z:Int))):=by rw[bp (by simpa using K7)]
  have q:=ba.Q4 i (pos:=pos) (p:=p2) (p':=p4) (ke:=.Name x p3) (he z (.head _) N acc) (Ev.nm j hx Ot) hy hi (by exact GY hz rfl) hs;rw[Aw _ _ rH.symm,l_]at q;exact Ex.weak (Ex.one q) (cx.set (by rw[ai,aQ rH,dQ];rfl))
theorem Fn.n5(P:fh c){qs:List Rat}(h:qs≠[])(hd:∀q∈qs,(q.den:Int)<2^32):Fn c (n+2) (.builtin "min") [.lst (qs.map eM)] [] (eM (n5 qs)):=by
 cases qs with
 |nil=>exact absurd rfl h
 |cons q qs=>exact Fn.H4 (f:=eM) (lt:=Jr) λ y hy z hz=>Tg P (kj (hd y hy) (by decide)) (kj (hd z hz) (by decide))
theorem vM.nats{xs:List Nat}(hl:xs.length<64):vM c n [] (D.nats xs) (D.nats (cJ xs)):=by
 have:=vM.ints (c:=c) (n:=n) (xs:=xs.map λ (x:Nat)=>(x:Int)) (by simpa using hl);rwa[← v7,← dX,← dX]at this
theorem DB{qs:List Rat}{i:Nat}{q:Rat}(h:qs[i]? =some q):(qs.map eM)[((i:Nat):Int).toNat]? =some (eM q):=by
 show(qs.map eM)[i]? =_;rw[bR,h];rfl
theorem xq{vs:List Vo}{m k:Nat}{com:List Nat}{ld:List Rat}{x:Nat}(h:x<m):(nA vs m k com ld)[x]? =some (jb vs k com ld x):=by
 unfold nA;rw[bR,qX h];rfl
end
end
section
variable {c:Cx}{n:Nat}{E:VE}{ρ ρ':List Sl}
theorem X7{v:Vo}{x:Nat}{y:Str}{q:Pos}{e elt:Expr}(hx:E.vn[0]? =some y)(hk:0<E.k)(dQ:ρ[0]? =some .no)(t:Tr c n E (ρ.set 0 (.val (ly v))) e (decide (x∈v.2)))(h:xV c n E (ρ.set 0 (.val (ly v))) elt (.int v.1)):
  El c n E ρ (.Name y q) [e] (ly v) (CN x (ly v)).isSome λ ρ'=>∀z,CN x (ly v)=some z→xV c n E ρ' elt z:=by
 have e0:CN x (ly v)=if x∈v.2 then some (D.int v.1)else none:=rfl
 rw[e0]
 by_cases hm:x∈v.2
 ·rw[if_pos hm];rw[decide_eq_true hm]at t;exact El.Fe 0 hx hk dQ t λ j z hz=>by cases hz;exact h
 ·rw[if_neg hm];rw[decide_eq_false hm]at t;exact El.Fe 0 hx hk dQ t λ h=>nomatch h
theorem X8{v:Vo}{x j:Nat}{ld:List Rat}{y y':Str}{p p' q:Pos}{k:Nat}{e elt:Expr}(hx:E.vn[0]? =some y)(wt:E.vn[1]? =some y')(hk:1<E.k)(dQ:ρ[0]? =some .no)(uo:ρ[1]? =some .no)(t:Tr c n E ((ρ.set 0 (.val (.int (j:Int)))).set 1 (.val (ly v))) e (decide (x∈v.2)))(h:xV c n E ((ρ.set 0 (.val (.int (j:Int)))).set 1 (.val (ly v))) elt (eM (ld.getD j 0*(v.1:Rat)))):
  El c n E ρ (.Tuple [.Name y p,.Name y' p'] k q) [e] (.tup [.int (j:Int),ly v]) (Ba ld x (.tup [.int (j:Int),ly v])).isSome λ ρ'=>∀z,Ba ld x (.tup [.int (j:Int),ly v])=some z→xV c n E ρ' elt z:=by
 have e0:Ba ld x (.tup [.int (j:Int),ly v])=if x∈v.2 then some (eM (ld.getD j 0*(v.1:Rat)))else none:=rfl
 rw[e0]
 by_cases hm:x∈v.2
 ·rw[if_pos hm];rw[decide_eq_true hm]at t;exact El.I9 0 1 hx (kr hk) dQ wt hk uo t λ u z hz=>by cases hz;exact h
 ·rw[if_neg hm];rw[decide_eq_false hm]at t;exact El.I9 0 1 hx (kr hk) dQ wt hk uo t λ h=>nomatch h
theorem xR{i:Nat}{tn:List Str}{ix:List Nat}{j:Nat}{d:D}(hi:ix[i]? =some j)(hj:ρ[j]? =some (.val d)):(oR ρ tn ix)[tn.length+i]? =some (.val d):=by
 unfold oR;rw[d8 (by simp),D4,oy,bR,hi,jf,ai,hj];rfl
theorem Ev.cast{e:Expr}{d d':D}(h:d=d')(x:Ev c n E ρ e d'):Ev c n E ρ e d:=h▸x
theorem Ev.fJ(P:iB c)(G:PG c){m x:Nat}{vs:List Vo}(V:lj m vs)(i j:Nat){scope:iT}{p1 p2 p3 p4 p5 p6 p7 p8 p9 uy pos:Pos}{tb:Addr×Addr}(k:sA E.env E.vn scope ["voter"] [j]=true)(h0:scope.names.lookup (".0":Str)=some NameKind.local)(hs:E.env.kindOf "sum"=some .globalImplicit)(K3:E.vn[i]? =some ("profile":Str))(K2:ρ[i]? =some (.val (o9 m vs)))(Dv:E.vn[j]? =some ("cand":Str))(Lg:ρ[j]? =some (.val (.int (x:Int))))(hp:tb∈c.tabs)(hc:E.env.code=.ref tb.1)(hf:∀z,genFold (.Name "profile" p5) E.env z=pure z):
  Ev c (n+5) E ρ (.Call (.Name "sum" p1) [.GeneratorExp (.Attribute (.Name "voter" p2) "weight" p3) [⟨.Name "voter" p4,.Name "profile" p5,[.Compare (.Name "cand" p6) [.In] [.Attribute (.Name "voter" p7) "approved" p8] p9],0⟩] scope uy] [] pos) (.int (fJ vs x)):=by
 refine Ev.zR (m:=n+4) (tg:=.Name "x" default) hs G.sum trivial (Hi.mk (n:=n+2) k h0 (CN x) (kg.of (Ev.nm i K3 K2) (KY (n:=n+1) P)) hp hc (λ ds hd C code d iP=>?_) hf) (by exact bq _) λ eL ho=>?_
 ·subst hd;refine jw iP λ v hv=>?_;refine X7 rfl (by show 0<vP ["voter"];decide) rfl (Tr.cmp (Ev.nm 1 (by simp[kL,ji,ai,Dv]) ((aQ (by decide)).trans (xR (tn:=["voter"]) (ix:=[j]) (i:=0) rfl Lg))) (Ev.attr (Ev.nm 0 rfl rfl) P.LM rfl) cB.inSet) ((Ev.attr (Ev.nm 0 rfl rfl) P.PH rfl).flat rfl)
 ·obtain⟨ds,rfl,rfl⟩:=ho;rw[Eu];refine x8.Hx (n:=n+4) (az _) (λ y hy=>?_) ?_
  ·refine jw hy λ v hv=>?_;have:=V.w v (aN.mp hv).1;exact Qa (bJ this.1) (b9 this.2 (by decide))
  ·have h1:(vs.filter λ v=>decide (x∈v.2)).length≤vs.length:=bG _ _;have:=V.l;rw[aE];exact G6 h1 this rfl
theorem Ev.LN(PF:fh c)(P:iB c)(G:PG c)(Q:LW c){m x t:Nat}{vs:List Vo}{ld:List Rat}{dl:D}(V:lj m vs)(L:oT vs t ld)(ht:t≤4)(hl:∀j,j<vs.length→∀n',Mine.Sub c (n'+1) dl (.int (j:Int)) (eM (ld.getD j 0)))(i j l:Nat){scope:iT}{p1 p2 p3 p4 p5 p6 p7 p8 p9 q1 q2 q3 q4 q5 uy pos:Pos}{k1:Nat}{tb:Addr×Addr}(k:sA E.env E.vn scope ["v","voter"] [j,l]=true)(h0:scope.names.lookup (".0":Str)=some NameKind.local)(hs:E.env.kindOf "total"=some .globalImplicit)(W9:E.env.kindOf "enumerate"=some .globalImplicit)(K3:E.vn[i]? =some ("profile":Str))(K2:ρ[i]? =some (.val (o9 m vs)))(Dv:E.vn[j]? =some ("cand":Str))(Lg:ρ[j]? =some (.val (.int (x:Int))))(Ql:E.vn[l]? =some ("load":Str))(Sj:ρ[l]? =some (.val dl))(hp:tb∈c.tabs)(hc:E.env.code=.ref tb.1)(hf:∀z,genFold (.Call (.Name "enumerate" q4) [.Name "profile" p5] [] q5) E.env z=pure z):
  Ev c (n+9) E ρ (.Call (.Name "total" p1) [.GeneratorExp (.BinOp (.Subscript (.Name "load" q1) (.Name "v" q2) q3) .Mult (.Attribute (.Name "voter" p2) "weight" p3) p9) [⟨.Tuple [.Name "v" p4,.Name "voter" p8] k1 uy,.Call (.Name "enumerate" q4) [.Name "profile" p5] [] q5,[.Compare (.Name "cand" p6) [.In] [.Attribute (.Name "voter" p7) "approved" pos] pr],0⟩] scope gp] [] ps) (lU (nw (lT vs ld x) none)):=by
 refine Ev.zR (m:=n+8) (tg:=w9) hs Q.gT Q.kT (Hi.mk (n:=n+6) k h0 (Ba ld x) (xM (n:=n+2) P G W9 (Ev.nm i K3 K2)) hp hc (λ ds hd C code d iP=>?_) hf) (by exact bq _) λ eL ho=>?_
 ·subst hd;refine bL (yU iP) λ b v hv u hb z1=>?_;subst z1;have OI:b<ld.length:=by rw[L.l];lia
  have hq:((ld.getD b 0).den:Int)<2^64:=by
   rw[ai,aq OI];exact kj (L.den ht _ (f_ OI)) (by decide)
  have hw:=V.w v hv;refine X8 rfl rfl (by show 1<vP ["v","voter"];decide) rfl rfl
   (Tr.cmp (Ev.nm 2 (by simp[kL,ji,ai,Dv]) ((aQ (by decide)).trans ((aQ (by decide)).trans (xR (tn:=["v","voter"]) (ix:=[j,l]) (i:=0) rfl Lg)))) (Ev.attr (Ev.nm 1 rfl rfl) P.LM rfl) cB.inSet)
   (xV.bin (Ev.sub (Ev.nm 3 (by simp[kL,ji,ai,Ql]) ((aQ (by decide)).trans ((aQ (by decide)).trans (xR (tn:=["v","voter"]) (ix:=[j,l]) (i:=1) rfl Sj)))) (Ev.nm 0 rfl rfl) (hl b (by lia) (n+5))) (Ev.attr (Ev.nm 1 rfl rfl) P.PH rfl) (Lv (n:=n+3) PF hq (by lia) (by lia)))
 ·refine cW ho ?_;clear ho;intro ds z1 z2;subst z1;subst z2;rw[FC ld x vs 0 (by rw[L.l];lia),List.drop_zero];exact AH (n:=n+5) PF Q.Pd (by exact az _) (L.T7 ht x)
theorem Vp(PF:fh c)(Q:LW c){m x t k:Nat}{vs:List Vo}{ld:List Rat}{kv kw:List (Int×D)}(V:lj m vs)(L:oT vs t ld)(ht:t≤4)(hv:kv.lookup (x:Int)=some (lU (nw (lT vs ld x) none)))(hw:kw.lookup (x:Int)=some (.int (fJ vs x))){p0 p1 p2 p3 p4 p5 p6 p7 p8 p9 q1 q2 q3 q4 q5 q6 q7 q8 q9:Pos}{k1 k2 k3:Nat}(hk:0<E.k)(h0:E.vn[0]? =some ("cand":Str))(h1:E.vn[1]? =some ("approvers_load":Str))(h2:E.vn[2]? =some ("approvers_weight":Str))(h3:E.vn[3]? =some ("committeesize":Str))(hd:E.env.kindOf "division"=some .globalImplicit)(hF:E.env.kindOf "Fraction"=some .globalImplicit):
  El c (n+3) E [.no,.val (.dK kv),.val (.dK kw),.val (.int (k:Int))] (.Name "cand" p0) [] (.int (x:Int)) (i7 (λ i=>eM (jb vs k [] ld i.toNat)) (.int (x:Int))).isSome λ ρ'=>∀z,i7 (λ i=>eM (jb vs k [] ld i.toNat)) (.int (x:Int))=some z→Ev c (n+3) E ρ'
   (.IfExp (.Compare (.Subscript (.Name "approvers_weight" p1) (.Name "cand" p2) p3) [.Gt] [.Constant (.int 0) k1 p4] p5)
    (.Call (.Name "division" p6) [.BinOp (.Subscript (.Name "approvers_load" p7) (.Name "cand" p8) p9) .Add (.Constant (.int 1) k2 q1) q2,.Subscript (.Name "approvers_weight" q3) (.Name "cand" q4) q5] [] q6)
    (.Call (.Name "Fraction" q7) [.BinOp (.Name "committeesize" q8) .Add (.Constant (.int 1) k3 q9) r1] [] r2) r3) z:=by
 refine wH h0 hk rfl ?_;have ic:=L.T7 ht x;refine cH L.u λ U QB SW hu=>?_;have hU:=b9 (ec SW (yM ht)) (show(36:Int) ^4<2^31 by decide);have N4:=eI.sum (tm L hu x);refine b_ (L.pos V x) λ b1 b2 b3 b4=>?_;have hb:=(oG V x).2;have tr:Tr c (n+3) E [.val (.int (x:Int)),.val (.dK kv),.val (.dK kw),.val (.int (k:Int))] (.Compare (.Subscript (.Name "approvers_weight" p1) (.Name "cand" p2) p3) [.Gt] [.Constant (.int 0) k1 p4] p5) (decide ((0:Int)<fJ vs x)):=
  Tr.cmp (Ev.sub (Ev.nm 2 h2 rfl) (Ev.nm 0 h0 rfl) (Sub.dK hw)) Ev.int cB.Mq
 by_cases hp:0<fJ vs x
 ·have e:eM (jb vs k [] ld (x:Int).toNat)=if decide ((0:Int)<fJ vs x)=true then eM (((lT vs ld x).sum+(1:Int)) / ((fJ vs x:Int):Rat))else .none:=by
   rw[decide_eq_true hp,if_pos rfl];simp only[eU];unfold jb;rw[if_neg (by simp),if_pos hp]
  rw[e];refine Ev.ite tr (λ j=>?_) λ h=>absurd hp (by simpa using h);have ku:lT vs ld x≠[]:= λ e0=>by
   have:∀v∈vs,x∉v.2:= λ v hv hx=>by
    obtain⟨i,hi,rfl⟩:=eW hv;have hz:i<(vs.zip ld).length:=by rw[lR,L.l];simpa using hi
    have hm:(vs.zip ld)[i]∈(vs.zip ld).filter (λ p=>decide (x∈p.1.2)):=aN.mpr ⟨f_ hz,by simpa using hx⟩;rw[qW.mp e0]at hm;exact nn hm
   have h0:fJ vs x=0:=by unfold fJ;rw[j9.mpr λ v hv=>by simpa using this v hv];rfl
   lia
  have e1:lU (nw (lT vs ld x) none)=eM ((lT vs ld x).sum):=by rw[s9,if_neg ku];simp only[lU,pQ,Rat.add_zero]
  rw[e1]at hv;have SF:=N4.den QB;have Bj:=(N4.add (eI.int U 1)).den QB;refine Ev.call hd Q.gD Q.kD (ck.cons (Ev.bin (Ev.sub (Ev.nm 1 h1 rfl) (Ev.nm 0 h0 rfl) (Sub.dK hv)) Ev.int (Gn (n:=n) PF (by lia)).bin) (ck.cons (Ev.sub (Ev.nm 2 h2 rfl) (Ev.nm 0 h0 rfl) (Sub.dK hw)) .nil)) .nil ((vI (n:=n) PF Q.O9 hp (b9 Bj (by exact L9 hU rfl)) (by exact RK hb rfl)).fn rfl)
 ·have e:eM (jb vs k [] ld (x:Int).toNat)=if decide ((0:Int)<fJ vs x)=true then .none else eM (((k:Int)+1:Int):Rat):=by
   rw[decide_eq_false hp,if_neg (by decide)];simp only[eU];unfold jb;rw[if_neg (by simp),if_neg hp]
  rw[e];exact Ev.ite tr (λ h=>absurd (by simpa using h) hp) λ j=>Ev.call hF PF.sP PF.keep (ck.cons (Ev.bin (Ev.nm 3 h3 rfl) Ev.int gF.rR) .nil) .nil ((oh (n:=n+1) PF _).fn rfl)
theorem Lp.D8(i j:Nat){x y:Str}{com:List Nat}{w:D}{p1 p2 p3 p4 pos pos':Pos}{te e:Expr}(hy:E.vn[i]? =some y)(hx:E.vn[j]? =some x)(hj:j<E.k)(rH:i≠j)(hl:i<ρ.length)(dQ:ρ[j]? =some .no)(hs:swapsWith e (some (.Subscript (.Name y p2) (.Name x p3) p4)) pos.line E.env=pure false):∀(xs:List Nat) (ws:List D),ws.length≤900→(∀z∈xs,z<ws.length)→
  (∀z∈xs,∀ws,Tr c n E ((ρ.set i (.own true (.lst ws))).set j (.val (.int (z:Int)))) te (decide (z∈com))∧Ev c n E ((ρ.set i (.own true (.lst ws))).set j (.val (.int (z:Int)))) e w)→
  Lp c n E (ρ.set i (.own true (.lst ws))) (.Name x p1) [.If te [.Assign [.Subscript (.Name y p2) (.Name x p3) p4] e pos] [] pos'] (D.nats xs) (.next (ρ.set i (.own true (.lst (D8 w com xs ws))))):=by
 intro w
 induction w with
 |nil=>
  intro ws u u u;exact Lp.nil
 |cons z xs ih=>
  intro ws hz hw he;have K7:j<ρ.length:=(ay.mp dQ).1;rw[E9];refine Lp.step (ρ'':=ρ.set i (.own true (.lst (if z∈com then ws.set z w else ws)))) (ju.name j hx hj (by simpa using K7)) ?_ (ih _ (by split<;>simpa using hz) (λ z' h=>by have:=hw z' (.tail _ h);split<;>simpa using this) λ z' h=>he z' (.tail _ h));have hi:((ρ.set i (.own true (.lst ws))).set j (.val (.int (z:Int))))[i]? =some (.own true (.lst ws)):=by rw[aQ (Ne.symm rH),bp hl]
  have Ot:((ρ.set i (.own true (.lst ws))).set j (.val (.int (z:Int))))[j]? =some (.val (.int (z:Int))):=by rw[bp (by simpa using K7)]
  refine xa (he z (.head _) ws) λ t ev=>?_;refine Ex.weak (ρ₁:=(ρ.set i (.own true (.lst (if z∈com then ws.set z w else ws)))).set j (.val (.int (z:Int)))) (Ex.one (ba.ite t (λ h=>?_) λ h=>?_)) (cx.set (by rw[ai,aQ rH,dQ];rfl))
  ·rw[if_pos (by simpa using h)];have q:=ba.pv i (pos:=pos) (p:=p2) (p':=p4) (ke:=.Name x p3) ev (Ev.nm j hx Ot) hy hi (by exact cy _) (by have:=hw z (.head _);exact cz.mpr this) hz hs;rw[Aw _ _ rH.symm,l_]at q;exact Ex.one q
  ·rw[if_neg (by simpa using h)];exact Ex.nil
theorem Lp.upd(i j o:Nat){x y:Str}{f:Nat→Vo→D→D}{p p' q:Pos}{k:Nat}{body:List Stmt}(hx:E.vn[j]? =some x)(hy:E.vn[o]? =some y)(hj:j<E.k)(ho:o<E.k)(rH:i≠j)(UT:i≠o)(hl:i<ρ.length)(dQ:ρ[j]? =some .no)(uo:ρ[o]? =some .no){vs:List Vo}{N:Nat}(hb:∀v∈vs,∀(a:Nat) (ws:List D) (w:D),ws.length=N→ws[a]? =some w→Ex c n E (((ρ.set i (.own true (.lst ws))).set j (.val (.int (a:Int)))).set o (.val (ly v))) body (.next (((ρ.set i (.own true (.lst (ws.set a (f a v w))))).set j (.val (.int (a:Int)))).set o (.val (ly v))))):
  ∀(i6:List Vo) (a:Nat) (ws:List D),(∀v∈i6,v∈vs)→ws.length=a+i6.length→ws.length=N→Lp c n E (ρ.set i (.own true (.lst ws))) (.Tuple [.Name x p,.Name y p'] k q) body (ij a (i6.map ly)) (.next (ρ.set i (.own true (.lst (AG f i6 a ws)))))
 |[],a,ws,_,_,_=>Lp.nil
 |v::i6,a,ws,hv,hz,hN=>by
  simp only[aJ]at hz;have K7:j<ρ.length:=(ay.mp dQ).1;have Si:o<ρ.length:=(ay.mp uo).1;have ha:a<ws.length:=by exact GW hz
  rw[a9,ij,Ez,aq ha];refine Lp.step (CQ j o hx hj (by simpa using K7) hy ho (by simpa using Si)) (Ex.weak (hb v (hv v (.head _)) a ws _ hN (aq ha)) ?_) (Lp.upd i j o hx hy hj ho rH UT hl dQ uo hb i6 (a+1) _ (λ v h=>hv v (.tail _ h)) (by rw[jt];exact LQ hz) (by rw[jt];exact hN));exact cx.HF (by rw[ai,aQ rH,dQ];rfl) (by rw[ai,aQ UT,uo];rfl)
end
noncomputable def qk(vs:List Vo)(m k:Nat)(s:List Nat×List Rat):List Nat×List Rat:=
 (cJ (s.1++[(eV vs m k s.1 s.2).headD 0]),upd vs k s.1 s.2 ((eV vs m k s.1 s.2).headD 0))
noncomputable def rj(vs:List Vo)(m k:Nat):Nat→List Nat×List Rat→List Nat×List Rat
 |0,s=>s
 |r+1,s=>rj vs m k r (qk vs m k s)
theorem E3(vs:List Vo)(m k r:Nat)(s:List Nat×List Rat):rj vs m k (r+1) s=rj vs m k r (qk vs m k s):=rfl
theorem Ko(vs:List Vo)(m k:Nat)(s:List Nat×List Rat):rj vs m k 0 s=s:=rfl
structure G3(vs:List Vo)(m k t:Nat)(s:List Nat×List Rat):Prop where
 c:oH m k t s.1
 l:oT vs t s.2
theorem k9{vs:List Vo}{m k:Nat}{com:List Nat}{ld:List Rat}{x:Nat}(h:x∈eV vs m k com ld):x<m:=(lC.mp h).1
theorem head_mem{α:Type}{d:α}{l:List α}(h:l≠[]):l.headD d∈l:=by
 cases l with
 |nil=>exact absurd rfl h
 |cons a l=>exact .head _
theorem G3.step{vs:List Vo}{m k t:Nat}{s:List Nat×List Rat}(V:lj m vs)(S:G3 vs m k t s)(ht:t<k):G3 vs m k (t+1) (qk vs m k s):=by
 have hx:=head_mem (d:=0) (s_ (vs:=vs) (m:=m) (k:=k) (com:=s.1) (ld:=s.2) (by have:=S.c.k;lia));have ho:=h_ V S.l S.c ht hx;exact⟨(S.c.next ht ho (k9 hx)).sort,tI V S.l ho⟩
theorem G3.run{vs:List Vo}{m k:Nat}(V:lj m vs):∀(r t:Nat) (s:List Nat×List Rat),t+r=k→G3 vs m k t s→G3 vs m k k (rj vs m k r s)
 |0,t,s,h,S=>by rw[Ko];have:t=k:=h;exact this▸S
 |r+1,t,s,h,S=>G3.run V r (t+1) _ (by exact Bx h) (S.step V (by exact JT h))
section
variable {c:Cx}{n:Nat}
noncomputable abbrev Kl:List Str:=["profile","committeesize","algorithm","start_load","partial_committee","approvers_weight","cand","load","committee","detailed_info","_","approvers_load","new_maxload","opt","tied_cands","next_cand","v","voter"]
noncomputable abbrev so:List Str:=["next_cand","tied_cands","load","max_load"]
theorem FL:so.Nodup:=of_decide_eq_true (by kernel_rfl)
theorem Ex.info(i:Nat){E:VE}{ρ:List Sl}{x:Str}{p pos pos':Pos}{ks:List (Option Expr)}{vs:List Expr}{ns:List Str}{ss:List Stmt}{out:Out}(h:KL ks vs ns)(h0:ns≠[])(hlen:ns.length≤15)(xE:ns.Nodup)(hx:E.vn[i]? =some x)(hi:i<E.k)(hl:i<ρ.length)(k:Ex c n E (ρ.set i (.own true (sm c ns.length 0 ns))) ss out):Ex c n E ρ (.Assign [.Name x p] (.Dict ks vs pos) pos'::ss) out:=Ex.seq (ba.lh i (gz.info h h0 hlen xE) hx hi hl rfl) k
theorem Ex.NH(i l:Nat){E:VE}{ρ:List Sl}{x key y:Str}{m N n_:Nat}{keys:List Str}{p p1 p2 p3 p4 pos:Pos}{ke:Expr}{xs:List Int}{ds:List D}{ss:List Stmt}{out:Out}(hk:Ev c (n+1) E (ρ.set l (.val (.lst ds))) ke (.tup (D.ints xs)))(hy:E.vn[l]? =some y)(hl:ρ[l]? =some (.own true (.lst ds)))(hx:E.vn[i]? =some x)(dQ:ρ[i]? =some (.own true (sm c m N keys)))(hm:m≤900)(k:Ex c (n+1) E (ρ.set i (.val .any)) ss out):
  Ex c (n+1) E ρ (.Assign [.Subscript (.Name x p) (.Constant (.str key) n_ p1) p2] (.Dict [some ke] [.Name y p3] p4) pos::ss) out:=by
 have Mg:l<ρ.length:=(ay.mp hl).1;have W2:i<ρ.length:=(ay.mp dQ).1;refine Ex.seq (ba.setInfo i (Ev.Jd l hy hl rfl (Ev.Pp hk (Ev.nm l hy (by rw[bp Mg])))) hx dQ hm rfl) ?_;refine Ex.freeze i hx (by rw[bp W2]) rfl ?_;rw[l_];exact k
noncomputable abbrev ET(c:Cx)(m k:Nat)(vs:List Vo)(ld:List D)(com:List Nat)(N:Nat)(l:List Sl):List Sl:=
 [.val (o9 m vs),.val (.int (k:Int)),.val (.str "standard-fractions"),.val .none,.val .none,.val (.dK (xA (λ x=>.int (fJ vs x)) (aw m) [])),.no,.own true (.lst ld),.val (.lst (D.nats com)),.own true (sm c 4 N so)]++l
theorem dk(xs:List Nat):(D.nats xs).length=xs.length:=by exact aE _
theorem t_(xs:List Nat)(x:Nat):D.nats xs++[.int (x:Int)]=D.nats (xs++[x]):=by simp[D.nats]
set_option maxHeartbeats 400000 in
theorem E1(Q:LW c)(P:iB c)(PF:fh c)(G:PG c){m k:Nat}{vs:List Vo}(V:lj m vs)(h4:m≤4)(hk:k≤m):
  Fn c (n+16) (.ref 428) [] [("profile",o9 m vs),("committeesize",.int (k:Int)),("algorithm",.str "standard-fractions")] (.tup [.lst [.lst (D.nats (rj vs m k k ([],vs.map λ g=>0)).1)],.any]):=by
 refine eX Q.Pa λ u F p hp hc=>?_;have hV:=V.l;refine Fn.of (vn:=Kl) (np:=5) [.kw 0,.kw 1,.kw 2,.dN,.dN] F (by kernel_rfl) (by kernel_rfl) rfl rfl ?_ λ L=>?_
 ·intro s vs ks S hv hk;cases Nr hv;refine iq (Qe hk) λ a b c z1=>?_;subst z1;exact Q.Pu.binds S rfl rfl rfl
 ·show Ex c (n+15) (mM (DF.fd (.ref 423) u) L 428 Kl) [.val (o9 m vs),.val (.int (k:Int)),.val (.str "standard-fractions"),.val .none,.val .none,.no,.no,.no,.no,.no,.no,.no,.no,.no,.no,.no,.no,.no] _ _;refine Ex.seq (ba.ite (p:=false) (Tr.cmp (Ev.nm 2 rfl rfl) Ev.ny cB.Mr) (λ h=>by cases h) λ g=>Ex.nil) ?_;refine Ex.seq (ba.ite (p:=false) (Tr.cmp (Ev.nm 2 rfl rfl) Ev.ny cB.Ud) (λ h=>by cases h) λ g=>Ex.nil) ?_;refine Ex.seq (ba.lh 5 gz.Cr rfl (od rfl) (od rfl)) ?_;refine Ex.seq (ρ':=[.val (o9 m vs),.val (.int (k:Int)),.val (.str "standard-fractions"),.val .none,.val .none,.own true (.dK (0+(aw m).length) (xA (λ x=>.int (fJ vs x)) (aw m) [])),.no,.no,.no,.no,.no,.no,.no,.no,.no,.no,.no,.no]) (ba.for (kg.of (Ev.attr (Ev.nm 0 rfl rfl) P.Cv rfl) Ib.list) λ ds hd=>?_) ?_
  ·subst hd;refine Lp.fill (ρ:=[.val (o9 m vs),.val (.int (k:Int)),.val (.str "standard-fractions"),.val .none,.val .none,.no,.no,.no,.no,.no,.no,.no,.no,.no,.no,.no,.no,.no]) 5 6 rfl rfl (od rfl) (od rfl) (od rfl) rfl rfl (aw m) 0 [] (by simp;exact af h4 (aG _ _)) λ z g N acc=>?_;exact Ev.fJ P G V 0 6 (by kernel_rfl) rfl (by kernel_rfl) rfl rfl rfl rfl hp hc (by intro g;rfl)
  refine Ex.freeze 5 rfl rfl rfl ?_;refine Ex.seq (ba.asg 7 (Ev.nm 3 rfl rfl) rfl (od rfl) (od rfl)) ?_;refine Ex.seq (ρ':=[.val (o9 m vs),.val (.int (k:Int)),.val (.str "standard-fractions"),.val .none,.val .none,.val (.dK (xA (λ x=>.int (fJ vs x)) (aw m) [])),.no,.own true (.lst ((vs.map λ g=>(0:Rat)).map eM)),.no,.no,.no,.no,.no,.no,.no,.no,.no,.no])
   (ba.ite (p:=true) (Tr.cmp (Ev.nm 7 rfl rfl) Ev.lF (cB.NB rfl)) (λ g=>Ex.one ?_) (λ h=>by cases h)) ?_
  ·have e:(vs.map λ g=>(0:Rat)).map eM=(D.nats (aw vs.length)).filterMap (i7 λ g=>eM 0):=by
    rw[fz,bI];refine j5 λ i=>?_
    by_cases h:i<vs.length
    ·simp[h]
    ·simp[h]
   rw[e];refine ba.lh 7 (gz.comp (tn:=["_"]) (ix:=[]) (by kernel_rfl) (ds:=D.nats (aw vs.length)) (i7 λ g=>eM 0) (rn G (by exact rC hV rfl) (by kernel_rfl) (Ev.call (by kernel_rfl) G.len trivial (ck.cons (Ev.nm 0 rfl rfl) .nil) .nil (A5 (n:=n+13) P G (by lia)))) (by simp[D.nats];exact rC hV rfl) λ C d hd=>?_) rfl (od rfl) (od rfl);refine cW (gh hd) λ x hx z1=>?_;subst z1;exact wH rfl (od rfl) rfl (Ev.call (by kernel_rfl) PF.sP PF.keep (ck.cons Ev.int .nil) .nil ((oh (n:=n+13) PF 0).fn rfl))
  refine Ex.seq (ba.asg 8 (Ev.nm 4 rfl rfl) rfl (od rfl) (od rfl)) ?_;refine Ex.seq (ρ':=[.val (o9 m vs),.val (.int (k:Int)),.val (.str "standard-fractions"),.val .none,.val .none,.val (.dK (xA (λ x=>.int (fJ vs x)) (aw m) [])),.no,.own true (.lst ((vs.map λ g=>(0:Rat)).map eM)),.val (.lst []),.no,.no,.no,.no,.no,.no,.no,.no,.no])
   (ba.ite (p:=true) (Tr.cmp (Ev.nm 4 rfl rfl) Ev.lF (cB.NB rfl)) (λ g=>Ex.one (ba.asg 8 (Ev.lst .nil) rfl (od rfl) (od rfl))) (λ h=>by cases h)) ?_
  with_reducible refine Ex.info 9 (ns:=so) ?_ ?_ ?_ FL ?_ ?_ ?_ ?_
  ·exact .cons (.cons (.cons (.cons .nil)))
  ·simp
  ·simp
  ·rfl
  ·exact(od rfl)
  ·exact(od rfl)
  have hK:∀x,x<m→(xA (λ x=>D.int (fJ vs x)) (aw m) []).lookup (x:Int)=some (.int (fJ vs x)):= λ x hx=>by rw[mW,if_pos (aO.mpr hx)]
  have key:∀(ds:List D) (t:Nat) (s:List Nat×List Rat) (N:Nat),t+ds.length=k→G3 vs m k t s→N+4*ds.length≤100→Lp c (n+15) (mM (DF.fd (.ref 423) u) L 428 Kl) (ET c m k vs (s.2.map eM) s.1 N (al 8 .no))
    (pH DF.body 9) (nD DF.body 9) ds
    (.next (ET c m k vs ((rj vs m k ds.length s).2.map eM) (rj vs m k ds.length s).1 (N+4*ds.length) (al 8 .no))):=by
   intro ds
   induction ds with
   |nil=>intro t s N g g g;exact Lp.nil
   |cons d ds ih=>
    intro t s N hz S hN;simp only[aJ]at hz hN⊢;rw[show N+4*(ds.length+1)=(N+4)+4*ds.length by lia];have ht:t<k:=by exact JT hz
    have G9:=S.l.l;have Sm:=S.c.l;obtain⟨com,ld⟩:=s;simp only at G9 Sm;refine Lp.step (ρ'':=ET c m k vs ((qk vs m k (com,ld)).2.map eM) (qk vs m k (com,ld)).1 (N+4) (al 8 .no)) (ju.name 10 rfl (od rfl) (od rfl)) ?_ (ih (t+1) (qk vs m k (com,ld)) (N+4) (by exact Bx hz) (S.step V ht) (by lia));have hT:=s_ (vs:=vs) (m:=m) (k:=k) (com:=com) (ld:=ld) (by lia);have Ma:(eV vs m k com ld).headD 0∈eV vs m k com ld:=head_mem hT;unfold qk;generalize RT:(eV vs m k com ld).headD 0=x at Ma⊢;have G8:=k9 Ma;have Mf:nA vs m k com ld≠[]:=by unfold nA;intro e;simp at e;lia
    have Du:=B1 (k:=k) (com:=com) V S.l (by lia);simp only at Du;refine Ex.weak (ρ₁:=ET c m k vs ((upd vs k com ld x).map eM) (cJ (com++[x])) (N+4) [.val d,.val (.dK (xA (λ x=>lU (nw (lT vs ld x) none)) (aw m) [])),.val (.lst ((nA vs m k com ld).map eM)),.val (eM (n5 (nA vs m k com ld))),.val (.lst (D.nats (eV vs m k com ld))),.val (.int (x:Int)),.no,.no]) ?_ (by repeat (first|exact cx.nil|refine cx.cons (.inr rfl) ?_|refine cx.cons (.inl rfl) ?_));refine Ex.seq (ba.lh 11 gz.Cr rfl (od rfl) (od rfl)) ?_;refine Ex.seq (ρ':=ET c m k vs (ld.map eM) com N [.val d,.own true (.dK (0+(aw m).length) (xA (λ x=>lU (nw (lT vs ld x) none)) (aw m) [])),.no,.no,.no,.no,.no,.no]) (ba.for (kg.of (Ev.attr (Ev.nm 0 rfl rfl) P.Cv rfl) Ib.list) λ ds hd=>?_) ?_
    ·subst hd;refine Lp.fill (ρ:=ET c m k vs (ld.map eM) com N [.val d,.no,.no,.no,.no,.no,.no,.no]) 11 6 rfl rfl (od rfl) (od rfl) (od rfl) rfl rfl (aw m) 0 [] (by simp;lia) λ z g N acc=>?_;have hl:∀j,j<vs.length→∀n',Mine.Sub c (n'+1) (.lst (ld.map eM)) (.int (j:Int)) (eM (ld.getD j 0)):= λ j hj n'=>Sub.list (by exact cy _) (DB (by rw[ai,aq (by exact Ea G9 hj)];rfl)) (by simp;exact u_ G9 hV rfl);rw[s9]
     by_cases hq:lT vs ld z=[]
     ·rw[if_pos hq];refine Ev.tO 7 rfl rfl rfl (Ev.cast (by rw[s9,if_pos hq]) (Ev.LN (n:=n+6) PF P G Q V S.l (by lia) hl 0 6 7 (by kernel_rfl) rfl (by kernel_rfl) (by kernel_rfl) rfl rfl rfl rfl rfl rfl hp hc (by intro g;rfl)))
     ·rw[if_neg hq];refine Ev.MH 7 rfl rfl (xJ _) (Ev.cast (by rw[s9,if_neg hq];rfl) (Ev.LN (n:=n+6) PF P G Q V S.l (by lia) hl 0 6 7 (by kernel_rfl) rfl (by kernel_rfl) (by kernel_rfl) rfl rfl rfl rfl rfl rfl hp hc (by intro g;rfl)))
    refine Ex.freeze 11 rfl rfl rfl ?_;have hA:∀x,x<m→(xA (λ x=>lU (nw (lT vs ld x) none)) (aw m) []).lookup (x:Int)=some (lU (nw (lT vs ld x) none)):= λ x hx=>by rw[mW,if_pos (aO.mpr hx)]
    refine Ex.seq (ba.lh 12 (gz.comp (tn:=["cand"]) (ix:=[11,5,1]) (by kernel_rfl) (ds:=D.nats (aw m)) (i7 λ i=>eM (jb vs k [] ld i.toNat)) (kg.of (Ev.attr (Ev.nm 0 rfl rfl) P.Cv rfl) Ib.list) (by simp[D.nats];exact af h4 (aG _ _)) λ C d hd=>?_) rfl (od rfl) (od rfl)) ?_
    ·refine cW (gh hd) λ x hx z1=>?_;subst z1;have hx:=aO.mp hx;exact Vp (n:=n+12) PF Q V S.l (by lia) (hA x hx) (hK x hx) (od rfl) rfl rfl rfl rfl (by kernel_rfl) (by kernel_rfl)
    rw[fz];simp only[eU];have Sd:D8 (eM (((k:Int)+2:Int):Rat)) com (aw m) ((aw m).map λ x=>eM (jb vs k [] ld x))=(nA vs m k com ld).map eM:=by
     rw[BZ,nA,bI];refine cj λ x g=>?_;show _=eM (jb vs k com ld x);unfold jb;simp only[vj,if_false];split<;>rfl
    refine Ex.seq (ρ':=ET c m k vs (ld.map eM) com N [.val d,.val (.dK (xA (λ x=>lU (nw (lT vs ld x) none)) (aw m) [])),.own true (.lst ((nA vs m k com ld).map eM)),.no,.no,.no,.no,.no]) (ba.for (kg.of (Ev.attr (Ev.nm 0 rfl rfl) P.Cv rfl) Ib.list) λ ds hd=>?_) ?_
    ·subst hd;rw[← Sd];exact Lp.D8 (ρ:=ET c m k vs (ld.map eM) com N [.val d,.val (.dK (xA (λ x=>lU (nw (lT vs ld x) none)) (aw m) [])),.no,.no,.no,.no,.no,.no]) 12 6 rfl rfl (od rfl) (od rfl) (od rfl) rfl rfl (aw m) _ (by simp;lia) (λ z hz=>by simpa using hz) λ z g ws=>
      ⟨Tr.cmp (Ev.nm 6 rfl rfl) (Ev.nm 8 rfl rfl) (cB.Ig (by exact bD _)),Ev.call (by kernel_rfl) PF.sP PF.keep (ck.cons (Ev.bin (Ev.nm 1 rfl rfl) Ev.int gF.rR) .nil) .nil ((oh (n:=n+13) PF _).fn rfl)⟩
    refine Ex.freeze 12 rfl rfl rfl ?_;refine Ex.seq (ba.asg 13 (Ev.call (by kernel_rfl) G.min trivial (ck.cons (Ev.nm 12 rfl rfl) .nil) .nil (Fn.n5 (n:=n+13) PF Mf λ q hq=>(by refine jw hq λ y g=>?_;exact Du y))) rfl (od rfl) (od rfl)) ?_;refine Ex.seq (ba.oF 14 (tn:=["cand"]) (ix:=[12,13]) (by kernel_rfl) (ds:=D.nats (aw m)) (qm λ x=>decide (jb vs k com ld x=n5 (nA vs m k com ld))) (kg.of (Ev.attr (Ev.nm 0 rfl rfl) P.Cv rfl) Ib.list) (by simp[D.nats];lia) (λ C d hd=>?_) rfl (od rfl) (od rfl) (by kernel_rfl)) ?_
    ·refine cW (gh hd) λ x hx z1=>?_;subst z1;have hx:=aO.mp hx;exact Cq rfl (od rfl) rfl (Tr.cmp (Ev.sub (Ev.nm 1 rfl rfl) (Ev.nm 0 rfl rfl) (Sub.list (by lia) (DB (xq hx)) (by simp[nA];lia))) (Ev.nm 2 rfl rfl) (Ti (n:=n+14) PF)) (Ev.nm 0 rfl rfl)
    rw[lz,show(aw m).filter (λ x=>decide (jb vs k com ld x=n5 (nA vs m k com ld)))=eV vs m k com ld from rfl];refine Ex.freeze 14 rfl rfl rfl ?_;have Uv:(eV vs m k com ld).length≤m:=af (bG _ _) (by simp);have FT:(D.nats (eV vs m k com ld))[((0:Int)).toNat]? =some (.int (x:Int)):=by
     cases hh:eV vs m k com ld with
     |nil=>exact absurd hh hT
     |cons a l=>rw[hh]at RT;simp at RT;subst RT;rfl
    refine Ex.seq (ba.asg 15 (Ev.sub (Ev.nm 14 rfl rfl) Ev.int (Sub.list (by decide) FT (by rw[dk];exact G6 Uv h4 rfl))) rfl (od rfl) (od rfl)) ?_;refine Ex.seq (ρ':=ET c m k vs ((upd vs k com ld x).map eM) com N [.val d,.val (.dK (xA (λ x=>lU (nw (lT vs ld x) none)) (aw m) [])),.val (.lst ((nA vs m k com ld).map eM)),.val (eM (n5 (nA vs m k com ld))),.val (.lst (D.nats (eV vs m k com ld))),.val (.int (x:Int)),.no,.no]) (ba.for (xM (n:=n+11) P G (by kernel_rfl) (Ev.nm 0 rfl rfl)) λ ds hd=>?_) ?_
    ·subst hd;rw[← I4 (ws:=ld.map eM) (f:= λ g v w=>if x∈v.2 then eM (jb vs k com ld x)else w) G9 (by simp[G9]) λ j v w hw=>by
      rw[bR]at hw;refine cW (dY.mp hw) λ q hq z1=>?_;subst z1;rw[ai,hq];split<;>rfl]
     refine Lp.upd (ρ:=ET c m k vs (ld.map eM) com N [.val d,.val (.dK (xA (λ x=>lU (nw (lT vs ld x) none)) (aw m) [])),.val (.lst ((nA vs m k com ld).map eM)),.val (eM (n5 (nA vs m k com ld))),.val (.lst (D.nats (eV vs m k com ld))),.val (.int (x:Int)),.no,.no]) 7 16 17 rfl rfl (od rfl) (od rfl) (od rfl) (od rfl) (od rfl) rfl rfl (vs:=vs) (N:=vs.length) (λ v hv a ws w hN hw=>?_) vs 0 _ (λ g h=>h) (by simp[G9]) (by simp[G9]);have QA:a<ws.length:=(ay.mp hw).1;have FU:ws.length≤900:=by exact u_ hN hV rfl
     by_cases Qh:x∈v.2
     ·rw[if_pos Qh];exact Ex.one (ba.ite (p:=decide (x∈v.2)) (Tr.cmp (Ev.nm 15 rfl rfl) (Ev.attr (Ev.nm 17 rfl rfl) P.LM rfl) cB.inSet) (λ g=>Ex.one (ba.pv 7 (k:=(a:Int)) (Ev.sub (Ev.nm 12 rfl rfl) (Ev.nm 15 rfl rfl) (Sub.list (by lia) (DB (xq G8)) (by simp[nA];lia))) (Ev.nm 16 rfl rfl) rfl rfl (by lia) (by exact cz.mpr QA) FU)) λ h=>absurd Qh (by simpa using h))
     ·rw[if_neg Qh,show ws.set a w=ws from by rw[← (ay.mp hw).2];exact D3 _];exact Ex.one (ba.ite (p:=decide (x∈v.2)) (Tr.cmp (Ev.nm 15 rfl rfl) (Ev.attr (Ev.nm 17 rfl rfl) P.LM rfl) cB.inSet) (λ h=>absurd (by simpa using h) Qh) λ g=>Ex.nil)
    refine Ex.seq (ba.asg 8 (d:=.lst (D.nats (cJ (com++[x])))) (Ev.call (by kernel_rfl) G.sorted trivial (ck.cons (Ev.bin (Ev.nm 8 rfl rfl) (Ev.lst (ck.cons (Ev.nm 15 rfl rfl) .nil) (by simp)) (gF.TR (by rw[dk];simp;lia))) .nil) .nil (by
     rw[t_];exact Fn.sorted (n:=n+13) (J1.lst (by rw[dk];simp;lia)) (by rw[dk];simp;lia) (vM.nats (by simp;lia)))) rfl (od rfl) (od rfl)) ?_
    refine Ex.seq (ba.tp 9 (keys:=so) (Ev.nm 15 rfl rfl) rfl rfl (by decide) (by lia)) ?_;refine Ex.seq (ba.tp 9 (keys:=so) (Ev.nm 14 rfl rfl) rfl rfl (by decide) (by lia)) ?_;refine Ex.seq (ba.tp 9 (keys:=so) (Ev.Jd 7 rfl rfl rfl (Ev.call (by kernel_rfl) G.list trivial (ck.cons (Ev.nm 7 rfl rfl) .nil) .nil (Fn.Fw (by rw[aE,upd,r7 S.l];lia)))) rfl rfl (by decide) (by lia)) ?_;exact Ex.one (ba.tp 9 (keys:=so) (Ev.nm 13 rfl rfl) rfl rfl (by decide) (by lia))
  have Dr:=key (D.nats (aw k)) 0 ([],vs.map λ g=>0) 0 (by rw[dk];simp) ⟨oH.nil hk,oT.start vs⟩ (by rw[dk];simp;lia);rw[dk,tw]at Dr;have hS:=G3.run V k 0 ([],vs.map λ g=>0) (by lia) ⟨oH.nil hk,oT.start vs⟩;generalize rj vs m k k ([],vs.map λ g=>0)=s at Dr hS⊢;refine Ex.seq (ρ':=ET c m k vs (s.2.map eM) s.1 (0+4*k) (al 8 .no)) (ba.for (kg.of (Ev.call (by kernel_rfl) G.range trivial (ck.cons (Ev.call (by kernel_rfl) G.len trivial (ck.cons (Ev.nm 8 rfl rfl) .nil) .nil (Fn.la (by decide))) (ck.cons (Ev.nm 1 rfl rfl) .nil)) .nil Fn.Kt) (Ib.range (by decide) (by decide) (by lia) (by lia))) λ ds hd=>?_) ?_
  ·subst hd;have e:(qp ((([]:List D).length:Nat):Int) (k:Int)).map D.int=D.nats (aw k):=HK k;rw[e];exact Dr
  with_reducible refine Ex.NH (n:=n+14) 9 7 (m:=4) (N:=0+4*k) (keys:=so) (ds:=s.2.map eM) (xs:=s.1.map λ (x:Nat)=>(x:Int)) ?_ ?_ ?_ ?_ ?_ ?_ ?_
  ·rw[← dX];exact Ev.call (by kernel_rfl) G.tuple trivial (ck.cons (Ev.nm 8 rfl rfl) .nil) .nil (Fn.vX (by rw[dk,hS.c.l];lia))
  ·rfl
  ·rfl
  ·rfl
  ·rfl
  ·decide
  exact Ex.one (ba.ret (Ev.tup (ck.cons (Ev.lst (ck.cons (Ev.nm 8 rfl rfl) .nil) (by simp)) (ck.cons (Ev.nm 9 rfl rfl) .nil)) (by simp)))
end
section
noncomputable def um(k:Nat)(com:List Nat):Nat:=(j_ k).idxOf (cJ com)
noncomputable def put(k:Nat)(st:TS)(com:List Nat):TS:=st.plus k (um k com)
noncomputable def ir(k:Nat)(o:Option Nat):TS→List (List Nat)→TS×Bool
 |st,[]=>(st,false)
 |st,c::cs=>if o=some (put k st c).ids.length then(put k st c,true)else ir k o (put k st c) cs
noncomputable def lv(vs:List Vo)(m k:Nat):Nat→List Nat→List Rat→List (List Nat)
 |0,com,_=>[com]
 |r+1,com,ld=>(eV vs m k com ld).flatMap λ x=>lv vs m k r (com++[x]) (upd vs k com ld x)
theorem tV(k:Nat)(o:Option Nat)(st:TS)(c:List Nat)(cs:List (List Nat)):ir k o st (c::cs)=if o=some (put k st c).ids.length then(put k st c,true)else ir k o (put k st c) cs:=rfl
theorem H5(vs:List Vo)(m k r:Nat)(com:List Nat)(ld:List Rat):lv vs m k (r+1) com ld=(eV vs m k com ld).flatMap λ x=>lv vs m k r (com++[x]) (upd vs k com ld x):=rfl
theorem KN(vs:List Vo)(m k:Nat)(com:List Nat)(ld:List Rat):lv vs m k 0 com ld=[com]:=rfl
theorem yC{k:Nat}{o:Option Nat}:∀(a b:List (List Nat)) (st:TS),ir k o st (a++b)=if(ir k o st a).2=true then ir k o st a else ir k o (ir k o st a).1 b:=by
 intro w
 induction w with
 |nil=>
  intro b st;rfl
 |cons c a ih=>
  intro b st;rw[List.cons_append,tV,tV]
  by_cases h:o=some (put k st c).ids.length
  ·simp[h]
  ·rw[if_neg h,if_neg h,ih b]
noncomputable def fC(k:Nat)(st:TS):List (List Nat):=(j_ k).filter λ c=>decide ((j_ k).idxOf c∈st.ids)
theorem Hu:∀k,1≤k→k≤3→(j_ k).Pairwise λ x y=>strLt (keyOf x) (keyOf y)=true:= λ k h1 h3=>
 (by decide +kernel:∀k<4,1≤k→(j_ k).Pairwise λ x y=>strLt (keyOf x) (keyOf y)=true) k (kq h3) h1
theorem qi:∀k,1≤k→k≤3→(∀c∈j_ k,c∈kJ)∧(∀c∈kJ,c.length=k→c∈j_ k)∧(j_ k).length≤6∧(j_ k).Nodup∧(j_ k).Pairwise (· < ·):= λ k h1 h3=>Rz (M:= λ k=>(∀c∈j_ k,c∈kJ)∧(∀c∈kJ,c.length=k→c∈j_ k)∧(j_ k).length≤6∧(j_ k).Nodup∧(j_ k).Pairwise (· < ·)) h1 h3 (by decide +kernel) (by decide +kernel) (by decide +kernel)
theorem AN:∀c∈kJ,c.Sublist [0,1,2,3]:=by decide +kernel
theorem oE{k m t:Nat}{com:List Nat}(h1:1≤k)(h3:k≤3)(h4:m≤4)(C:oH m k k com):cJ com∈j_ k∧um k com<(j_ k).length∧fR k (um k com)=cJ com:=by
 have hm:cJ com∈j_ k:=(qi k h1 h3).2.1 _ (oA (v5 C.n C.r h4)) (by rw[(eK com).length_eq,C.l]);have gy:(j_ k).idxOf (cJ com)<(j_ k).length:=dW hm;refine⟨hm,gy,?_⟩;unfold fR um;rw[ai,aq gy];exact gH gy
theorem MF{k:Nat}{st:TS}(h:st∈l4 k):st.ids.Nodup∧∀x∈st.ids,x<(j_ k).length:=by
 have:(l4 k).all (λ st=>decide (st.ids.Nodup)&&st.ids.all λ x=>decide (x<(j_ k).length))=true:=L8 (M:= λ k=>(l4 k).all (λ st=>decide (st.ids.Nodup)&&st.ids.all λ x=>decide (x<(j_ k).length))=true) k rfl (by decide +kernel) (by decide +kernel) (by decide +kernel) λ k=>rfl;have:=bf.mp this st h;rw[bg,decide_eq_true_eq,bf]at this;exact⟨this.1,λ x hx=>by simpa using this.2 x hx⟩
theorem su{k:Nat}{st:TS}(h1:1≤k)(h3:k≤3)(h:st∈l4 k):(fC k st).Perm (st.ids.map (fR k)):=by
 refine xa (MF h) λ hn hl=>?_;refine xa (qi k h1 h3) λ z zh=>b_ zh λ z z hu z=>?_;have Ll:∀x,x<(j_ k).length→fR k x∈j_ k∧(j_ k).idxOf (fR k x)=x:= λ x hx=>by
  unfold fR;rw[ai,aq hx];exact⟨f_ hx,hu.idxOf_getElem x hx⟩
 refine(yh (hu.filter _) ?_).mpr λ c=>?_
 ·refine tv.mpr (hn.imp_of_mem λ {a b} ha hb Mm e=>Mm ?_);rw[← (Ll a (hl a ha)).2,← (Ll b (hl b hb)).2,e]
 ·rw[aN,aM,decide_eq_true_eq];refine⟨λ w0=>xa w0 λ h1 h2=>⟨_,h2,?_⟩,λ w0=>cW w0 λ x hx e=>?_⟩
  ·have:=dW h1;unfold fR;rw[ai,aq this];exact gH this
  ·subst e;refine xa (Ll x (hl x hx)) λ q1 q2=>?_;exact⟨q1,by rw[q2];exact hx⟩
theorem wK{k:Nat}{st:TS}(h1:1≤k)(h3:k≤3)(h:st∈l4 k):(∀c∈fC k st,c.Sublist [0,1,2,3])∧((fC k st).Pairwise λ x y=>strLt (keyOf x) (keyOf y)=true)∧(fC k st).length≤6:=by
 refine b_ (qi k h1 h3) λ q1 z q3 z=>?_;exact⟨λ c hc=>AN c (q1 c (aN.mp hc).1),(Hu k h1 h3).sublist qY,af (bG _ _) q3⟩
theorem xm{k m:Nat}{st:TS}{com:List Nat}(h1:1≤k)(h3:k≤3)(h4:m≤4)(h:st∈l4 k)(C:oH m k k com):put k st com∈l4 k:=(TS.xo h (oE (t:=0) h1 h3 h4 C).2.1).1
theorem Hw{vs:List Vo}{m k x:Nat}{com:List Nat}{ld:List Rat}(hx:x<m):decide (jb vs k com ld x≤n5 (nA vs m k com ld))=decide (x∈eV vs m k com ld):=by
 refine decide_eq_decide.mpr ?_;unfold eV;rw[aN,decide_eq_true_eq];have h1:n5 (nA vs m k com ld)≤jb vs k com ld x:=xt (aM.mpr ⟨x,aO.mpr hx,rfl⟩);exact⟨λ h=>⟨aO.mpr hx,Rat.le_antisymm h h1⟩,λ h=>by rw[h.2];exact eo⟩
theorem tM{vs:List Vo}{m k:Nat}{com:List Nat}{ld:List Rat}:(eV vs m k com ld).length≤m:=af (bG _ _) (by simp)
theorem l7{vs:List Vo}{m k:Nat}{com:List Nat}{ld:List Rat}:(aw m).filter (λ x=>decide (x∈eV vs m k com ld))=eV vs m k com ld:=by
 unfold eV;refine m8 λ x hx=>?_;refine decide_eq_decide.mpr ?_;rw[aN,decide_eq_true_eq];exact⟨λ h=>h.2,λ h=>⟨hx,h⟩⟩
theorem tc{k m:Nat}{o:Option Nat}(h1:1≤k)(h3:k≤3)(h4:m≤4):∀(cs:List (List Nat)) (st:TS),(∀c∈cs,oH m k k c)→st∈l4 k→(ir k o st cs).1∈l4 k:=by
 intro w
 induction w with
 |nil=>
  intro st z h;exact h
 |cons c cs ih=>
  intro st hc h;have:=xm h1 h3 h4 h (hc c (.head _));rw[tV];split
  ·exact this
  ·exact ih _ (λ c h=>hc c (.tail _ h)) this
theorem B5{vs:List Vo}{m k:Nat}(V:lj m vs):∀(r t:Nat) (com:List Nat) (ld:List Rat),t+r=k→oH m k t com→oT vs t ld→∀c∈lv vs m k r com ld,oH m k k c:=by
 intro w
 induction w with
 |zero=>
  intro t com ld h C L c hc;rw[KN,aj]at hc;subst hc;have:t=k:=by exact h
  exact this▸C
 |succ r ih=>
  intro t com ld h C L c hc;rw[H5,kZ]at hc;refine cW hc ?_;clear hc;intro x hx hc;have ho:=h_ V L C (by exact JT h) hx;exact ih (t+1) _ _ (by exact Bx h) (C.next (by lia) ho (k9 hx)) (tI V L ho) c hc
end
section
variable {c:Cx}{n:Nat}
noncomputable abbrev LG:Str:="committee_load_pairs"
noncomputable abbrev NC:List Str:=["profile","committeesize","algorithm","max_num_of_committees","start_load","partial_committee","approvers_weight","cand","load","committee_load_pairs","committees","detailed_info","committee","approvers_load","new_maxload","new_committee_load_pairs","select_cand","new_load","v","voter","new_committee"]
noncomputable abbrev Dk(u:rS)(L:Addr):VE:=mM (IL.fd (.ref 429) u) L 434 NC
theorem Ex.M3(i:Nat){E:VE}{ρ:List Sl}{x key:Str}{p p1 p2 pos pos':Pos}{k:Nat}{ss:List Stmt}{out:Out}(hx:E.vn[i]? =some x)(hi:i<E.k)(hl:i<ρ.length)(h:Ex c n E (ρ.set i (.own true (t4 c key 0))) ss out):Ex c n E ρ (.Assign [.Name x p] (.Dict [some (.Constant (.str key) k p1)] [.Dict [] [] p2] pos) pos'::ss) out:=by
 with_reducible refine Ex.seq (ba.lh i (gz.Po (c:=c) (n:=n)) hx hi hl ?_) h
 rfl
noncomputable def LX(c:Cx)(vs:List Vo)(ld:List Rat)(dl:D):Prop:=∀j,j<vs.length→∀n',Mine.Sub c (n'+1) dl (.int (j:Int)) (eM (ld.getD j 0))
theorem LX.lst{vs:List Vo}{ld:List Rat}(h:ld.length=vs.length)(h3:vs.length≤3):LX c vs ld (.lst (ld.map eM)):= λ j hj n'=>Sub.list (by exact cy _) (DB (by rw[ai,aq (by exact Ea h hj)];rfl)) (by simp;exact u_ h h3 rfl)
noncomputable def BM(d:D):Option (Int×D):=(M0 d).map λ p=>(p.1,eM 0)
theorem Hj(vs:List Vo)(i:Nat):(ij i (vs.map ly)).filterMap BM=(vO i vs.length).map λ (j:Nat)=>((j:Int),eM 0):=by
 induction vs generalizing i with
 |nil=>rfl
 |cons v vs ih=>
  show ya BM (D.tup [.int (i:Int),ly v]::ij (i+1) (vs.map ly))=_;rw[bA (f:=BM) (b:=((i:Int),eM 0)) rfl,ih];rfl
theorem xu{d:D}{l:List (Int×D)}{k:Int}(h:∀p∈l,p.2=d)(hk:k∈l.map (·.1)):l.lookup k=some d:=by
 induction l with
 |nil=>exact nn hk
 |cons p l ih=>
  rw[aX];cases e:k==p.1 with
  |true=>exact congrArg some (h p (.head _))
  |false=>exact ih (λ q hq=>h q (.tail _ hq)) ((aD.mp hk).resolve_left λ h=>bz (e.symm.trans (beq_iff_eq.mpr h)))
theorem LX.zero{vs:List Vo}:LX c vs (vs.map λ z=>0) (.dK ((ij 0 (vs.map ly)).filterMap BM).reverse):= λ j hj n'=>by
 refine Sub.dK ?_;rw[Hj];rw[show(vs.map λ z=>(0:Rat)).getD j 0=0 by simp[ai];cases vs[j]? <;>rfl];refine xu (λ p hp=>?_) ?_
 ·obtain⟨x,_,rfl⟩:=aM.mp (vk.mp hp);rfl
 ·rw[List.map_reverse,vk,bI];exact aM.mpr ⟨j,List.mem_range'_1.mpr ⟨bS _,fw hj (gO _).symm⟩,rfl⟩
noncomputable abbrev pairD(com:List Nat)(dl:D):D:=.tup [.tup (D.nats com),dl]
noncomputable abbrev Qd(m:Nat)(vs:List Vo):List (Int×D):=xA (λ x=>.int (fJ vs x)) (aw m) []
noncomputable abbrev L6(m:Nat)(vs:List Vo)(ld:List Rat):List (Int×D):=xA (λ x=>lU (nw (lT vs ld x) none)) (aw m) []
noncomputable abbrev Ie(c:Cx)(m k:Nat)(o:Option Nat)(vs:List Vo)(LJ:Sl)(dl:Sl)(stk:List D)(st:TS)(cnt:Nat)(l:List Sl):List Sl:=
 [.val (o9 m vs),.val (.int (k:Int)),.val (.str "standard-fractions"),.val (my o),.val .none,.val (.tup []),.val (.dK (Qd m vs)),LJ,dl,.own true (.lst stk),.own true (.k8 k st),.own true (t4 c LG cnt)]++l
noncomputable def HM(k:Nat)(st:TS):D:=.tup [.lst ((fC k st).map D.dm),.any]
noncomputable def LA(k:Nat)(r:TS×Bool)(ρ:TS→List Sl):Out:=if r.2=true then .ret (HM k r.1)else .next (ρ r.1)
noncomputable def ui:List Stmt:=nD IL.body 10
noncomputable def xD:List Stmt:=nD ui 6
noncomputable def NI:Expr:=pH ui 6
theorem E0(PC:kd c)(G:PG c){u:rS}{L:Addr}{ρ:List Sl}{k cnt:Nat}{st:TS}{p1 p2 p3 p4 p5 p6:Pos}{k1:Nat}(h1:1≤k)(h3:k≤3)(kt:st∈l4 k)(hl:ρ[10]? =some (.own true (.k8 k st)))(nC:ρ[11]? =some (.own true (t4 c LG cnt))):
  Ex c (n+15) (Dk u L) ρ [.Return (some (.Tuple [.Call (.Name "sorted_committees" p1) [.Name "committees" p2] [] p3,.Name "detailed_info" p4] k1 p5)) p6] (.ret (HM k st)):=by
 have Sp:10<ρ.length:=(ay.mp hl).1;have So:11<ρ.length:=(ay.mp nC).1;refine Ex.freeze 10 rfl hl rfl ?_;refine Ex.freeze 11 rfl (by rw[aQ (by decide)];exact nC) rfl ?_;refine jH (wK h1 h3 kt) λ q1 q2 q3=>?_;refine Ex.one (ba.ret (Ev.tup (ck.cons (Ev.call (ds:=[.k8 k st]) (by kernel_rfl) PC.gS PC.kS (ck.cons (Ev.nm 10 rfl (by rw[aQ (by decide),bp Sp])) .nil) .nil (xg (n:=n+3) (mk:= λ c=>ym c) (css:=fC k st) PC G (λ xs=>by show some (D.dm ((D.nats xs).filterMap natOf))=_;rw[pB]) (λ xs hx=>jL.tup (n:=n+3) (q1 xs hx)) (λ m' tg=>?_) q1 q2 q3)) (ck.cons (Ev.nm 11 rfl (by rw[bp (by simpa using So)])) .nil))));exact Ib.weak Ib.k8 λ ds w0=>cW w0 λ cs hp e=>⟨cs,hp.trans (su h1 h3 kt).symm,e⟩
end
section
variable {c:Cx}{n:Nat}
noncomputable abbrev x7(c:Cx)(m k:Nat)(o:Option Nat)(vs:List Vo)(com:List Nat)(ld:List Rat)(dl:D)(stk:List D)(LJ:Sl)(st:TS)(cnt:Nat)(acc:List D)(l:List Sl):List Sl:=
 Ie c m k o vs LJ (.val dl) stk st cnt ([.val (.tup (D.nats com)),.val (.dK (L6 m vs ld)),.val (.lst ((nA vs m k com ld).map eM)),.own true (.lst acc)]++l)
noncomputable def Fz:Stmt:=oP (vw (oP xD 1)).o 3
structure Ctx(c:Cx)(m k t:Nat)(vs:List Vo)(com:List Nat)(ld:List Rat)(dl:D):Prop where
 V:lj m vs
 h4:m≤4
 h1:1≤k
 h3:k≤3
 C:oH m k t com
 L:oT vs t ld
 t:t<k
 dl:LX c vs ld dl
theorem Tr.cast{E:VE}{ρ:List Sl}{e:Expr}{b b':Bool}(h:b=b')(x:Tr c n E ρ e b'):Tr c n E ρ e b:=h▸x
theorem EN(P:iB c)(PF:fh c)(G:PG c){u:rS}{L:Addr}{m k t:Nat}{o:Option Nat}{vs:List Vo}{com:List Nat}{ld:List Rat}{dl:D}{stk acc:List D}{st:TS}{cnt x:Nat}{out:Out}(X:Ctx c m k t vs com ld dl)(hx:x<m)(h1:x∈eV vs m k com ld→Ex c (n+15) (Dk u L) (x7 c m k o vs com ld dl stk (.val (.int (x:Int))) st cnt acc [.val (.bool true),.val (.lst ((upd vs k com ld x).map eM)),.no,.no,.val (.tup (D.nats (com++[x])))]) [Fz] out)(h0:x∉eV vs m k com ld→out=.next (x7 c m k o vs com ld dl stk .no st cnt acc (al 5 .no))):
  Ex c (n+15) (Dk u L) (x7 c m k o vs com ld dl stk (.val (.int (x:Int))) st cnt acc (al 5 .no)) xD out:=by
 have hV:=X.V.l;have h4:=X.h4;have G9:=X.L.l;have Sm:=X.C.l;have SI:=X.C.k;have ht:=X.t;have Mf:nA vs m k com ld≠[]:=by unfold nA;intro e;simp at e;lia
 have Du:=B1 (k:=k) (com:=com) X.V X.L (by exact G6 (bV ht) (af SI h4) rfl);have Sh:((n5 (nA vs m k com ld)).den:Int)<2^32:=by
  obtain⟨y,_,e⟩:=aM.mp (ua Mf);have e:jb vs k com ld y=n5 (nA vs m k com ld):=e;rw[← e];exact Du y
 have hle:=Th (c:=c) (n:=n+14) PF (q:=jb vs k com ld x) (r:=n5 (nA vs m k com ld)) (kj (Du x) (by decide)) (kj Sh (by decide));rw[Hw hx]at hle;refine Ex.seq (ba.asg 16 (Ev.cmp (Ev.sub (Ev.nm 14 rfl rfl) (Ev.nm 7 rfl rfl) (Sub.list (by exact cy _) (DB (xq hx)) (by simp[nA];exact af h4 (aG _ _)))) (Ev.call (by kernel_rfl) G.min trivial (ck.cons (Ev.nm 14 rfl rfl) .nil) .nil (Fn.n5 (n:=n+13) PF Mf λ q hq=>(by refine jw hq λ y z=>?_;exact Du y))) hle) rfl (od rfl) (od rfl)) ?_
 by_cases hm:x∈eV vs m k com ld
 ·have h1:=h1 hm;rw[decide_eq_true hm];refine Ex.one (ba.ite (p:=true) (Tr.val (Ev.nm 16 rfl rfl) kA.bool) (λ z=>?_) (λ h=>by cases h));refine Ex.seq (ba.lh 17 (gz.mulL (ds:=[.int 0]) (k:=(vs.length:Int)) (Ev.lst (ck.cons Ev.int .nil)) (Ev.call (by kernel_rfl) G.len trivial (ck.cons (Ev.nm 0 rfl rfl) .nil) .nil (A5 (n:=n+13) P G (by exact rC hV rfl))) (by exact cy _) (by exact RL hV rfl) (by simp;exact rC hV rfl)) rfl (od rfl) (od rfl)) ?_;have FU:(al (vs.length:Int).toNat [D.int 0]).flatten.length=vs.length:=by simp
  generalize (al (vs.length:Int).toNat [D.int 0]).flatten=VD at FU⊢;refine Ex.seq (ρ':=x7 c m k o vs com ld dl stk (.val (.int (x:Int))) st cnt acc [.val (.bool true),.own true (.lst ((upd vs k com ld x).map eM)),.no,.no,.no]) (ba.for (xM (n:=n+11) P G (by kernel_rfl) (Ev.nm 0 rfl rfl)) λ ds hd=>?_) ?_
  ·subst hd;rw[← I4 (ws:=VD) (f:= λ j v z=>eM (if x∈v.2 then jb vs k com ld x else ld.getD j 0)) G9 FU λ j v w hw=>rfl];refine Lp.upd (ρ:=x7 c m k o vs com ld dl stk (.val (.int (x:Int))) st cnt acc [.val (.bool true),.no,.no,.no,.no]) 17 18 19 rfl rfl (od rfl) (od rfl) (od rfl) (od rfl) (od rfl) rfl rfl (vs:=vs) (N:=vs.length) (λ v hv a ws w hN hw=>?_) vs 0 _ (λ z h=>h) (by lia) FU;have QA:a<ws.length:=(ay.mp hw).1;refine Ex.one (ba.ite (p:=decide (x∈v.2)) (Tr.cmp (Ev.nm 7 rfl rfl) (Ev.attr (Ev.nm 19 rfl rfl) P.LM rfl) cB.inSet) (λ h=>?_) λ h=>?_)
   ·rw[if_pos (by simpa using h)];exact Ex.one (ba.pv 17 (k:=(a:Int)) (Ev.sub (Ev.nm 14 rfl rfl) (Ev.nm 7 rfl rfl) (Sub.list (by lia) (DB (xq hx)) (by simp[nA];lia))) (Ev.nm 18 rfl rfl) rfl rfl (by lia) (by exact cz.mpr QA) (by exact u_ hN hV rfl))
   ·rw[if_neg (by simpa using h)];exact Ex.one (ba.pv 17 (k:=(a:Int)) (Ev.sub (Ev.nm 8 rfl rfl) (Ev.nm 18 rfl rfl) (X.dl a (by exact fw QA hN) (n+14))) (Ev.nm 18 rfl rfl) rfl rfl (by lia) (by lia) (by lia))
  refine Ex.freeze 17 rfl rfl rfl ?_;refine Ex.seq (ba.asg 20 (d:=.tup (D.nats (com++[x]))) (Ev.cast (t_ com x▸rfl) (Ev.bin (Ev.nm 12 rfl rfl) (Ev.tup (ck.cons (Ev.nm 7 rfl rfl) .nil) (by simp)) (gF.IY (by rw[dk];simp;lia)))) rfl (od rfl) (od rfl)) ?_;exact h1
 ·rw[decide_eq_false hm,h0 hm];refine Ex.weak (ρ₁:=x7 c m k o vs com ld dl stk (.val (.int (x:Int))) st cnt acc [.val (.bool false),.no,.no,.no,.no]) ?_ (by repeat (first|exact cx.nil|refine cx.cons (.inr rfl) ?_|refine cx.cons (.inl rfl) ?_));exact Ex.one (ba.ite (p:=false) (Tr.val (Ev.nm 16 rfl rfl) kA.bool) (λ h=>by cases h) λ z=>Ex.nil)
theorem Nt(P:iB c)(PF:fh c)(PC:kd c)(G:PG c){u:rS}{L:Addr}{m k t:Nat}{o:Option Nat}{vs:List Vo}{com:List Nat}{ld:List Rat}{dl:D}{stk acc:List D}{st:TS}{cnt x:Nat}(X:Ctx c m k t vs com ld dl)(ht:t+1=k)(hx:x∈eV vs m k com ld)(kt:st∈l4 k)(xH:cnt≤900):
  Ex c (n+15) (Dk u L) (x7 c m k o vs com ld dl stk (.val (.int (x:Int))) st cnt acc [.val (.bool true),.val (.lst ((upd vs k com ld x).map eM)),.no,.no,.val (.tup (D.nats (com++[x])))]) [Fz]
   (if o=some (put k st (com++[x])).ids.length then .ret (HM k (put k st (com++[x])))else .next (x7 c m k o vs com ld dl stk (.val (.int (x:Int))) (put k st (com++[x])) (cnt+1) acc [.val (.bool true),.val (.lst ((upd vs k com ld x).map eM)),.no,.no,.val (.tup (D.nats (cJ (com++[x]))))])):=by
 have C':=X.C.next X.t (h_ X.V X.L X.C X.t hx) (k9 hx);rw[ht]at C';refine jH (oE X.h1 X.h3 X.h4 C' (t:=0)) λ i1 i2 i3=>?_;have hl:(com++[x]).length=k:=C'.l;have h3:=X.h3;have Bf:put k st (com++[x])∈l4 k:=xm X.h1 X.h3 X.h4 kt C';have hlen:Fn c (n+15) (.builtin "len") [.tup (D.nats (com++[x]))] [] (.int (k:Int)):=by
  have:=Fn.xw (c:=c) (n:=n+15) (ds:=D.nats (com++[x])) (by rw[dk];exact u_ hl h3 rfl);rwa[dk,hl]at this
 refine Ex.one (ba.ite (p:=((k:Int)==(k:Int))) (Tr.cmp (Ev.call (by kernel_rfl) G.len trivial (ck.cons (Ev.nm 20 rfl rfl) .nil) .nil hlen) (Ev.nm 1 rfl rfl) cB.Ei) (λ z=>?_) λ h=>by simp at h);refine Ex.seq (ba.asg 20 (Ev.call (by kernel_rfl) G.tuple trivial (ck.cons (Ev.call (by kernel_rfl) G.sorted trivial (ck.cons (Ev.nm 20 rfl rfl) .nil) .nil (Fn.sorted (n:=n+13) (J1.tup (by rw[dk];lia)) (by rw[dk];lia) (vM.nats (by exact Qb hl h3 rfl)))) .nil) .nil (Fn.vX (by rw[dk,(eK _).length_eq];lia))) rfl (od rfl) (od rfl)) ?_;refine Ex.seq (ba.IY 10 (n:=n+14) (k:=k) (y:=um k (com++[x])) (st:=st) (Ev.cast (by rw[i3]) (Ev.nm 20 rfl rfl)) i2 rfl rfl) ?_;rw[show st.plus k (um k (com++[x]))=put k st (com++[x])from rfl];generalize put k st (com++[x])=na at Bf⊢;refine Ex.seq (ba.HE 11 (n:=n+14) (key:=LG) (m:=cnt) (xs:=(cJ (com++[x])).map λ (x:Nat)=>(x:Int)) (Ev.nm 17 rfl rfl) (Ev.cast (by rw[dX]) (Ev.nm 20 rfl rfl)) rfl rfl xH) ?_;cases o with
 |none=>
  rw[if_neg (by simp)];exact Ex.one (ba.ite (p:=false&&false) (Tr.qL (b:=false) (b':=false) (Tr.cmp (Ev.nm 3 rfl rfl) Ev.lF cB.vF) (λ h=>by cases h)) (λ h=>by cases h) λ z=>Ex.nil)
 |some j=>
  have e:(true&&((na.ids.length:Int)==(j:Int)))=decide (some j=some na.ids.length):=by
   by_cases h:j=na.ids.length
   ·subst h;simp
   ·rw[decide_eq_false (by simpa using h)];simp;lia
  by_cases h:some j=some na.ids.length
  ·have e2:true=(true&&((na.ids.length:Int)==(j:Int))):=by rw[e,decide_eq_true h]
   rw[if_pos h];exact Ex.stop (ba.ite (p:=true) (Tr.cast e2 (Tr.qL (b:=true) (Tr.cmp (Ev.nm 3 rfl rfl) Ev.lF cB.vF) λ z=>Tr.cmp (Ev.tO 10 rfl rfl rfl (Ev.call (by kernel_rfl) G.len trivial (ck.cons (Ev.nm 10 rfl rfl) .nil) .nil Fn.yX)) (Ev.nm 3 rfl rfl) cB.Ei)) (λ z=>E0 PC G X.h1 X.h3 Bf rfl rfl) (λ h=>by cases h)) rfl
  ·have e2:false=(true&&((na.ids.length:Int)==(j:Int))):=by rw[e,decide_eq_false h]
   rw[if_neg h];exact Ex.one (ba.ite (p:=false) (Tr.cast e2 (Tr.qL (b:=true) (Tr.cmp (Ev.nm 3 rfl rfl) Ev.lF cB.vF) λ z=>Tr.cmp (Ev.tO 10 rfl rfl rfl (Ev.call (by kernel_rfl) G.len trivial (ck.cons (Ev.nm 10 rfl rfl) .nil) .nil Fn.yX)) (Ev.nm 3 rfl rfl) cB.Ei)) (λ h=>by cases h) λ z=>Ex.nil)
end
section
variable {c:Cx}{n:Nat}
noncomputable def xO(vs:List Vo)(m k:Nat)(com:List Nat)(ld:List Rat)(xs:List Nat):List (List Nat):=(xs.filter λ x=>decide (x∈eV vs m k com ld)).map λ x=>com++[x]
noncomputable def C6(vs:List Vo)(m k:Nat)(com:List Nat)(ld:List Rat)(xs:List Nat):List D:=(xs.filter λ x=>decide (x∈eV vs m k com ld)).map λ x=>pairD (com++[x]) (.lst ((upd vs k com ld x).map eM))
theorem KX(P:iB c)(PF:fh c)(PC:kd c)(G:PG c){u:rS}{L:Addr}{m k t:Nat}{o:Option Nat}{vs:List Vo}{com:List Nat}{ld:List Rat}{dl:D}{stk acc:List D}(X:Ctx c m k t vs com ld dl)(ht:t+1=k):∀(xs:List Nat) (st:TS) (cnt:Nat),(∀x∈xs,x<m)→st∈l4 k→cnt+xs.length≤900→
  Lp c (n+15) (Dk u L) (x7 c m k o vs com ld dl stk .no st cnt acc (al 5 .no)) NI xD (D.nats xs) (LA k (ir k o st (xO vs m k com ld xs)) λ na=>x7 c m k o vs com ld dl stk .no na (cnt+(xO vs m k com ld xs).length) acc (al 5 .no)):=by
 intro w
 induction w with
 |nil=>
  intro st cnt j j j;exact Lp.nil
 |cons x xs ih=>
  intro st cnt hx kt hc;have G8:=hx x (.head _);simp only[aJ]at hc
  by_cases hm:x∈eV vs m k com ld
  ·have e:xO vs m k com ld (x::xs)=(com++[x])::xO vs m k com ld xs:=by unfold xO;rw[bY (by simpa using hm)];rfl
   rw[e,tV];have C':=X.C.next X.t (h_ X.V X.L X.C X.t hm) (k9 hm);rw[ht]at C';have Bf:=xm X.h1 X.h3 X.h4 kt C';have hl:=Nt (n:=n) (u:=u) (L:=L) (o:=o) (stk:=stk) (acc:=acc) P PF PC G X ht hm kt (cnt:=cnt) (by exact GY hc rfl)
   by_cases hs:o=some (put k st (com++[x])).ids.length
   ·rw[if_pos hs]at hl⊢;exact Lp.ret (ju.name 7 rfl (od rfl) (od rfl)) (EN P PF G X G8 (λ j=>hl) λ h=>absurd hm h)
   ·rw[if_neg hs]at hl⊢;rw[show cnt+((com++[x])::xO vs m k com ld xs).length=(cnt+1)+(xO vs m k com ld xs).length by simp;lia];refine Lp.step (ρ'':=x7 c m k o vs com ld dl stk .no (put k st (com++[x])) (cnt+1) acc (al 5 .no)) (ju.name 7 rfl (od rfl) (od rfl)) (EN P PF G X G8 (λ j=>Ex.weak hl (by repeat (first|exact cx.nil|refine cx.cons (.inr rfl) ?_|refine cx.cons (.inl rfl) ?_))) λ h=>absurd hm h) (ih _ _ (λ z h=>hx z (.tail _ h)) Bf (by exact JU hc rfl))
  ·have e:xO vs m k com ld (x::xs)=xO vs m k com ld xs:=by unfold xO;rw[bZ (by simpa using hm)]
   rw[e];exact Lp.step (ju.name 7 rfl (od rfl) (od rfl)) (EN P PF G X G8 (λ h=>absurd h hm) λ j=>rfl) (ih _ _ (λ z h=>hx z (.tail _ h)) kt (by exact bV hc))
theorem KW(P:iB c)(PF:fh c)(G:PG c){u:rS}{L:Addr}{m k t:Nat}{o:Option Nat}{vs:List Vo}{com:List Nat}{ld:List Rat}{dl:D}{stk:List D}{st:TS}{cnt:Nat}(X:Ctx c m k t vs com ld dl)(ht:t+1<k):∀(xs:List Nat) (acc:List D),(∀x∈xs,x<m)→acc.length+xs.length≤900→
  Lp c (n+15) (Dk u L) (x7 c m k o vs com ld dl stk .no st cnt acc (al 5 .no)) NI xD (D.nats xs) (.next (x7 c m k o vs com ld dl stk .no st cnt (acc++C6 vs m k com ld xs) (al 5 .no))):=by
 intro w
 induction w with
 |nil=>
  intro acc j j;rw[show acc++C6 vs m k com ld []=acc from bK _];exact Lp.nil
 |cons x xs ih=>
  intro acc hx hc;have G8:=hx x (.head _);simp only[aJ]at hc
  by_cases hm:x∈eV vs m k com ld
  ·have e:acc++C6 vs m k com ld (x::xs)=(acc++[pairD (com++[x]) (.lst ((upd vs k com ld x).map eM))])++C6 vs m k com ld xs:=by unfold C6;rw[bY (by simpa using hm)];simp
   rw[e];have hl:=X.C.l;have h3:=X.h3;have hlen:Fn c (n+15) (.builtin "len") [.tup (D.nats (com++[x]))] [] (.int ((t+1:Nat):Int)):=by
    have:=Fn.xw (c:=c) (n:=n+15) (ds:=D.nats (com++[x])) (by rw[dk];simp;lia);rwa[dk,aY,hl]at this
   refine Lp.step (ρ'':=x7 c m k o vs com ld dl stk .no st cnt (acc++[pairD (com++[x]) (.lst ((upd vs k com ld x).map eM))]) (al 5 .no)) (ju.name 7 rfl (od rfl) (od rfl)) (EN P PF G X G8 (λ j=>?_) λ h=>absurd hm h) (ih _ (λ z h=>hx z (.tail _ h)) (by simp;exact JU hc rfl));refine Ex.weak (ρ₁:=x7 c m k o vs com ld dl stk (.val (.int (x:Int))) st cnt (acc++[pairD (com++[x]) (.lst ((upd vs k com ld x).map eM))]) [.val (.bool true),.val (.lst ((upd vs k com ld x).map eM)),.no,.no,.val (.tup (D.nats (com++[x])))]) ?_ (by repeat (first|exact cx.nil|refine cx.cons (.inr rfl) ?_|refine cx.cons (.inl rfl) ?_));refine Ex.one (ba.ite (p:=(((t+1:Nat):Int)==(k:Int))) (Tr.cmp (Ev.call (by kernel_rfl) G.len trivial (ck.cons (Ev.nm 20 rfl rfl) .nil) .nil hlen) (Ev.nm 1 rfl rfl) cB.Ei) (λ h=>absurd h (by simp;lia)) λ j=>?_);exact Ex.one (ba.append 15 (Ev.tup (ck.cons (Ev.nm 20 rfl rfl) (ck.cons (Ev.nm 17 rfl rfl) .nil))) rfl rfl (by exact GY hc rfl))
  ·have e:C6 vs m k com ld (x::xs)=C6 vs m k com ld xs:=by unfold C6;rw[bZ (by simpa using hm)]
   rw[e];exact Lp.step (ju.name 7 rfl (od rfl) (od rfl)) (EN P PF G X G8 (λ h=>absurd h hm) λ j=>rfl) (ih _ (λ z h=>hx z (.tail _ h)) (by exact bV hc))
theorem cB.RG{x:Nat}{xs:List Nat}(hn:1≤n):cB c n .In (.int (x:Int)) (.tup (D.nats xs)) (decide (x∈xs)):=by
 have:=cB.RH (c:=c) (x:=(x:Int)) (xs:=xs.map λ (x:Nat)=>(x:Int)) hn;rw[← dX]at this;rwa[mem_cast]at this
noncomputable abbrev Ic(c:Cx)(m k:Nat)(o:Option Nat)(vs:List Vo)(stk:List D)(st:TS)(cnt:Nat):List Sl:=Ie c m k o vs .no .no stk st cnt (al 9 .no)
theorem MD(Q:LW c)(P:iB c)(PF:fh c)(PC:kd c)(G:PG c){u:rS}{L:Addr}{p:Addr×Addr}(hp:p∈c.tabs)(hc:u.code=.ref p.1){m k t:Nat}{o:Option Nat}{vs:List Vo}{com:List Nat}{ld:List Rat}{dl:D}{stk:List D}{st:TS}{cnt:Nat}(X:Ctx c m k t vs com ld dl)(kt:st∈l4 k)(xH:cnt≤200)(N6:stk.length≤200):
  Ex c (n+15) (Dk u L) (Ic c m k o vs (stk++[pairD com dl]) st cnt) ui (if t+1=k then LA k (ir k o st (xO vs m k com ld (aw m))) (λ na=>Ic c m k o vs stk na (cnt+(xO vs m k com ld (aw m)).length))else .next (Ic c m k o vs (stk++(C6 vs m k com ld (aw m)).reverse) st cnt)):=by
 have hV:=X.V.l;have h4:=X.h4;have G9:=X.L.l;have Sm:=X.C.l;have SI:=X.C.k;have ht:=X.t;have hK:∀x,x<m→(Qd m vs).lookup (x:Int)=some (.int (fJ vs x)):= λ x hx=>by rw[mW,if_pos (aO.mpr hx)]
 have hA:∀x,x<m→(L6 m vs ld).lookup (x:Int)=some (lU (nw (lT vs ld x) none)):= λ x hx=>by rw[mW,if_pos (aO.mpr hx)]
 refine Ex.seq (ρ':=Ie c m k o vs .no (.val dl) stk st cnt (.val (.tup (D.nats com))::al 8 .no)) (ba.Rk 9 (ds:=stk) (es:=[.tup (D.nats com),dl]) rfl rfl (by exact af N6 (aG _ _)) (ju.tup (kU.cons (ju.name 12 rfl (od rfl) (od rfl)) (kU.cons (ju.name 8 rfl (od rfl) (od rfl)) .nil)))) ?_;refine Ex.seq (ba.lh 13 gz.Cr rfl (od rfl) (od rfl)) ?_;refine Ex.seq (ρ':=Ie c m k o vs .no (.val dl) stk st cnt (.val (.tup (D.nats com))::.own true (.dK (0+(aw m).length) (L6 m vs ld))::al 7 .no)) (ba.for (kg.of (Ev.attr (Ev.nm 0 rfl rfl) P.Cv rfl) Ib.list) λ ds hd=>?_) ?_
 ·subst hd;refine Lp.fill (ρ:=Ie c m k o vs .no (.val dl) stk st cnt (.val (.tup (D.nats com))::al 8 .no)) 13 7 rfl rfl (od rfl) (od rfl) (od rfl) rfl rfl (aw m) 0 [] (by simp;exact af h4 (aG _ _)) λ z j N acc=>?_;exact Ev.LN (n:=n+6) PF P G Q X.V X.L (by exact G6 (bV ht) (af SI h4) rfl) X.dl 0 7 8 (by kernel_rfl) rfl (by kernel_rfl) (by kernel_rfl) rfl rfl rfl rfl rfl rfl hp hc (by intro j;rfl)
 refine Ex.freeze 13 rfl rfl rfl ?_;refine Ex.seq (ba.oF 14 (tn:=["cand"]) (ix:=[13,6,1]) (by kernel_rfl) (ds:=D.nats (aw m)) (i7 λ i=>eM (jb vs k [] ld i.toNat)) (kg.of (Ev.attr (Ev.nm 0 rfl rfl) P.Cv rfl) Ib.list) (by simp[D.nats];exact af h4 (aG _ _)) (λ C d hd=>?_) rfl (od rfl) (od rfl) (by kernel_rfl)) ?_
 ·obtain⟨x,hx,rfl⟩:=gh hd;have hx:=aO.mp hx;exact Vp (n:=n+12) PF Q X.V X.L (by lia) (hA x hx) (hK x hx) (od rfl) rfl rfl rfl rfl (by kernel_rfl) (by kernel_rfl)
 rw[fz];simp only[eU];have Sd:D8 (eM (((k:Int)+2:Int):Rat)) com (aw m) ((aw m).map λ x=>eM (jb vs k [] ld x))=(nA vs m k com ld).map eM:=by
  rw[BZ,nA,bI];refine cj λ x j=>?_;show _=eM (jb vs k com ld x);unfold jb;simp only[vj,if_false];split<;>rfl
 refine Ex.seq (ρ':=Ie c m k o vs .no (.val dl) stk st cnt ([.val (.tup (D.nats com)),.val (.dK (L6 m vs ld)),.own true (.lst ((nA vs m k com ld).map eM))]++al 6 .no)) (ba.for (kg.of (Ev.attr (Ev.nm 0 rfl rfl) P.Cv rfl) Ib.list) λ ds hd=>?_) ?_
 ·subst hd;rw[← Sd];exact Lp.D8 (c:=c) (n:=n+15) (E:=Dk u L) (w:=eM (((k:Int)+2:Int):Rat)) (com:=com) (ρ:=Ie c m k o vs .no (.val dl) stk st cnt ([.val (.tup (D.nats com)),.val (.dK (L6 m vs ld)),.no]++al 6 .no)) 14 7 rfl rfl (od rfl) (od rfl) (od rfl) rfl rfl (aw m) ((aw m).map λ x=>eM (jb vs k [] ld x)) (by simp;lia) (λ z hz=>by simpa using hz) λ z j ws=>
   ⟨Tr.cmp (Ev.nm 7 rfl rfl) (Ev.nm 12 rfl rfl) (cB.RG (by exact bD _)),Ev.call (by kernel_rfl) PF.sP PF.keep (ck.cons (Ev.bin (Ev.nm 1 rfl rfl) Ev.int gF.rR) .nil) .nil ((oh (n:=n+13) PF _).fn rfl)⟩
 refine Ex.freeze 14 rfl rfl rfl ?_;refine Ex.seq (ba.lh 15 (gz.lst .nil) rfl (od rfl) (od rfl)) ?_;have tl:∀(es:List D) (na:TS) (IQ:Nat),es.length≤200→Ex c (n+15) (Dk u L) (x7 c m k o vs com ld dl stk .no na IQ es (al 5 .no)) (ui.drop 7) (.next (Ic c m k o vs (stk++es.reverse) na IQ)):= λ es na IQ he=>by
  refine Ex.freeze 15 rfl rfl rfl ?_;refine Ex.weak (ρ₁:=Ie c m k o vs .no (.val dl) (stk++es.reverse) na IQ ([.val (.tup (D.nats com)),.val (.dK (L6 m vs ld)),.val (.lst ((nA vs m k com ld).map eM)),.val (.lst es)]++al 5 .no)) ?_ (by repeat (first|exact cx.nil|refine cx.cons (.inr rfl) ?_|refine cx.cons (.inl rfl) ?_));exact Ex.one (ba.Ii (n:=n+13) 9 (Ev.nm 15 rfl rfl) rfl (od rfl) rfl (by exact T9 N6 he rfl) (by kernel_rfl) G.rev)
 have UC:∀x∈aw m,x<m:= λ x hx=>aO.mp hx
 by_cases hk:t+1=k
 ·rw[if_pos hk];have td:=KX (n:=n) (u:=u) (L:=L) (o:=o) (stk:=stk) (acc:=[]) P PF PC G X hk (aw m) st cnt UC kt (by simp;exact T9 xH h4 rfl);generalize hr:ir k o st (xO vs m k com ld (aw m))=r at td⊢;obtain⟨na,b⟩:=r;cases b with
  |true=>exact Ex.stop (ba.for (kg.of (Ev.attr (Ev.nm 0 rfl rfl) P.Cv rfl) Ib.list) λ ds hd=>(by subst hd;exact td)) rfl
  |false=>
   refine Ex.seq (ρ':=x7 c m k o vs com ld dl stk .no na (cnt+(xO vs m k com ld (aw m)).length) [] (al 5 .no)) (ba.for (kg.of (Ev.attr (Ev.nm 0 rfl rfl) P.Cv rfl) Ib.list) λ ds hd=>(by subst hd;exact td)) ?_;have:=tl [] na (cnt+(xO vs m k com ld (aw m)).length) (by simp);rw[List.reverse_nil,bK]at this;exact this
 ·rw[if_neg hk];refine Ex.seq (ρ':=x7 c m k o vs com ld dl stk .no st cnt (C6 vs m k com ld (aw m)) (al 5 .no)) (ba.for (kg.of (Ev.attr (Ev.nm 0 rfl rfl) P.Cv rfl) Ib.list) λ ds hd=>(by subst hd;exact KW (n:=n) (u:=u) (L:=L) (o:=o) (stk:=stk) (st:=st) (cnt:=cnt) P PF G X (by exact mH ht hk) (aw m) [] UC (by simp;lia))) ?_;refine tl _ st cnt ?_;unfold C6;rw[aE];exact af (bG _ _) (by simp;exact af h4 (aG _ _))
end
structure Nd where
 com:List Nat
 ld:List Rat
 dl:D
noncomputable abbrev Nd.d(x:Nd):D:=pairD x.com x.dl
noncomputable def DJ(c:Cx)(m k:Nat)(vs:List Vo)(x:Nd):Prop:=Ctx c m k x.com.length vs x.com x.ld x.dl
noncomputable def D_(vs:List Vo)(m k:Nat)(x:Nd):List (List Nat):=lv vs m k (k-x.com.length) x.com x.ld
noncomputable def vB(vs:List Vo)(m k:Nat)(l:List Nd):List (List Nat):=l.reverse.flatMap (D_ vs m k)
noncomputable def Ak(k:Nat):List Nd→Nat
 |[]=>0
 |x::l=>5^ (k-x.com.length)+Ak k l
noncomputable def kids(vs:List Vo)(m k:Nat)(x:Nd):List Nd:=(eV vs m k x.com x.ld).map λ y=>⟨x.com++[y],upd vs k x.com x.ld y,.lst ((upd vs k x.com x.ld y).map eM)⟩
theorem tG(k:Nat)(x:Nd)(l:List Nd):Ak k (x::l)=5^ (k-x.com.length)+Ak k l:=rfl
theorem BO(k:Nat):Ak k []=0:=rfl
theorem qf(k:Nat):∀a b:List Nd,Ak k (a++b)=Ak k a+Ak k b
 |[],b=>by simp[BO]
 |x::a,b=>by rw[List.cons_append,tG,tG,qf k a b];exact(eN _ _ _).symm
theorem w4(k:Nat):∀a:List Nd,Ak k a.reverse=Ak k a
 |[]=>rfl
 |x::a=>by rw[List.reverse_cons,qf,w4 k a,tG];simp[tG,BO];exact kh _ _
theorem w5(k:Nat):∀a:List Nd,a.length≤Ak k a
 |[]=>az _
 |x::a=>by have:=w5 k a;have:0<5^ (k-x.com.length):=Nat.pow_pos (by decide);simp only[tG,aJ];lia
theorem BP{k e:Nat}:∀a:List Nd,(∀x∈a,k-x.com.length=e)→Ak k a=a.length*5^e
 |[],_=>by simp[BO]
 |x::a,h=>by rw[tG,h x (.head _),BP a λ y hy=>h y (.tail _ hy),aJ,Nat.succ_mul];exact kh _ _
section
variable {c:Cx}{n:Nat}
theorem Ia{m k:Nat}{vs:List Vo}{x:Nd}(X:DJ c m k vs x)(ht:x.com.length+1<k):∀y∈kids vs m k x,DJ c m k vs y:= λ y hy=>by
 refine jw hy λ z hz=>?_;have ho:=h_ X.V X.L X.C X.t hz;have L':=tI (k:=k) X.V X.L ho;have C':=X.C.next X.t ho (k9 hz);unfold DJ;simp only[aY,pj];exact⟨X.V,X.h4,X.h1,X.h3,C',L',ht,LX.lst L'.l X.V.l⟩
theorem E6{vs:List Vo}{m k:Nat}{x:Nd}:C6 vs m k x.com x.ld (aw m)=(kids vs m k x).map Nd.d:=by
 unfold C6 kids;rw[l7,bI];rfl
theorem zO{vs:List Vo}{m k:Nat}{com:List Nat}{ld:List Rat}:xO vs m k com ld (aw m)=(eV vs m k com ld).map λ x=>com++[x]:=by unfold xO;rw[l7]
theorem yV{vs:List Vo}{m k:Nat}{x:Nd}(h:x.com.length+1=k):D_ vs m k x=xO vs m k x.com x.ld (aw m):=by
 unfold D_;rw[zO,show k-x.com.length=0+1 by lia,H5];simp only[KN];rw[← List.map_eq_flatMap]
theorem Fq{vs:List Vo}{m k:Nat}{x:Nd}(h:x.com.length+1<k):D_ vs m k x=(kids vs m k x).flatMap (D_ vs m k):=by
 unfold D_ kids;rw[Ke (show x.com.length<k by first|assumption|exact kr (by assumption)),H5,vo];simp only[aY,pj]
theorem VF(Q:LW c)(P:iB c)(PF:fh c)(PC:kd c)(G:PG c){u:rS}{L:Addr}{p:Addr×Addr}(hp:p∈c.tabs)(hc:u.code=.ref p.1){m k:Nat}{o:Option Nat}{vs:List Vo}{p1:Pos}:∀(f:Nat) (l:List Nd) (st:TS) (cnt:Nat),(∀x∈l,DJ c m k vs x)→Ak k l≤f→cnt+Ak k l≤125→st∈l4 k→
  Wh c (n+15) (Dk u L) (Ic c m k o vs (l.map Nd.d) st cnt) (.Name "committee_load_pairs" p1) ui (LA k (ir k o st (vB vs m k l)) λ na=>Ic c m k o vs [] na (cnt+(vB vs m k l).length)):=by
 intro f
 induction f with
 |zero=>
  intro l st cnt j hf j j;have:l=[]:=gc.mp (by have:=w5 k l;lia);subst this;exact Wh.done (Tr.tO 9 rfl rfl rfl (Tr.val (Ev.nm 9 rfl rfl) (kA.list (ds:=[]) (by simp))))
 |succ f ih=>
  intro l st cnt hl hf xH kt
  rcases List.eq_nil_or_concat l with rfl|⟨l,x,rfl⟩
  ·exact Wh.done (Tr.tO 9 rfl rfl rfl (Tr.val (Ev.nm 9 rfl rfl) (kA.list (ds:=[]) (by simp))))
  ·rw[List.concat_eq_append]at hl hf xH⊢;have X:=hl x (by simp);have nC:∀y∈l,DJ c m k vs y:= λ y hy=>hl y (by simp[hy]);rw[qf]at hf xH;have Yo:Ak k [x]=5^ (k-x.com.length):=by simp[tG,BO]
   have Mg:=w5 k l;have Wu:=X.t;have Dn:0<5^ (k-x.com.length):=Nat.pow_pos (by decide);have e:vB vs m k (l++[x])=D_ vs m k x++vB vs m k l:=by unfold vB;simp
   have ed:(l++[x]).map Nd.d=l.map Nd.d++[pairD x.com x.dl]:=by simp
   have tr:∀{st cnt},Tr c (n+15) (Dk u L) (Ic c m k o vs (l.map Nd.d++[pairD x.com x.dl]) st cnt) (.Name "committee_load_pairs" p1) true:= λ {st cnt}=>by
    have:=Tr.tO (c:=c) (n:=n+15) (E:=Dk u L) (ρ:=Ic c m k o vs (l.map Nd.d++[pairD x.com x.dl]) st cnt) (e:=.Name "committee_load_pairs" p1) 9 rfl rfl rfl (Tr.val (Ev.nm 9 rfl rfl) (kA.list (ds:=l.map Nd.d++[pairD x.com x.dl]) (by simp;lia)));rwa[show(!(l.map Nd.d++[pairD x.com x.dl]).isEmpty)=true by simp]at this
   have body:=MD (n:=n) (L:=L) (o:=o) (stk:=l.map Nd.d) (st:=st) (cnt:=cnt) Q P PF PC G hp hc X kt (by exact GY xH rfl) (by rw[aE];lia);have ux:(xO vs m k x.com x.ld (aw m)).length≤4:=by rw[zO,aE];exact af tM X.h4
   rw[e,ed,yC]
   by_cases ht:x.com.length+1=k
   ·rw[if_pos ht,← yV ht]at body;rw[← yV ht]at ux;have h5:5^ (k-x.com.length)=5:=by rw[show k-x.com.length=1 by lia]
    have td:(ir k o st (D_ vs m k x)).1∈l4 k:=by
     refine tc X.h1 X.h3 X.h4 _ _ (B5 X.V _ _ _ _ (by lia) X.C X.L) kt
    generalize ir k o st (D_ vs m k x)=r at body td⊢;obtain⟨na,b⟩:=r;cases b with
    |true=>exact Wh.ret tr body
    |false=>
     have zl:=ih l na (cnt+(D_ vs m k x).length) nC (by lia) (by lia) td;rw[eN,← aY]at zl;exact Wh.step tr body zl
   ·have N2:x.com.length+1<k:=by exact mH Wu ht
    rw[if_neg ht,E6,← List.map_reverse,← hJ]at body;have K_:(kids vs m k x).length≤4:=by unfold kids;rw[aE];exact af tM X.h4
    have Yn:Ak k (kids vs m k x)+1≤5^ (k-x.com.length):=by
     rw[BP (e:=k-(x.com.length+1)) _ λ y hy=>by
      refine jw hy λ z j=>?_;simp]
     rw[Ke (show x.com.length<k by first|assumption|exact kr (by assumption)),Nat.pow_succ];have:=Nat.mul_le_mul_right (5^ (k-(x.com.length+1))) K_;have:0<5^ (k-(x.com.length+1)):=Nat.pow_pos (by decide);lia
    have zl:=ih (l++(kids vs m k x).reverse) st cnt (λ y hy=>(aC.mp hy).elim (nC y) λ h=>Ia X N2 y (vk.mp h)) (by rw[qf,w4];lia) (by rw[qf,w4];lia) kt;have e2:vB vs m k (l++(kids vs m k x).reverse)=D_ vs m k x++vB vs m k l:=by rw[Fq N2];unfold vB;simp
    rw[e2,yC]at zl;exact Wh.step tr body zl
theorem V_{ks:List (Str×ag)}{x y z p:Str}{d e f g:D}(h:ks.map (·.1)=(fN (·.1) ([(x,d),(y,e),(z,f),(p,g)]:List (Str×D)))):∃a b c d,ks=[(x,a),(y,b),(z,c),(p,d)]:=by
 refine ez (L5 (x:=x) h) λ a t z1 k=>?_;subst z1;refine iq (Qe (d:=e) (e:=f) (f:=g) k) λ b c d z1=>?_;subst z1;exact⟨a,b,c,d,rfl⟩
theorem FF(Q:LW c)(P:iB c)(PF:fh c)(PC:kd c)(G:PG c){m k:Nat}{o:Option Nat}{vs:List Vo}(V:lj m vs)(h4:m≤4)(h1:1≤k)(h3:k≤3)(hk:k≤m):
  Fn c (n+16) (.ref 434) [] [("profile",o9 m vs),("committeesize",.int (k:Int)),("algorithm",.str "standard-fractions"),("max_num_of_committees",my o)] (HM k (ir k o iA (lv vs m k k [] (vs.map λ y=>0))).1):=by
 refine eX Q.O_ λ u F p hp hc=>?_;have hV:=V.l;refine Fn.of (vn:=NC) (np:=6) [.kw 0,.kw 1,.kw 2,.kw 3,.dN,.dN] F (by kernel_rfl) (by kernel_rfl) rfl rfl ?_ λ L=>?_
 ·intro s vs ks S hv hk;cases Nr hv;refine xe (V_ hk) λ a zh=>iq zh λ b c d z1=>?_;subst z1;exact Q.Pt.binds S rfl rfl rfl
 ·show Ex c (n+15) (Dk u L) [.val (o9 m vs),.val (.int (k:Int)),.val (.str "standard-fractions"),.val (my o),.val .none,.val .none,.no,.no,.no,.no,.no,.no,.no,.no,.no,.no,.no,.no,.no,.no,.no] _ _;refine Ex.seq (ba.ite (p:=false) (Tr.cmp (Ev.nm 2 rfl rfl) Ev.ny cB.Mr) (λ h=>by cases h) λ y=>Ex.nil) ?_;refine Ex.seq (ba.ite (p:=false) (Tr.cmp (Ev.nm 2 rfl rfl) Ev.ny cB.Ud) (λ h=>by cases h) λ y=>Ex.nil) ?_;refine Ex.seq (ba.lh 6 gz.Cr rfl (od rfl) (od rfl)) ?_;refine Ex.seq (ρ':=[.val (o9 m vs),.val (.int (k:Int)),.val (.str "standard-fractions"),.val (my o),.val .none,.val .none,.own true (.dK (0+(aw m).length) (Qd m vs)),.no,.no,.no,.no,.no,.no,.no,.no,.no,.no,.no,.no,.no,.no]) (ba.for (kg.of (Ev.attr (Ev.nm 0 rfl rfl) P.Cv rfl) Ib.list) λ ds hd=>?_) ?_
  ·subst hd;refine Lp.fill (ρ:=[.val (o9 m vs),.val (.int (k:Int)),.val (.str "standard-fractions"),.val (my o),.val .none,.val .none,.no,.no,.no,.no,.no,.no,.no,.no,.no,.no,.no,.no,.no,.no,.no]) 6 7 rfl rfl (od rfl) (od rfl) (od rfl) rfl rfl (aw m) 0 [] (by simp;exact rC h4 rfl) λ z y N acc=>?_;exact Ev.fJ P G V 0 7 (by kernel_rfl) rfl (by kernel_rfl) rfl rfl rfl rfl hp hc (by intro y;rfl)
  refine Ex.freeze 6 rfl rfl rfl ?_;refine Ex.seq (ba.asg 8 (Ev.nm 4 rfl rfl) rfl (od rfl) (od rfl)) ?_;refine Ex.seq (ρ':=[.val (o9 m vs),.val (.int (k:Int)),.val (.str "standard-fractions"),.val (my o),.val .none,.val .none,.val (.dK (Qd m vs)),.no,.own true (.dK ((ij 0 (vs.map ly)).filterMap BM).reverse.length ((ij 0 (vs.map ly)).filterMap BM).reverse),.no,.no,.no,.no,.no,.no,.no,.no,.no,.no,.no,.no])
   (ba.ite (p:=true) (Tr.cmp (Ev.nm 8 rfl rfl) Ev.lF (cB.NB rfl)) (λ y=>Ex.one (ba.lh 8 (gz.Pq (tn:=["v","_"]) (ix:=[]) (by kernel_rfl) BM (xM (n:=n+11) P G (by kernel_rfl) (Ev.nm 0 rfl rfl)) ?_ λ C d hd=>?_) rfl (od rfl) (od rfl))) (λ h=>by cases h)) ?_
  ·have:∀(l:List Vo) i,(ij i (l.map ly)).length=l.length:=by
    intro l;induction l with
    |nil=>intro i;rfl
    |cons a l ih=>intro i;rw[a9,ij,aJ,ih,aJ]
   rw[this];exact rC hV rfl
  ·refine bL (yU hd) λ j v hv y y z1=>?_;subst z1;refine⟨_,CQ 0 1 rfl (od rfl) (od rfl) rfl (od rfl) (od rfl),by repeat (first|exact cx.nil|refine cx.cons (.inr rfl) ?_|refine cx.cons (.inl rfl) ?_),Hh.nil,λ y z hz=>?_⟩;cases hz;exact⟨Ev.nm 0 rfl rfl,Ev.call (by kernel_rfl) PF.sP PF.keep (ck.cons Ev.int .nil) .nil ((oh (n:=n+13) PF 0).fn rfl)⟩
  refine Ex.freeze 8 rfl rfl rfl ?_;refine Ex.seq (ρ':=Ie c m k o vs .no (.val (.dK ((ij 0 (vs.map ly)).filterMap BM).reverse)) [] iA 0 (al 9 .no)|>.set 9 .no|>.set 10 .no|>.set 11 .no) (ba.ite (p:=true) (Tr.cmp (Ev.nm 5 rfl rfl) Ev.lF (cB.NB rfl)) (λ y=>Ex.one (ba.asg 5 (Ev.tup .nil) rfl (od rfl) (od rfl))) (λ h=>by cases h)) ?_;refine Ex.seq (ba.lh 9 (gz.lst (ds:=[pairD [] (.dK ((ij 0 (vs.map ly)).filterMap BM).reverse)]) (ck.cons (Ev.tup (ck.cons (Ev.nm 5 rfl rfl) (ck.cons (Ev.nm 8 rfl rfl) .nil)) (by simp)) .nil) (by simp)) rfl (od rfl) (od rfl)) ?_;refine Ex.seq (ba.lh 10 (gz.call (by kernel_rfl) G.set trivial .nil .nil (mG.Q5 (k:=k) h1 h3)) rfl (od rfl) (od rfl)) ?_
  with_reducible refine Ex.M3 11 ?_ ?_ ?_ ?_
  ·rfl
  ·exact(od rfl)
  ·exact(od rfl)
  have X:DJ c m k vs ⟨[],vs.map λ y=>0,.dK ((ij 0 (vs.map ly)).filterMap BM).reverse⟩:=⟨V,h4,h1,h3,oH.nil hk,oT.start vs,h1,LX.zero⟩;have hw:Ak k [⟨[],vs.map λ y=>0,.dK ((ij 0 (vs.map ly)).filterMap BM).reverse⟩]≤125:=by
   exact(by decide:∀k<4,5^ (k-0)+0≤125) k (kq h3)
  have h0:iA∈l4 k:=mr h1 h3;have wh:= λ p1=>VF (n:=n) (u:=u) (L:=L) (o:=o) (p1:=p1) Q P PF PC G hp hc 125 [⟨[],vs.map λ y=>0,.dK ((ij 0 (vs.map ly)).filterMap BM).reverse⟩] iA 0 (λ x hx=>by rw[aj]at hx;subst hx;exact X) hw (by lia) h0;have e:vB vs m k [⟨[],vs.map λ y=>0,.dK ((ij 0 (vs.map ly)).filterMap BM).reverse⟩]=lv vs m k k [] (vs.map λ y=>0):=by unfold vB D_;simp
  rw[e]at wh;refine Ex.JK (ρ₂:=Ic c m k o vs ([⟨[],vs.map λ y=>0,.dK ((ij 0 (vs.map ly)).filterMap BM).reverse⟩].map Nd.d) iA 0) ?_ (by repeat (first|exact cx.nil|refine cx.cons (.inr rfl) ?_|refine cx.cons (.inl rfl) ?_));have td:(ir k o iA (lv vs m k k [] (vs.map λ y=>0))).1∈l4 k:=tc h1 h3 h4 _ _ (B5 V k 0 [] _ (by exact gO _) (oH.nil hk) (oT.start vs)) h0;generalize ir k o iA (lv vs m k k [] (vs.map λ y=>0))=r at wh td⊢;obtain⟨na,b⟩:=r;cases b with
  |true=>exact Ex.stop (ba.while (wh _)) rfl
  |false=>exact Ex.seq (ba.while (wh _)) (E0 PC G h1 h3 td rfl rfl)
end
theorem E2{vs:List Vo}{m k:Nat}(V:lj m vs)(h4:m≤4):∀(r t:Nat) (s:List Nat×List Rat),t+r=k→G3 vs m k t s→s.1.Sublist [0,1,2,3]→(rj vs m k r s).1.Sublist [0,1,2,3]:=by
 intro w
 induction w with
 |zero=>
  intro z z z z h;exact h
 |succ r ih=>
  intro t s e S h;rw[E3];refine ih (t+1) _ (by exact Bx e) (S.step V (by exact JT e)) ?_;have hx:=head_mem (d:=0) (s_ (vs:=vs) (m:=m) (k:=k) (com:=s.1) (ld:=s.2) (by have:=S.c.k;lia));have C:=S.c.next (by lia) (h_ V S.l S.c (by lia) hx) (k9 hx);exact v5 C.n C.r h4
noncomputable def md(vs:List Vo)(m k:Nat)(b:Bool)(o:Option Nat):List (List Nat):=
 if b=true then [(rj vs m k k ([],vs.map λ z=>0)).1]else fC k (ir k o iA (lv vs m k k [] (vs.map λ z=>0))).1
section
variable {c:Cx}{n:Nat}
noncomputable abbrev IP:List Str:=["profile","committeesize","algorithm","resolute","max_num_of_committees","rule_id","rule","committees","detailed_info"]
structure All(c:Cx):Prop where
 R:G4 c
 Q:LW c
 P:iB c
 PF:fh c
 PC:kd c
 G:PG c
theorem rQ(H:All c){u:rS}{L:Addr}{m k:Nat}{vs:List Vo}{b:Bool}{o:Option Nat}(V:lj m vs)(h4:m≤4)(h1:0<k)(hk:k≤m)(h3:b=false→k≤3)(ho:∀j,o=some j→0<j∧b=false):
  Ex c (n+16) (mM (Cs.fd (.ref 415) u) L 422 IP) [.val (o9 m vs),.val (.int (k:Int)),.val (.str "standard-fractions"),.val (.bool b),.val (my o),.no,.no,.no,.no] Cs.body (.ret (.lst ((md vs m k b o).map D.dm))):=by
 obtain⟨R,Q,P,PF,PC,G⟩:=H;refine Ex.seq (ba.asg 5 Ev.ny rfl (od rfl) (od rfl)) ?_;refine Ex.seq (ba.lh 6 (gz.call (by kernel_rfl) R.gR R.kR (ck.cons (Ev.nm 5 rfl rfl) .nil) .nil (C1 (n:=n+12) R G)) rfl (od rfl) (od rfl)) ?_;refine Ex.freeze 6 rfl rfl rfl ?_;refine Ex.seq (ba.ite (p:=false) (Tr.cmp (Ev.nm 2 rfl rfl) Ev.ny cB.Mr) (λ h=>by cases h) λ z=>Ex.nil) ?_;refine Ex.seq (ba.expr (Ev.Nh (Ev.nm 6 rfl rfl) R.mv rfl .nil (ou.cons (Ev.nm 0 rfl rfl) (ou.cons (Ev.nm 1 rfl rfl) (ou.cons (Ev.nm 2 rfl rfl) (ou.cons (Ev.nm 3 rfl rfl) (ou.cons (Ev.nm 4 rfl rfl) .nil))))) (yk (n:=n+10) R P PF G h4 h1 hk V.p V.l ho))) ?_;cases b with
 |true=>
  have hS:=G3.run V k 0 ([],vs.map λ z=>0) (by exact gO _) ⟨oH.nil hk,oT.start vs⟩;have ic:=E2 V h4 k 0 ([],vs.map λ z=>0) (by lia) ⟨oH.nil hk,oT.start vs⟩ (List.nil_sublist _);have Ob:=E1 (n:=n) Q P PF G V h4 hk;unfold md;rw[if_pos rfl];generalize rj vs m k k ([],vs.map λ z=>0)=s at hS ic Ob⊢;refine Ex.seq (ρ':=[.val (o9 m vs),.val (.int (k:Int)),.val (.str "standard-fractions"),.val (.bool true),.val (my o),.val (.str "seqphragmen"),.val yE,.val (.lst [.lst (D.nats s.1)]),.val .any]) (ba.ite (p:=true) (Tr.val (Ev.nm 3 rfl rfl) kA.bool) (λ z=>Ex.one (ba.PJ (Ev.call (by kernel_rfl) Q.gR Q.kR .nil (ou.cons (Ev.nm 0 rfl rfl) (ou.cons (Ev.nm 1 rfl rfl) (ou.cons (Ev.nm 2 rfl rfl) .nil))) Ob) (CQ 7 8 rfl (od rfl) (od rfl) rfl (od rfl) (od rfl)))) (λ h=>by cases h)) ?_;refine Ex.one (ba.ret (Ev.call (ds:=[.lst [.lst (D.nats s.1)]]) (by kernel_rfl) PC.gS PC.kS (ck.cons (Ev.nm 7 rfl rfl) .nil) .nil (xg (n:=n+4) (mk:= λ xs=>.lst (D.nats xs)) (css:=[s.1]) PC G (λ xs=>by show some (D.dm ((D.nats xs).filterMap natOf))=_;rw[pB]) (λ xs hx=>?_) (λ m' tg=>?_) (λ xs hx=>?_) (jG _ _) (by simp))))
  ·rw[aj]at hx;subst hx;exact jL.lst (n:=n+4) ic
  ·exact Ib.weak Ib.list λ ds e=>⟨[s.1],.refl _,e⟩
  ·rw[aj]at hx;subst hx;exact ic
 |false=>
  have h3:=h3 rfl;have Ou:=FF (n:=n) (o:=o) Q P PF PC G V h4 h1 h3 hk;have td:=tc (o:=o) h1 h3 h4 _ iA (B5 V k 0 [] _ (by lia) (oH.nil hk) (oT.start vs)) (mr h1 h3);unfold md;rw[if_neg (by decide)];generalize (ir k o iA (lv vs m k k [] (vs.map λ z=>0))).1=st at Ou td⊢;refine jH (wK h1 h3 td) λ q1 q2 q3=>?_;refine Ex.seq (ρ':=[.val (o9 m vs),.val (.int (k:Int)),.val (.str "standard-fractions"),.val (.bool false),.val (my o),.val (.str "seqphragmen"),.val yE,.val (.lst ((fC k st).map D.dm)),.val .any]) (ba.ite (p:=false) (Tr.val (Ev.nm 3 rfl rfl) kA.bool) (λ h=>by cases h) λ z=>Ex.one (ba.PJ (Ev.call (by kernel_rfl) Q.gI Q.kI .nil (ou.cons (Ev.nm 0 rfl rfl) (ou.cons (Ev.nm 1 rfl rfl) (ou.cons (Ev.nm 2 rfl rfl) (ou.cons (Ev.nm 4 rfl rfl) .nil)))) Ou) (CQ 7 8 rfl (od rfl) (od rfl) rfl (od rfl) (od rfl)))) ?_;exact Ex.one (ba.ret (Ev.call (ds:=[.lst ((fC k st).map D.dm)]) (by kernel_rfl) PC.gS PC.kS (ck.cons (Ev.nm 7 rfl rfl) .nil) .nil (xg (n:=n+4) (mk:=D.dm) (css:=fC k st) PC G (λ xs=>rfl) (λ xs hx=>jL.dm) (λ m' tg=>Ib.weak Ib.list λ ds e=>⟨_,.refl _,e⟩) q1 q2 q3)))
theorem wL(H:All c){m k:Nat}{vs:List Vo}(V:lj m vs)(h4:m≤4)(h1:0<k)(hk:k≤m):
  Fn c (n+17) (.ref 422) [o9 m vs,.int (k:Int)] [("algorithm",.str "standard-fractions")] (.lst ((md vs m k true none).map D.dm)):=by
 refine eX H.Q.IG λ u F p hp hc=>?_;refine xe H.Q.IM λ t hD=>?_;refine Fn.of (vn:=IP) (np:=5) [.pos 0,.pos 1,.kw 0,.dB true,.dN] F (by kernel_rfl) (by kernel_rfl) rfl rfl ?_ λ L=>rQ H (b:=true) (o:=none) V h4 h1 hk (λ h=>nomatch h) λ j h=>nomatch h;intro s vs ks S hv hk;refine iz (xy hv) λ a b z1=>?_;subst z1;refine xe (Qf hk) λ d z1=>?_;subst z1;exact hD.binds S rfl rfl rfl
theorem Bq(H:All c){m k:Nat}{vs:List Vo}(V:lj m vs)(h4:m≤4)(h1:0<k)(hk:k≤m)(h3:k≤3):
  Fn c (n+17) (.ref 422) [o9 m vs,.int (k:Int)] [("algorithm",.str "standard-fractions"),("resolute",.bool false)] (.lst ((md vs m k false none).map D.dm)):=by
 refine eX H.Q.IG λ u F p hp hc=>?_;refine xe H.Q.IM λ t hD=>?_;refine Fn.of (vn:=IP) (np:=5) [.pos 0,.pos 1,.kw 0,.kw 1,.dN] F (by kernel_rfl) (by kernel_rfl) rfl rfl ?_ λ L=>rQ H (b:=false) (o:=none) V h4 h1 hk (λ z=>h3) λ j h=>nomatch h;intro s vs ks S hv hk;refine iz (xy hv) λ a b z1=>?_;subst z1;refine iz (Ru hk) λ d e z1=>?_;subst z1;exact hD.binds S rfl rfl rfl
theorem Bp(H:All c){m k j:Nat}{vs:List Vo}(V:lj m vs)(h4:m≤4)(h1:0<k)(hk:k≤m)(h3:k≤3)(hj:0<j):
  Fn c (n+17) (.ref 422) [o9 m vs,.int (k:Int)] [("algorithm",.str "standard-fractions"),("resolute",.bool false),("max_num_of_committees",.int (j:Int))] (.lst ((md vs m k false (some j)).map D.dm)):=by
 refine eX H.Q.IG λ u F p hp hc=>?_;refine xe H.Q.IM λ t hD=>?_;refine Fn.of (vn:=IP) (np:=5) [.pos 0,.pos 1,.kw 0,.kw 1,.kw 2] F (by kernel_rfl) (by kernel_rfl) rfl rfl ?_ λ L=>rQ H (o:=some j) V h4 h1 hk (λ z=>h3) λ i h=>by cases h;exact⟨hj,rfl⟩
 intro s vs ks S hv hk;refine iz (xy hv) λ a b z1=>?_;subst z1;refine iq (Qe hk) λ d e f z1=>?_;subst z1;exact hD.binds S rfl rfl rfl
end
section
set_option backward.match.sparseCases false
theorem we{α β:Type}(a:α)(b:β):∀(l:List α) (r:List β),l.length=r.length→(aw l.length).map (λ i=>(l.getD i a,r.getD i b))=l.zip r:= λ l r h=>by
 refine j5 λ i=>?_
 by_cases hi:i<l.length
 ·have hz:i<(l.zip r).length:=by rw[lR];exact KJ h.symm hi
  rw[bR,qX hi,aq hz];simp[ai,hi,show i<r.length by exact fw hi h]
 ·rw[bk (by simp;exact cu hi),bk (by rw[lR];exact af (x5 _ _) (cu hi))]
theorem AX{α:Type}(a:α)(l:List α):(aw l.length).map (λ i=>l.getD i a)=l:=by
 refine j5 λ i=>?_
 by_cases hi:i<l.length
 ·rw[bR,qX hi];simp[ai,hi]
 ·rw[bk (by rw[aE,tw];exact cu hi),bk (cu hi)]
variable {rows:List Row}{purse:List Int}{unit:Int}{m k t x:Nat}{ld:List Rat}
theorem qu(rows:List Row)(x:Nat):eY rows x=fJ (dZ rows) x:=by
 have h:=AX ([],0) rows;unfold eY fJ dZ cU;rw[oZ,bI]
 conv=>rhs;rw[← h,oZ,bI]
 rfl
theorem zV:(cU rows x).isEmpty=false↔∃r∈rows,x∈r.1:=by
 unfold cU jo;constructor
 ·intro h;have h':(aw rows.length).filter (λ i=>decide (x∈(rows.getD i ([],0)).1))≠[]:=by intro e;rw[e]at h;cases h
  refine xe (List.exists_mem_of_ne_nil _ h') λ i hi=>?_;rw[aN,aO]at hi;rw[ai,aq hi.1]at hi;exact⟨_,f_ hi.1,by simpa using hi.2⟩
 ·rintro⟨r,hr,hx⟩
  obtain⟨i,hi,rfl⟩:=eW hr;have:i∈(aw rows.length).filter (λ i=>decide (x∈(rows.getD i ([],0)).1)):=by
   rw[aN,aO,ai,aq hi];exact⟨hi,by simpa using hx⟩
  cases hc:(aw rows.length).filter (λ i=>decide (x∈(rows.getD i ([],0)).1))with
  |nil=>rw[hc]at this;cases this
  |cons a l=>rfl
noncomputable def AZ(rows:List Row)(purse:List Int)(x:Nat):Int:=(((rows.zip purse).filter λ p=>decide (x∈p.1.1)).map (·.2)).sum
theorem H_(h:rows.length=purse.length):fX rows purse unit x=unit-AZ rows purse x:=by
 unfold fX AZ cU jo;rw[← we ([],0) 0 rows purse h,oZ,bI];rfl
theorem GU{n9 n4:Int}(h:rows.length=purse.length):kQ rows purse n9 n4 x=(rows.zip purse).map λ p=>if x∈p.1.1 then 0 else p.2*n4+p.1.2*n9:=by
 rw[← we ([],0) 0 rows purse h,bI];rfl
noncomputable def PR(U T:Rat):List Row→List Rat→List Int→Prop
 |[],[],[]=>True
 |r::rows,q::ld,p::ps=>(p:Rat)=U*(r.2:Rat)*(T-q)∧q≤T∧PR U T rows ld ps
 |_,_,_=>False
@[elab_as_elim] theorem PR.ind {U T:Rat} {M:List Row→List Rat→List Int→Prop} {rows:List Row} {ld:List Rat} {ps:List Int} (h:PR U T rows ld ps) (m0:M [] [] []) (m1:∀(r:Row) (rows:List Row) (q:Rat) (ld:List Rat) (p:Int) (ps:List Int),(p:Rat)=U*(r.2:Rat)*(T-q)→q≤T→M rows ld ps→M (r::rows) (q::ld) (p::ps)):M rows ld ps:=by
 induction rows generalizing ld ps with
 |nil=>
  cases ld with
  |nil=>
   cases ps with
   |nil=>exact m0
   |cons=>exact h.elim
  |cons=>exact h.elim
 |cons r rows ih=>
  cases ld with
  |nil=>exact h.elim
  |cons q ld=>
   cases ps with
   |nil=>exact h.elim
   |cons p ps=>exact m1 r rows q ld p ps h.1 h.2.1 (ih h.2.2)
theorem PR.len{U T:Rat}{rows:List Row}{ld:List Rat}{ps:List Int}(h:PR U T rows ld ps):ld.length=rows.length∧ps.length=rows.length:=
 h.ind ⟨rfl,rfl⟩ λ _ _ _ _ _ _ _ _ ih=>⟨congrArg uW ih.1,congrArg uW ih.2⟩
theorem Ri{r:Row}{rows:List Row}{p:Int}{ps:List Int}{x:Nat}(h:x∈r.1):AZ (r::rows) (p::ps) x=p+AZ rows ps x:=
 congrArg (λ l=>(fN (λ p:Row×Int=>p.2) l).sum) (bY (p:= λ p:Row×Int=>decide (x∈p.1.1)) (a:=(r,p)) (decide_eq_true h))
theorem Rj{r:Row}{rows:List Row}{p:Int}{ps:List Int}{x:Nat}(h:x∉r.1):AZ (r::rows) (p::ps) x=AZ rows ps x:=
 congrArg (λ l=>(fN (λ p:Row×Int=>p.2) l).sum) (bZ (p:= λ p:Row×Int=>decide (x∈p.1.1)) (a:=(r,p)) λ e=>h (of_decide_eq_true e))
theorem PR.sum{U T:Rat}(x:Nat){rows:List Row}{ld:List Rat}{ps:List Int}(h:PR U T rows ld ps):((AZ rows ps x:Int):Rat)=U*(T*((fJ (dZ rows) x:Int):Rat) -(lT (dZ rows) ld x).sum):=
 h.ind (by show((0:Int):Rat)=U*(T*((0:Int):Rat) -0);grind) λ r rows q ld p ps h1 _ ih=>by
  by_cases hx:x∈r.1
  ·show _=U*(T*((fJ ((r.2,r.1)::dZ rows) x:Int):Rat) -(lT ((r.2,r.1)::dZ rows) (q::ld) x).sum);rw[Ri hx,PK hx,IU hx,fO,fO,ih,h1];grind
  ·show _=U*(T*((fJ ((r.2,r.1)::dZ rows) x:Int):Rat) -(lT ((r.2,r.1)::dZ rows) (q::ld) x).sum);rw[Rj hx,PL hx,IV hx,ih]
noncomputable def yl(vs:List Vo)(ld:List Rat)(x:Nat)(z:Rat):List Rat:=(vs.zip ld).map λ p=>if x∈p.1.2 then z else p.2
theorem I5{v:Vo}{vs:List Vo}{q:Rat}{ld:List Rat}{x:Nat}{z:Rat}(M:List Rat→Prop)(h1:x∈v.2→M (z::yl vs ld x z))(h2:x∉v.2→M (q::yl vs ld x z)):M (yl (v::vs) (q::ld) x z):=by
 show M ((if x∈v.2 then z else q)::yl vs ld x z)
 split
 ·exact h1 ‹_›
 ·exact h2 ‹_›
theorem PR.after{U T z W:Rat}{n9 n4:Int}(hp:(n4:Rat)=W)(hl:(n9:Rat)=U*W*(z-T))(hz:T≤z){rows:List Row}{ld:List Rat}{ps:List Int}(h:PR U T rows ld ps):PR (U*W) z rows (yl (dZ rows) ld x z) ((rows.zip ps).map λ p=>if x∈p.1.1 then 0 else p.2*n4+p.1.2*n9):=
 h.ind trivial λ r rows q ld p ps h1 h2 ih=>by
  rw[List.zip_cons_cons,a9];refine I5 (v:=(r.2,r.1)) (λ l=>PR (U*W) z (r::rows) l _) (λ hx=>?_) λ hx=>?_
  ·rw[if_pos hx];exact⟨by rw[Rat.intCast_zero];grind,eo,ih⟩
  ·rw[if_neg hx];refine⟨?_,dM h2 hz,ih⟩;rw[fO,bH,bH,h1,hp,hl];grind
theorem PR.more{U T z:Rat}(y:Nat)(hz:T≤z){rows:List Row}{ld:List Rat}{ps:List Int}(hw:∀r∈rows,0<r.2)(h:PR U T rows ld ps):(lT (dZ rows) ld y).sum≤(lT (dZ rows) (yl (dZ rows) ld x z) y).sum:=by
 revert hw;refine h.ind (λ _=>eo) λ r rows q ld p ps _ h2 ih hw=>?_;have ih:=ih λ r h=>hw r (.tail _ h);have w:(0:Rat)≤(r.2:Rat):=g_.mpr (bJ (hw r (.head _)));have key:∀q':Rat,q≤q'→(lT ((r.2,r.1)::dZ rows) (q::ld) y).sum≤(lT ((r.2,r.1)::dZ rows) (q'::yl (dZ rows) ld x z) y).sum:= λ q' hq=>by
  by_cases hy:y∈r.1
  ·rw[IU hy,IU hy];exact Ub (eE hq w) ih
  ·rw[IV hy,IV hy];exact ih
 exact I5 (v:=(r.2,r.1)) (λ l=>_≤(lT (dZ (r::rows)) l y).sum) (λ _=>key z (dM h2 hz)) λ _=>key q eo
theorem PR.bound{U T M:Rat}(hU:0≤U)(hM:U*12*T≤M){rows:List Row}{ld:List Rat}{ps:List Int}(hw:∀r∈rows,0<r.2∧r.2≤12)(hq:∀q∈ld,0≤q)(h:PR U T rows ld ps):∀p∈ps,0≤p∧(p:Rat)≤M:=by
 revert hw hq;refine h.ind (λ _ _ _ h=>nn h) λ r rows q ld p ps h1 h2 ih hw hq p' Ao=>?_
 rcases mc Ao with rfl|Ao
 ·have w:=hw r (.head _);have w0:(0:Rat)≤(r.2:Rat):=g_.mpr (bJ w.1);have w1:(r.2:Rat)≤((12:Int):Rat):=bW.mpr w.2;have d0:0≤T-q:=by grind
  have d1:T-q≤T:=by have:=hq q (.head _);grind
  rw[h1];exact⟨g_.mp (by rw[h1];exact qQ (qQ hU w0) d0),dM (eE (lN w1 hU) d0) (dM (lN d1 (qQ hU (by decide))) hM)⟩
 ·exact ih (λ r h=>hw r (.tail _ h)) (λ z h=>hq z (.tail _ h)) p' Ao
end
section
noncomputable abbrev LS:=List Nat×List Int×Int
structure fD(m:Nat)(rows:List Row):Prop where
 r:∀r∈rows,Cz m r
 l:rows.length≤3
 p:0<rows.length
variable {rows:List Row}{m k t x:Nat}{ld:List Rat}{s:LS}
theorem fD.vs(H:fD m rows):lj m (dZ rows):=by
 refine⟨by unfold dZ;rw[aE];exact H.l,by unfold dZ;rw[aE];exact H.p,λ v hv=>?_,λ v hv=>?_⟩<;>refine jw hv λ r hr=>?_
 ·exact(H.r r hr).2.2
 ·exact(H.r r hr).1
theorem fD.w(H:fD m rows):∀r∈rows,0<r.2∧r.2≤12:= λ r hr=>(H.r r hr).2.2
structure Rel(rows:List Row)(m k t:Nat)(s:LS)(ld:List Rat):Prop where
 C:oH m k t s.1
 L:oT (dZ rows) t ld
 U:0<s.2.2∧s.2.2≤36^t
 T:∃T:Rat,PR (s.2.2:Rat) T rows ld s.2.1∧0≤T∧T≤((t:Int):Rat)∧∀y,y∉s.1→0<fJ (dZ rows) y→T*((fJ (dZ rows) y:Int):Rat)≤(lT (dZ rows) ld y).sum+1
theorem Rel.nx(H:fD m rows)(R:Rel rows m k t s ld)(ht:t≤4):BB rows s.2.1 s.2.2:=by
 refine eG R.T λ T hP SX Ln z=>?_;have QB:(0:Rat)≤(s.2.2:Rat):=g_.mpr (bJ R.U.1);have Vf:=yM ht;have SW:(s.2.2:Rat)≤((36^4:Int):Rat):=bW.mpr (ec R.U.2 Vf);have Eg:T≤((4:Int):Rat):=dM Ln (bW.mpr (by exact ki.mpr ht));have hM:(s.2.2:Rat)*12*T≤((36^4*12*4:Int):Rat):=by
  have a1:=eE SW SX;have a2:=lN Eg (show(0:Rat)≤((36^4:Int):Rat)from g_.mpr (by decide));have e:((36^4*12*4:Int):Rat)=12*(((36^4:Int):Rat)*((4:Int):Rat)):=by rw[← bH,show(12:Rat)=((12:Int):Rat)from rfl,← bH];rfl
  rw[e];grind
 have hb:=PR.bound QB hM H.w (λ q hq=>(R.L.b q hq).1) hP;refine⟨H.l,hP.len.2,H.w,λ p hp=>⟨(hb p hp).1,?_⟩,R.U.1,b9 (ec R.U.2 Vf) (by decide)⟩;exact b9 (bW.mp (hb p hp).2) (by decide)
theorem tq(H:fD m rows)(R:Rel rows m k t s ld):(cU rows x).isEmpty=false↔0<fJ (dZ rows) x:=by
 refine b_ (R.L.pos H.vs x) λ z z h3 h4=>?_;rw[zV];constructor
 ·rintro⟨r,hr,hx⟩
  refine dr λ h=>h4 (by lia) (r.2,r.1) ?_ hx;exact aM.mpr ⟨r,hr,rfl⟩
 ·intro h;refine dr λ hn=>?_;have:fJ (dZ rows) x=0:=by
   unfold fJ;rw[j9.mpr λ v hv=>?_];rfl;refine jw hv λ r hr=>?_;simp only[decide_eq_true_eq];exact λ hx=>hn ⟨r,hr,hx⟩
  lia
noncomputable def HZ(rows:List Row)(m:Nat)(s:LS)(x:Nat):List Int×Int:=
 if fL rows m s.1 s.2.1 s.2.2=[]then s.2 else(kQ rows s.2.1 (fX rows s.2.1 s.2.2 x) (eY rows x) x,s.2.2*eY rows x)
theorem FA(R:Rel rows m k t s ld){T:Rat}(hP:PR (s.2.2:Rat) T rows ld s.2.1)(x:Nat):((fX rows s.2.1 s.2.2 x:Int):Rat)=(s.2.2:Rat)*((lT (dZ rows) ld x).sum+1-T*((fJ (dZ rows) x:Int):Rat)):=by
 rw[H_ hP.len.2.symm,Rat.intCast_sub,hP.sum x];grind
theorem lG(H:fD m rows)(R:Rel rows m k t s ld)(ht:t<k):jJ rows m s.1 s.2.1 s.2.2=(eV (dZ rows) m k s.1 ld).map (λ x=>(x,HZ rows m s x))∧∀x∈eV (dZ rows) m k s.1 ld,Rel rows m k (t+1) (s.1++[x],HZ rows m s x) (upd (dZ rows) k s.1 ld x):=by
 refine eG R.T λ T hP SX Ln Eg=>?_;have V:=H.vs;have hU:(0:Rat)<(s.2.2:Rat):=ph.mpr R.U.1;have Jy:fL rows m s.1 s.2.1 s.2.2=[]↔∀y,y<m→y∉s.1→¬0<fJ (dZ rows) y:=by
  unfold fL fH;rw[qW,j9];refine forall_congr' λ y=>?_;rw[aN,aO];have:=tq (x:=y) H R;constructor
  ·intro h h1 h2 h3;rw[← this]at h3;exact h ⟨h1,by simpa using h2⟩ (by rw[h3];rfl)
  ·rintro h ⟨h1,h2⟩ h3
   refine h h1 (by simpa using h2) (this.mp ?_);simpa using h3
 by_cases hw:fL rows m s.1 s.2.1 s.2.2=[]
 ·have RW:=Jy.mp hw;have ht:eV (dZ rows) m k s.1 ld=fH m s.1:=by
   rw[← l7];refine m8 λ y hy=>?_;have hy:=aO.mp hy
   by_cases uq:y∈s.1
   ·rw[decide_eq_false (λ h=>h_ V R.L R.C ht h uq),decide_eq_true uq];rfl
   ·rw[decide_eq_false uq];refine decide_eq_true (lC.mpr ⟨hy,λ z hz=>?_⟩);rw[qw V R.L uq (RW y hy uq)]
    by_cases RM:z∈s.1
    ·rw[xp RM];exact bW.mpr (by lia)
    ·rw[qw V R.L RM (RW z hz RM)];exact eo
  have hg:∀x,HZ rows m s x=s.2:= λ x=>by unfold HZ;rw[if_pos hw]
  refine⟨?_,λ x hx=>?_⟩
  ·unfold jJ;rw[if_pos hw,ht];exact cj λ x j=>by rw[hg]
  ·have ho:=h_ V R.L R.C (by lia) hx;have hm:=k9 hx;have FT:=RW x hm ho;have hu:upd (dZ rows) k s.1 ld x=ld:=by
    refine b_ (R.L.pos V x) λ j j h3 h4=>?_;have:=h4 (by lia);unfold upd;rw[cj (g:=Prod.snd) λ p hp=>if_neg (this _ (s8 hp).1),List.map_snd_zip (by rw[R.L.l];exact az _)]
   rw[hg];have L':=tI (k:=k) V R.L ho;rw[hu]at L'⊢;refine⟨R.C.next (by lia) ho hm,L',⟨R.U.1,ec R.U.2 (by rw[uX];have:(0:Int)<36^t:=wU (by decide);lia)⟩,T,hP,SX,dM Ln (bW.mpr (by lia)),λ y hy hp=>Eg y (λ h=>hy (aF _ h)) hp⟩
 ·have Cm:∀y,0<fJ (dZ rows) y→(0:Rat)<((fJ (dZ rows) y:Int):Rat):= λ y h=>ph.mpr h;have Ed:∀y,y∉s.1→0<fJ (dZ rows) y→((fX rows s.2.1 s.2.2 y:Int):Rat)=(s.2.2:Rat)*((fJ (dZ rows) y:Int):Rat)*(jb (dZ rows) k s.1 ld y-T):= λ y hy hp=>by
   have:=(oC (k:=k) V R.L hy hp).2.2;rw[FA R hP];grind
  have OF:∀y z,y∉s.1→0<fJ (dZ rows) y→z∉s.1→0<fJ (dZ rows) z→(fX rows s.2.1 s.2.2 y*eY rows z<fX rows s.2.1 s.2.2 z*eY rows y↔jb (dZ rows) k s.1 ld y<jb (dZ rows) k s.1 ld z):= λ y z hy hyp hz Ur=>by
   rw[← Rat.intCast_lt_intCast,bH,bH,Ed y hy hyp,Ed z hz Ur,qu,qu];have hc:(0:Rat)<(s.2.2:Rat)*(((fJ (dZ rows) y:Int):Rat)*((fJ (dZ rows) z:Int):Rat)):=Rat.mul_pos hU (Rat.mul_pos (Cm y hyp) (Cm z Ur));have e1:(s.2.2:Rat)*((fJ (dZ rows) y:Int):Rat)*(jb (dZ rows) k s.1 ld y-T)*((fJ (dZ rows) z:Int):Rat)=(s.2.2:Rat)*(((fJ (dZ rows) y:Int):Rat)*((fJ (dZ rows) z:Int):Rat))*(jb (dZ rows) k s.1 ld y-T):=by grind
   have e2:(s.2.2:Rat)*((fJ (dZ rows) z:Int):Rat)*(jb (dZ rows) k s.1 ld z-T)*((fJ (dZ rows) y:Int):Rat)=(s.2.2:Rat)*(((fJ (dZ rows) y:Int):Rat)*((fJ (dZ rows) z:Int):Rat))*(jb (dZ rows) k s.1 ld z-T):=by grind
   rw[e1,e2,Rat.mul_lt_mul_left hc];constructor<;>intro h<;>grind
  obtain⟨y0,Wq,RQ,RS⟩:∃y,y<m∧y∉s.1∧0<fJ (dZ rows) y:=dr λ hn=>hw (Jy.mpr λ y h1 h2 h3=>hn ⟨y,h1,h2,h3⟩);have N1:∀x∈eV (dZ rows) m k s.1 ld,0<fJ (dZ rows) x:= λ x hx=>dr λ hn=>by
   have h1:=(lC.mp hx).2 y0 Wq;have h2:=(oC (k:=k) V R.L RQ RS).2.1;rw[qw V R.L (h_ V R.L R.C ht hx) hn]at h1;have:=bW.mp (dM h1 h2);lia
  have hg:∀x,HZ rows m s x=(kQ rows s.2.1 (fX rows s.2.1 s.2.2 x) (eY rows x) x,s.2.2*eY rows x):= λ x=>by unfold HZ;rw[if_neg hw]
  refine⟨?_,λ x hx=>?_⟩
  ·unfold jJ;rw[if_neg hw];unfold Go;have e:fL rows m s.1 s.2.1 s.2.2=((fH m s.1).filter λ x=> !(cU rows x).isEmpty).map λ x=>(fX rows s.2.1 s.2.2 x,eY rows x,x):=rfl;have pD:∀y,y∈(fH m s.1).filter (λ x=> !(cU rows x).isEmpty)↔y<m∧y∉s.1∧0<fJ (dZ rows) y:= λ y=>by
    unfold fH;rw[aN,aN,aO,← tq (x:=y) H R];simp[and_assoc]
   have e2:eV (dZ rows) m k s.1 ld=((fH m s.1).filter λ x=> !(cU rows x).isEmpty).filter λ x=>((fL rows m s.1 s.2.1 s.2.2).filter λ o=>decide (o.1*eY rows x<fX rows s.2.1 s.2.2 x*o.2.1)).isEmpty:=by
    rw[← l7];unfold fH;rw[List.filter_filter,List.filter_filter];refine m8 λ x hx=>?_;have hx:=aO.mp hx;rw[o4];simp only[decide_eq_true_eq,bg,j7,List.isEmpty_iff,j9,decide_eq_false_iff_not];rw[tq (x:=x) H R];constructor
    ·intro Ma;have Jx:=h_ V R.L R.C ht Ma;have FR:=N1 x Ma;refine⟨⟨λ o ho gy=>?_,FR⟩,Jx⟩;rw[e]at ho;refine cW (aM.mp ho) λ y hy z1=>?_;subst z1;refine jH ((pD y).mp hy) λ KZ NS Wo=>?_;have:=(OF y x NS Wo Jx FR).mp gy;exact Rat.not_lt.mpr ((lC.mp Ma).2 y KZ) this
    ·rintro⟨⟨pE,FR⟩,Jx⟩
     refine lC.mpr ⟨hx,λ y hy=>?_⟩
     by_cases uq:y∈s.1
     ·rw[xp uq];exact dM (A7 V R.L ht Jx) (bW.mpr (by lia))
     ·by_cases hyp:0<fJ (dZ rows) y
      ·refine Rat.not_lt.mp λ gy=>pE (fX rows s.2.1 s.2.2 y,eY rows y,y) ?_ ((OF y x uq hyp Jx FR).mpr gy);rw[e];exact aM.mpr ⟨y,(pD y).mpr ⟨hy,uq,hyp⟩,rfl⟩
      ·rw[qw V R.L uq hyp];exact A7 V R.L ht Jx
   rw[e2]
   conv=>lhs;rw[e,oZ,bI]
   rw[← e];refine cj λ x j=>?_;rw[hg];rfl
  ·have ho:=h_ V R.L R.C ht hx;have hm:=k9 hx;have FR:=N1 x hx;have hn:=oC (k:=k) V R.L ho FR;have Xx:=Cm x FR;have U8:T≤jb (dZ rows) k s.1 ld x:=mI (c:=((fJ (dZ rows) x:Int):Rat)) (by rw[hn.2.2];exact Eg x ho FR) Xx;have NW:upd (dZ rows) k s.1 ld x=yl (dZ rows) ld x (jb (dZ rows) k s.1 ld x):=rfl;rw[hg];refine⟨R.C.next ht ho hm,tI V R.L ho,⟨?_,?_⟩,jb (dZ rows) k s.1 ld x,?_,hn.1,by exact_mod_cast hn.2.1,λ y hy hyp=>?_⟩
   ·show 0<s.2.2*eY rows x;rw[qu];exact qP R.U.1 FR
   ·show s.2.2*eY rows x≤36^ (t+1);rw[qu,uX];exact z9 R.U.2 (oG V x).2 (bJ FR) (bJ (wU (by decide)))
   ·show PR ((s.2.2*eY rows x:Int):Rat) _ rows _ (kQ rows s.2.1 (fX rows s.2.1 s.2.2 x) (eY rows x) x);rw[GU hP.len.2.symm,NW,bH];have hp:((eY rows x:Int):Rat)=((fJ (dZ rows) x:Int):Rat):=by rw[qu]
    rw[hp];exact PR.after hp (Ed x ho FR) U8 hP
   ·have uq:y∉s.1:= λ h=>hy (aF _ h);have WN:=oC (k:=k) V R.L uq hyp;have hle:(jb (dZ rows) k s.1 ld x)*((fJ (dZ rows) y:Int):Rat)≤(jb (dZ rows) k s.1 ld y)*((fJ (dZ rows) y:Int):Rat):=by
     by_cases Us:y<m
     ·exact eE ((lC.mp hx).2 y Us) (Rat.le_of_lt (Cm y hyp))
     ·exfalso;refine cW (zV.mp ((tq (x:=y) H R).mpr hyp)) λ r hr Wj=>?_;exact Us ((H.r r hr).2.1 y Wj)
    have UI:=PR.more (x:=x) y U8 (λ r hr=>(H.w r hr).1) hP;rw[NW];rw[WN.2.2]at hle
    grind
end
section
variable {rows:List Row}{m k t x:Nat}{ld:List Rat}{s:LS}
theorem List.oi{α β:Type}{f g:α→List β}{l:List α}(h:∀a∈l,f a=g a):l.flatMap f=l.flatMap g:=by
 induction l with
 |nil=>rfl
 |cons a l ih=>rw[j4,j4,h a (.head _),ih λ b hb=>h b (.tail _ hb)]
noncomputable def lE(b:Bool)(rows:List Row)(m:Nat)(s:LS):List LS:=(if b then(jJ rows m s.1 s.2.1 s.2.2).take 1 else jJ rows m s.1 s.2.1 s.2.2).map λ x=>(s.1++[x.1],x.2.1,x.2.2)
noncomputable def lD(b:Bool)(rows:List Row)(m:Nat):Nat→Nat→List LS→Nat×List LS
 |0,cZ,ss=>(cZ,ss)
 |r+1,cZ,ss=>if b=false∧4<ss.length then(cZ,ss)else lD b rows m r (cZ+1) (ss.flatMap (lE b rows m))
theorem ri(b:Bool)(rows:List Row)(m r cZ:Nat)(ss:List LS):lD b rows m (r+1) cZ ss=if b=false∧4<ss.length then(cZ,ss)else lD b rows m r (cZ+1) (ss.flatMap (lE b rows m)):=rfl
theorem Q_(b:Bool)(rows:List Row)(m cZ:Nat)(ss:List LS):lD b rows m 0 cZ ss=(cZ,ss):=rfl
noncomputable def iE(rows:List Row):LS:=([],rows.map (λ z=>0),1)
theorem xl{b:Bool}(r cZ:Nat)(ss:List LS):cZ≤(lD b rows m r cZ ss).1∧(lD b rows m r cZ ss).1≤cZ+r:=by
 induction r generalizing cZ ss with
 |zero=>exact⟨az _,az _⟩
 |succ r ih=>
  rw[ri]
  split
  ·exact⟨az _,cD _ _⟩
  ·have h:=ih (cZ+1) (ss.flatMap (lE b rows m));exact⟨iC h.1,af h.2 (de (dq cZ 1 r))⟩
theorem Rel.start(H:fD m rows)(hk:k≤m):Rel rows m k 0 (iE rows) ((dZ rows).map λ z=>0):=by
 refine⟨oH.nil hk,oT.start _,⟨by show(0:Int)<1;decide,by show(1:Int)≤36^0;decide⟩,0,?_,eo,eo,λ y z z=>?_⟩
 ·show PR ((1:Int):Rat) 0 rows _ (rows.map λ z=>0);clear H
  induction rows with
  |nil=>trivial
  |cons r rows ih=>exact⟨by grind,eo,ih⟩
 ·rw[Rat.zero_mul];have:=(oT.start (dZ rows)).pos H.vs y;have h1:=this.1
  grind
noncomputable def HY(rows:List Row)(m k:Nat)(P:List (LS×List Rat)):List (LS×List Rat):=P.flatMap λ p=>(eV (dZ rows) m k p.1.1 p.2).map λ x=>((p.1.1++[x],HZ rows m p.1 x),upd (dZ rows) k p.1.1 p.2 x)
theorem HX(H:fD m rows){cZ:Nat}(h:cZ<k){P:List (LS×List Rat)}(hR:∀p∈P,Rel rows m k cZ p.1 p.2):(P.map (·.1)).flatMap (lE false rows m)=(HY rows m k P).map (·.1)∧∀p∈HY rows m k P,Rel rows m k (cZ+1) p.1 p.2:=by
 refine⟨?_,λ p' Ao=>?_⟩
 ·unfold HY;rw[vo,List.map_flatMap];exact List.oi λ p hp=>by
   show fN _ (jJ rows m p.1.1 p.1.2.1 p.1.2.2)=_;rw[(lG H (hR p hp) h).1,bI,bI];rfl
 ·refine cW (kZ.mp Ao) λ p hp Ao=>?_;exact jw Ao λ x hx=>(lG H (hR p hp) h).2 x hx
theorem B4(rows:List Row)(m k:Nat)(P:List (LS×List Rat)):(P.map (·.1)).map (·.1)=P.flatMap λ p=>lv (dZ rows) m k (k-k) p.1.1 p.2:=by
 simp only[DY,KN];rw[bI,← List.map_eq_flatMap];rfl
theorem HJ(H:fD m rows)(hk:k≤m)(r cZ:Nat)(P:List (LS×List Rat))(e:(lD false rows m r cZ (P.map (·.1))).1=k)(hR:∀p∈P,Rel rows m k cZ p.1 p.2):(lD false rows m r cZ (P.map (·.1))).2.map (·.1)=P.flatMap λ p=>lv (dZ rows) m k (k-cZ) p.1.1 p.2:=by
 induction r generalizing cZ P with
 |zero=>obtain rfl:cZ=k:=e;exact B4 rows m cZ P
 |succ r ih=>
  rw[ri]at e⊢
  split at e
  ·obtain rfl:cZ=k:=e;rw[if_pos ‹_›];exact B4 rows m cZ P
  ·rename_i hb;rw[if_neg hb];have gy:cZ<k:=fw (xl (b:=false) (rows:=rows) (m:=m) r (cZ+1) _).1 e;refine xa (HX H gy hR) λ e1 h2=>?_;rw[e1]at e⊢;rw[ih (cZ+1) _ e h2];unfold HY;rw[List.flatMap_assoc];exact List.oi λ p hp=>by rw[Ke gy,H5,vo]
theorem yu{a b:List Nat}(h:a.Perm b):cJ a=cJ b:=by
 unfold cJ;rw[pn ((mT _).trans (h.map _)) (mS _)]
theorem Dc{vs:List Vo}{a b:List Nat}(h:∀y,y∈a↔y∈b)(x:Nat):jb vs k a ld x=jb vs k b ld x:=by
 unfold jb
 by_cases hx:x∈a
 ·rw[if_pos hx,if_pos ((h x).mp hx)]
 ·rw[if_neg hx,if_neg λ hb=>hx ((h x).mpr hb)]
theorem AI{vs:List Vo}{a b:List Nat}(h:∀y,y∈a↔y∈b):eV vs m k a ld=eV vs m k b ld∧∀x,upd vs k a ld x=upd vs k b ld x:=by
 have e:jb vs k a ld=jb vs k b ld:=funext (Dc h);unfold eV nA upd;rw[e];exact⟨rfl,λ x=>rfl⟩
theorem take_one{α β:Type}(d:α){f:α→β}:∀{l:List α},l≠[]→(l.map f).take 1=[f (l.headD d)]
 |[],h=>absurd rfl h
 |a::l,_=>rfl
theorem t6(H:fD m rows)(R:Rel rows m k t s ld)(ht:t<k):∃x,x∈eV (dZ rows) m k s.1 ld∧(eV (dZ rows) m k s.1 ld).headD 0=x∧lE true rows m s=[(s.1++[x],HZ rows m s x)]:=by
 have ku:eV (dZ rows) m k s.1 ld≠[]:=s_ (by have:=R.C.k;lia);refine⟨_,head_mem (d:=0) ku,rfl,?_⟩;unfold lE;rw[if_pos rfl,(lG H R ht).1,take_one 0 ku];rfl
theorem xj(r t:Nat){s s1:LS}(h:lE true rows m s=[s1]):lD true rows m (r+1) t [s]=lD true rows m r (t+1) [s1]:=by
 rw[ri,if_neg (λ h=>bz h.1),List.flatMap_singleton,h]
theorem yD(H:fD m rows)(r t:Nat)(s:LS)(ld:List Rat)(R:Rel rows m k t s ld)(e:t+r=k):∃s' Qc,lD true rows m r t [s]=(t+r,[s'])∧Rel rows m k k s' Qc∧(r≠0→(rj (dZ rows) m k r (cJ s.1,ld)).1=cJ s'.1):=by
 induction r generalizing t s ld with
 |zero=>exact⟨s,ld,rfl,(show t=k from e)▸R,λ h=>absurd rfl h⟩
 |succ r ih=>
  refine cH (t6 H R (JT e)) λ x hx hh ho=>?_;refine dj (ih (t+1) _ _ ((lG H R (JT e)).2 x hx) (Bx e)) λ s' Qc h1 h2 h3=>?_;refine⟨s',Qc,(xj r t ho).trans (h1.trans (congrArg (·,[s']) (dq t 1 r))),h2,λ z=>?_⟩;refine xa (AI (vs:=dZ rows) (m:=m) (k:=k) (ld:=ld) (a:=cJ s.1) (b:=s.1) λ y=>(eK s.1).mem_iff) λ e1 e2=>?_;have es:qk (dZ rows) m k (cJ s.1,ld)=(cJ (s.1++[x]),upd (dZ rows) k s.1 ld x):=by
   unfold qk;simp only[e1,e2,hh];rw[yu ((eK s.1).append_right [x])]
  rw[E3,es];cases r with
  |zero=>injection h1 with _ h1;injection h1 with h1;rw[← h1];rfl
  |succ r=>exact h3 (Nat.succ_ne_zero r)
theorem C0(H:fD m rows)(r t:Nat)(s:LS)(ld:List Rat)(R:Rel rows m k t s ld)(e:t+(r+1)≤k):∃s1 s2:LS,lD true rows m r t [s]=(t+r,[s1])∧lD true rows m (r+1) t [s]=(t+(r+1),[s2])∧∀y∈s1.1,y∈s2.1:=by
 induction r generalizing t s ld with
 |zero=>
  refine cH (t6 H R e) λ x hx hh ho=>?_;exact⟨s,(s.1++[x],HZ rows m s x),rfl,xj 0 t ho,λ y hy=>aF [x] hy⟩
 |succ r ih=>
  refine cH (t6 H R (IZ e)) λ x hx hh ho=>?_;refine dj (ih (t+1) _ _ ((lG H R (IZ e)).2 x hx) (GX e)) λ s1 s2 h1 h2 h3=>?_;exact⟨s1,s2,(xj r t ho).trans (h1.trans (congrArg (·,[s1]) (dq t 1 r))),(xj (r+1) t ho).trans (h2.trans (congrArg (·,[s2]) (dq t 1 (r+1)))),h3⟩
noncomputable def pJ:List (List Nat)→List (List Nat)→List (List Nat)
 |[],acc=>acc
 |d::ds,acc=>pJ ds (if cJ d∈acc then acc else acc++[cJ d])
theorem Gw(d:List Nat)(ds acc:List (List Nat)):pJ (d::ds) acc=pJ ds (if cJ d∈acc then acc else acc++[cJ d]):=rfl
theorem TG(acc:List (List Nat)):pJ [] acc=acc:=rfl
theorem IK(ds acc:List (List Nat))(h:acc.Nodup):(pJ ds acc).Nodup∧∀c,c∈pJ ds acc↔c∈acc∨∃d∈ds,c=cJ d:=by
 induction ds generalizing acc with
 |nil=>exact⟨h,λ c=>⟨.inl,λ h=>h.elim id λ ⟨_,h,_⟩=>nn h⟩⟩
 |cons d ds ih=>
  have key:∀uS:List (List Nat),uS.Nodup→(∀c,c∈uS↔c∈acc∨c=cJ d)→(pJ ds uS).Nodup∧∀c,c∈pJ ds uS↔c∈acc∨∃e∈d::ds,c=cJ e:= λ uS hn hc=>
   ⟨(ih uS hn).1,λ c=>((ih uS hn).2 c).trans ⟨λ h=>h.elim (λ h=>((hc c).mp h).imp id λ e=>⟨d,.head _,e⟩) λ ⟨e,he,q⟩=>.inr ⟨e,.tail _ he,q⟩,λ h=>h.elim (λ h=>.inl ((hc c).mpr (.inl h))) λ ⟨e,he,q⟩=>(mc he).elim (λ z=>.inl ((hc c).mpr (.inr (z▸q)))) λ he=>.inr ⟨e,he,q⟩⟩⟩
  rw[Gw]
  split
  ·exact key acc h λ c=>⟨.inl,λ h=>h.elim id λ e=>e▸‹cJ d∈acc›⟩
  ·exact key _ (j0.mpr ⟨h,jG _ _,λ a ha b hb e=> ‹cJ d∉acc› (m1 hb▸e▸ha)⟩) λ c=>aC.trans (or_congr_right aj)
noncomputable def IJ(k:Nat)(tj:List (List Nat)):List (List Nat):=(j_ k).filter λ c=>decide (c∈tj)
theorem DE{tj:List (List Nat)}(h1:1≤k)(h3:k≤3)(hn:tj.Nodup)(hd:∀c∈tj,c∈j_ k):(IJ k tj).Perm tj:=by
 refine(yh ((qi k h1 h3).2.2.2.1.filter _) hn).mpr λ c=>?_;rw[aN,decide_eq_true_eq];exact⟨λ h=>h.2,λ h=>⟨hd c h,h⟩⟩
theorem HR{st:TS}{c:List Nat}(h1:1≤k)(h3:k≤3)(h4:m≤4)(h:st∈l4 k)(C:oH m k k c):(∀x,x∈(put k st c).ids↔x∈st.ids∨x=um k c)∧st.ids.length≤(put k st c).ids.length∧(put k st c).ids.length≤st.ids.length+1:=by
 refine jH (TS.xo h (oE (t:=0) h1 h3 h4 C).2.1) λ z q1 q2=>?_
 by_cases hx:um k c∈st.ids
 ·unfold put;rw[q1 hx];exact⟨λ x=>⟨.inl,λ h=>h.elim id λ e=>e▸hx⟩,az _,bq _⟩
 ·have hp:=q2 hx;unfold put;refine⟨λ x=>by rw[hp.mem_iff,aD];exact Or.comm,?_,?_⟩<;>rw[hp.length_eq]<;>simp
theorem yB{o:Option Nat}(h1:1≤k)(h3:k≤3)(h4:m≤4)(cs:List (List Nat))(st:TS)(hc:∀c∈cs,oH m k k c)(kt:st∈l4 k)(ho:∀j,o=some j→st.ids.length<j):
  (∀x∈(ir k o st cs).1.ids,x∈st.ids∨∃c∈cs,x=um k c)∧((ir k o st cs).2=true→o=some (ir k o st cs).1.ids.length)∧((ir k o st cs).2=false→(∀c∈cs,um k c∈(ir k o st cs).1.ids)∧(∀x∈st.ids,x∈(ir k o st cs).1.ids)∧∀j,o=some j→(ir k o st cs).1.ids.length<j):=by
 induction cs generalizing st with
 |nil=>exact⟨λ x h=>.inl h,λ h=>bz h,λ z=>⟨λ z=>nn,λ x h=>h,ho⟩⟩
 |cons c cs ih=>
  have C:=hc c (.head _);refine jH (HR h1 h3 h4 kt C) λ i1 i2 i3=>?_;rw[tV]
  by_cases hs:o=some (put k st c).ids.length
  ·rw[if_pos hs];exact⟨λ x hx=>((i1 x).mp hx).imp id λ e=>⟨c,.head _,e⟩,λ z=>hs,λ h=>bz h⟩
  ·rw[if_neg hs];refine jH (ih (put k st c) (λ d hd=>hc d (.tail _ hd)) (xm h1 h3 h4 kt C) λ j hj=>
    mH (af i3 (ho j hj)) λ e=>hs (hj.trans (congrArg some e.symm))) λ r1 r2 r3=>?_
   refine⟨λ x hx=>(r1 x hx).elim (λ h=>((i1 x).mp h).imp id λ e=>⟨c,.head _,e⟩) λ w=>cW w λ d hd e=>.inr ⟨d,.tail _ hd,e⟩,r2,λ hf=>jH (r3 hf) λ a b d=>?_⟩;exact⟨λ e he=>(mc he).elim (λ z=>b _ ((i1 _).mpr (.inr (z▸rfl)))) (a e),λ x hx=>b x ((i1 x).mpr (.inl hx)),d⟩
theorem Cb{tj cs:List (List Nat)}(h1:1≤k)(h3:k≤3)(h4:m≤4)(hc:∀c∈cs,oH m k k c)(hd:∀c,c∈tj↔∃d∈cs,c=cJ d){c:List Nat}(hu:c∈j_ k):(∃d∈cs,(j_ k).idxOf c=um k d)↔c∈tj:=by
 rw[hd];constructor
 ·rintro⟨d,Mk,e⟩
  refine⟨d,Mk,?_⟩;have gy:=dW hu;refine jH (oE h1 h3 h4 (hc d Mk) (t:=0)) λ j1 j2 j3=>?_;rw[← j3,← e];unfold fR;rw[ai,aq gy];exact(gH gy).symm
 ·rintro⟨d,Mk,rfl⟩
  exact⟨d,Mk,rfl⟩
theorem EF{tj cs:List (List Nat)}(h1:1≤k)(h3:k≤3)(h4:m≤4)(hc:∀c∈cs,oH m k k c)(hd:∀c,c∈tj↔∃d∈cs,c=cJ d):fC k (ir k none iA cs).1=IJ k tj:=by
 refine jH (yB (o:=none) h1 h3 h4 cs iA hc (mr h1 h3) λ j h=>nomatch h) λ r1 r2 r3=>?_;have hf:(ir k none iA cs).2=false:=by
  cases h:(ir k none iA cs).2 with
  |false=>rfl
  |true=>exact nomatch r2 h
 refine jH (r3 hf) λ a z z=>?_;refine m8 λ c hu=>decide_eq_decide.mpr ?_;rw[← Cb h1 h3 h4 hc hd hu];constructor
 ·intro h
  rcases r1 _ h with h|h
  ·exact nn h
  ·exact h
 ·rintro⟨d,Mk,e⟩
  rw[e];exact a d Mk
theorem CP{tj cs:List (List Nat)}{j:Nat}(hj:0<j)(h1:1≤k)(h3:k≤3)(h4:m≤4)(hc:∀c∈cs,oH m k k c)(hd:∀c,c∈tj↔∃d∈cs,c=cJ d)(hn:tj.Nodup):
  (fC k (ir k (some j) iA cs).1).Nodup∧(∀c∈fC k (ir k (some j) iA cs).1,c∈tj)∧(fC k (ir k (some j) iA cs).1).length=min j tj.length:=by
 have td:=tc (o:=some j) h1 h3 h4 cs iA hc (mr h1 h3);refine jH (yB (o:=some j) h1 h3 h4 cs iA hc (mr h1 h3) λ i h=>by cases h;exact hj) λ r1 r2 r3=>?_;generalize ir k (some j) iA cs=r at td r1 r2 r3⊢;have xE:(fC k r.1).Nodup:=(qi k h1 h3).2.2.2.1.filter _;have ic:∀c∈fC k r.1,c∈tj:= λ c Qy=>by
  unfold fC at Qy;rw[aN,decide_eq_true_eq]at Qy;rw[← Cb h1 h3 h4 hc hd Qy.1]
  rcases r1 _ Qy.2 with h|h
  ·exact nn h
  ·exact h
 have hlen:(fC k r.1).length=r.1.ids.length:=by rw[(su h1 h3 td).length_eq,aE]
 have hle:=xE.length_le_of_subset (l₂:=tj) ic;refine⟨xE,ic,?_⟩;cases hb:r.2 with
 |true=>
  have e:=cF (r2 hb);rw[hlen,← e]at hle⊢;exact(Nat.min_eq_left hle).symm
 |false=>
  refine jH (r3 hb) λ a z d=>?_;have gy:=d j rfl;have R2:∀c∈tj,c∈fC k r.1:= λ c Dv=>by
   refine cW ((hd c).mp Dv) λ e he z1=>?_;subst z1;unfold fC;rw[aN,decide_eq_true_eq];exact⟨(oE h1 h3 h4 (hc e he) (t:=0)).1,a e he⟩
  have e:=Nat.le_antisymm (hn.length_le_of_subset (l₂:=fC k r.1) R2) hle;rw[e];exact(Nat.min_eq_right (bV (b8 (de hlen) gy))).symm
end
noncomputable def G0(c:Cx)(n:Nat)(ds lJ:List D):Prop:=
 ∀(A:aK) (O:List Addr) (s:ae) (a:Addr) (vs:List ag),Rm A n→Ok c O s→c.B≤a→eC s.heap a vs.toArray→a7 c.w (a::O) s.heap vs ds→
  wpAny (model c.prog c.w) A (call (.builtin "list.sort") [.ref a] []) (λ v s'=>v=.none∧aB c [a] [] s s'∧bF c s'∧∃i6,eC s'.heap a i6.toArray∧a7 c.w (a::O) s'.heap i6 lJ) aZ s
section
variable {c:Cx}{n:Nat}{E:VE}{ρ ρ':List Sl}{O:List Addr}{s:ae}
theorem rh{a:Addr}{vs:List ag}{out:Array ag}(hl:eC s.heap a vs.toArray)(S:bF c s)(hB:c.B≤a):
  aB c [a] [] s {s with heap:=sortedHeap s.heap a vs out}∧bF c {s with heap:=sortedHeap s.heap a vs out}∧eC (sortedHeap s.heap a vs out) a out:=by
 refine bL (id hl) λ o m ho hc xG hd=>?_;refine bL (mQ (λ z=>(#[]:Array ag)) hl) λ o1 m1 zm Xn SE SF=>?_;have g1:aB c [a] [] s {s with heap:=s.heap.update a (aP λ z=> #[])}:=dS (tk:=s.toks) ho (c0 hd);have S1:bF c {s with heap:=s.heap.update a (aP λ z=> #[])}:=e_ (tk:=s.toks) S hB;have g2:=g1.comp (aB.push (c:=c) (G:=[]) (o:=seqObj "tuple" vs.toArray 0) (tk:=s.toks)) (λ z=>nn) λ z=>nn;have S2:=S1.push (o:=seqObj "tuple" vs.toArray 0) (tk:=s.toks);have h2:=aA (seqObj "tuple" vs.toArray 0) zm;have g3:=g2.comp (aB.push (c:=c) (G:=[]) (o:=seqObj "list" #[] 0) (tk:=s.toks)) (λ z=>nn) λ z=>nn;have S3:=S2.push (o:=seqObj "list" #[] 0) (tk:=s.toks);have h3:=aA (seqObj "list" #[] 0) h2;exact⟨g3.comp (dS (tk:=s.toks) h3 (c0 SF)) (λ b hb=>.inl hb) (λ z=>nn),e_ (tk:=s.toks) S3 hB,mQ (λ z=>out) ⟨o1,m1,h3,Xn,SE,SF⟩⟩
theorem G0.lists{xss ys:List (List Int)}(hp:ys.Perm xss)(hs:ys.Pairwise λ x y=>A9 x y=true)(h6:xss.length≤6):G0 c (n+1) (D.jl xss) (D.jl ys):= λ A O s a vs R K hB F4 r=>by
 refine bL (id F4) λ mV Fh ho og Ld ig=>?_;have hz:vs.length=xss.length:=by rw[r.length];exact aE _
 refine bO sY ⟨_,ho,og⟩ qV ?_ (DW _);refine cH (Di hp hs h6) λ p hk Oc Sa=>?_;have fin:∀out:Array ag,out.toList=(p.toList.map λ i=>vs.getD i .none)→∃v,PySem.Fin.done (.ret .none)=.done (.ret v)∧v=.none∧aB c [a] [] s {s with heap:=sortedHeap s.heap a vs out}∧bF c {s with heap:=sortedHeap s.heap a vs out}∧
   ∃i6,eC (sortedHeap s.heap a vs out) a i6.toArray∧a7 c.w (a::O) (sortedHeap s.heap a vs out) i6 (D.jl ys):= λ out nh=>by
  refine jH (rh (out:=out) F4 K.br hB) λ g S h'=>?_;refine⟨_,rfl,rfl,g,S,out.toList,by simpa using h',?_⟩;rw[nh,← Oc];exact g.fj (O:=a::O) (λ b hb=>.inl (by obtain rfl:=m1 hb;exact .head _)) (nL.refl _ _) (wc r p.toList Sa)
 rw[list_sort_plain];have zx:a<s.heap.objs.size:=aI ho;refine bL (mQ (λ z=>(#[]:Array ag)) F4) λ M4 e1 zm U3 SD sq=>?_;refine aa (fu ho ig ?_);refine aa (jV ho ig ?_ (by rw[a_,cG];exact u_ hz h6 rfl) (bS _));refine aa (sV zm sq ?_);refine aa (DT ?_ (by show vs.length≤_;rw[cG];exact u_ hz h6 rfl));refine aa (vh ?_ (bS _));refine aV ?_;have Me:(((s.heap.update a (aP λ z=> #[])).push (seqObj "tuple" vs.toArray 0)).push (seqObj "list" #[] 0)).get? a=some M4:=aA _ (aA _ zm);show wpAny _ A.in1 _ _ _ {s with heap:=((s.heap.update a (aP λ z=> #[])).push (seqObj "tuple" vs.toArray 0)).push (seqObj "list" #[] 0)};dsimp only
 by_cases h2:vs.length<2
 ·have xF:vs.toArray.size<2:=by rw[a_];exact h2
  rw[if_pos xF,if_pos xF];refine vW ?_;rw[StateT.run_pure];refine vW ?_;dsimp only;refine aa (sV Me sq ?_);refine aa (jV Me sq ?_ (bS _) (by rw[Array.size_map];show(pairsOf vs).size≤_;rw[pairsOf_size,cG];exact u_ hz h6 rfl));simp only[bne_self_eq_false,aR,if_false];refine ah ?_;refine fin _ ?_;have F0:p.toList=aw xss.length:=by
   have h1:xss.length<2:=by exact hz▸h2
   have:nF xss.length=.ret (gG (aw xss.length)):=by
    rcases oW xss.length 1 with h|h
    ·rw[show xss.length=0 by omega];rfl
    ·rw[show xss.length=1 by omega];rfl
   rw[this]at hk;cases hk;simp
  rw[F0];show(((arrOf (wR general' (vs.toArray.zip vs.toArray) #[] 7 none)).map (·.2)).toList)=_;show(((vs.toArray.zip vs.toArray).map (·.2)).toList)=_;apply vp
  ·simp[hz]
  ·intro i h1 h2;simp at h1 h2;simp[h1]
 ·have xF:¬vs.toArray.size<2:=by rw[a_];exact h2
  rw[if_neg xF,if_neg xF];have wB:2≤vs.length:=by exact cu h2
  have g6:aB c [a] [] s {s with heap:=((s.heap.update a (aP λ z=> #[])).push (seqObj "tuple" vs.toArray 0)).push (seqObj "list" #[] 0)}:=
   (dS (tk:=s.toks) ho (c0 ig)).trans ((aB.push (c:=c) (G:=[]) (tk:=s.toks)).mono (λ z=>nn) (λ z=>nn)|>.trans ((aB.push (c:=c) (G:=[]) (tk:=s.toks)).mono (λ z=>nn) (λ z=>nn)))
  have r6:=g6.fj (O:=a::O) (λ b hb=>.inl (by obtain rfl:=m1 hb;exact .head _)) (nL.refl _ _) r;have cls:∀v∈vs,Aq (model c.prog c.w) (((s.heap.update a (aP λ z=> #[])).push (seqObj "tuple" vs.toArray 0)).push (seqObj "list" #[] 0)) (typeOf v) (.type "list"):= λ v hv=>by
   obtain⟨i,hi,rfl⟩:=eW hv;refine dj (qC r6 i (by exact fw hi hz)) λ b us e y1 q=>?_;refine dj y1 ?_;clear y1;intro o n hl hc z;rw[show vs[i]=.ref b by rw[← e];simp[hi]];exact kitAt_ty _ _ ⟨o,hl,hc⟩
  refine aa (kas_kind wB cls rfl rfl ?_);have ask:(nF vs.length).kasWp (kas_ask c.prog c.w A.in1 oneType' vs) (λ p' s'=>p'=p∧s'={s with heap:=((s.heap.update a (aP λ z=> #[])).push (seqObj "tuple" vs.toArray 0)).push (seqObj "list" #[] 0)}) {s with heap:=((s.heap.update a (aP λ z=> #[])).push (seqObj "tuple" vs.toArray 0)).push (seqObj "list" #[] 0)}:=by
   rw[hz];refine rE (λ i j C hi hj hC=>?_) _ p hk ⟨rfl,rfl⟩;refine dj (qC r6 i hi) λ b us e y1 q=>?_;refine bL y1 ?_;clear y1;intro o n hl hc z hd;refine dj (qC r6 j hj) λ b' MB e' y1 q'=>?_;refine bL y1 ?_;clear y1;intro o' n' nC Hb z iP;unfold kas_ask;rw[e,e'];exact Fu (Rm.in1 R).u0 hl hc hd nC Hb iP q q' hC
  rw[kas_ask_eq]at ask;have X4:wR oneType' (vs.toArray.zip vs.toArray) #[] 7 none=kas_st oneType' (pairsOf vs) (gG (aw vs.length)):=by
   have e:=kas_range (pairsOf vs);rw[pairsOf_size]at e;show wR oneType' (pairsOf vs) #[] 7 none=wR oneType' ((gG (aw vs.length)).map (kas_item (pairsOf vs))) #[] 7 none;rw[e]
  have run:=kas_runs (E:=aZ) (Q:= λ z na s'=>arrOf na=p.map (kas_item (pairsOf vs))∧failedOf na=none∧s'={s with heap:=((s.heap.update a (aP λ z=> #[])).push (seqObj "tuple" vs.toArray 0)).push (seqObj "list" #[] 0)})
   (G:= λ p' s'=>p'=p∧s'={s with heap:=((s.heap.update a (aP λ z=> #[])).push (seqObj "tuple" vs.toArray 0)).push (seqObj "list" #[] 0)}) wB (by exact Qb hz h6 rfl) (λ p' na s' a1 a2 a3 a4=>⟨a4.1▸a2,a3,a4.2⟩) ask
  rw[← X4]at run;refine wb run ?_
  rintro⟨⟨⟩,na⟩ s' ⟨Ml,hf,rfl⟩
  dsimp only;refine aa (sV Me sq ?_);refine aa (jV Me sq ?_ (bS _) ?_)
  ·rw[hf];simp only[bne_self_eq_false,aR,if_false];refine ah (fin _ ?_);rw[Ml,Array.map_map,u6];exact cj λ i z=>by show(kas_item (pairsOf vs) i).2=_;rw[kas_item_eq]
  ·have:p.size=(p.toList.map λ i=>xss.getD i []).length:=by simp
   rw[Ml,Array.map_map,Array.size_map,this,Oc,hp.length_eq,cG];exact rC h6 rfl
theorem ba.sort(i:Nat){x:Str}{p apos pos pos':Pos}{ds lJ:List D}(h:G0 c n ds lJ)(hx:E.vn[i]? =some x)(dQ:ρ[i]? =some (.own true (.lst ds)))(i9:autoParam (attributeBase (.Name x p) "sort" E.env (eval (.Name x p) E.env)=eval (.Name x p) E.env) rf)(rI:autoParam (((backTo pos (starEach [] E.env)).all (λ x=> !x.1)&&(backToKw pos (keywordEach [] E.env)).all (λ x=>x.1.isSome)
   &&decide (([]:List Expr).length+([]:List dU).length+(if([]:List dU).isEmpty then 0 else 1)<30))=true) rf)(iO:autoParam ((apos.endLine==pos.line)=true) rf)(hi:autoParam (interactive E.env=false) rf)(hs:autoParam (swapsWith (.Call (.Attribute (.Name x p) "sort" apos) [] [] pos) none pos'.line E.env=pure false) rf):
  ba c n E ρ (.Expr (.Call (.Attribute (.Name x p) "sort" apos) [] [] pos) pos') (.next (ρ.set i (.own true (.lst lJ)))):= λ A β s R w0=>by
 refine iz w0 ?_;clear w0;intro O ad I;refine gW (kG i9 rI iO ?_) hi hs;refine cH (I.slot hx dQ) λ v b r kk=>?_;refine I.read hx b ?_;refine bL r ?_;clear r;intro a vs z1 jx hl hr;subst z1;refine bL (id hl) λ o m ho hc xG hd=>?_;refine qc R I m9 PySem.F.slot_list_sort PySem.F.type_list_sort ⟨_,ho,hc⟩ (λ b hb=>by injection hb with hb;subst hb;exact⟨_,ho,xG⟩) .nil rfl λ us aH iQ ct bB=>?_;have R0:us=[]:=by
  have:=bB.length;simpa using this
 subst R0;have kz:a∈ad i:=by rw[jx];exact .head _
 have zp:=iQ.jh (nn) hl;have qF:=iQ.ka hr;have hB:=ct.low _ (kk _ kz).1;have XF:∀b∈a::O,b∈O:= λ b hb=>(aD.mp hb).elim (λ e=>e▸ (kk _ kz).1) id;refine wm (h A O aH a vs R ct.o hB zp (a7.kept (.refl O _) (λ b hb=>.inl (XF b hb)) qF)) λ v cn q=>?_;refine ra q ?_;clear q;intro z1 Dy m6 i6 F3 Oa;subst z1;refine cH (ct.slot hx dQ) λ v' b' r' k'=>?_;refine dj r' ?_;clear r';intro a' VH z1 i0 z;subst z1;have:a'=a:=by rw[jx]at i0;simpa using i0.symm
 subst this;exact⟨rfl,[]++O,_,ct.jj (N:=[]) (fp:=ad i) hx dQ Dy m6 (λ b hb=>by obtain rfl:=m1 hb;exact kz) b' ⟨a',i6,rfl,i0,F3,a7.kept (.refl (a'::O) _) (λ b hb=>.inl (.tail _ hb)) Oa⟩ (λ z h=>nn h) λ b hb=>.inl hb⟩
end
noncomputable def sR:FD:=defAt 35
noncomputable def OE(ns:List Int):Int:=ns.getD 0 0
noncomputable def Kc(ns:List Int):Int:=ns.getD 1 0
noncomputable def qx(sz:Int):Nat:=[4,3,4,2].getD ((sz.fdiv 4).fmod 4).toNat 0
noncomputable def KU(dd sz:Int)(m:Nat):Nat:=if dd≠0∧m=4 then(1+sz.fmod 3).toNat else(1+(sz.fmod 4).fmod m).toNat
noncomputable def rowOf(m:Nat)(a:Int):Row:=((aw m).filter λ c=>vT (a.fdiv (2^c)) 1 !=0,1+((a.natAbs:Int).fdiv 16).fmod 12)
noncomputable def srcOf(ns:List Int):List Int:=if(ns.drop 2).isEmpty then [1]else ns.drop 2
theorem H3(sz:Int):(qx sz=2∨qx sz=3∨qx sz=4)∧[4,3,4,2][((sz.fdiv 4).fmod 4).toNat]? =some (qx sz):=by
 have h1:=dC (sz.fdiv 4) (show(0:Int)<4 by decide);have h2:=jF (sz.fdiv 4) (show(0:Int)<4 by decide);unfold qx;generalize (sz.fdiv 4).fmod 4=i at*;obtain⟨k,rfl⟩:=dh h1;exact(by decide:∀k<4,([4,3,4,2].getD ((k:Nat):Int).toNat 0=2∨[4,3,4,2].getD ((k:Nat):Int).toNat 0=3∨[4,3,4,2].getD ((k:Nat):Int).toNat 0=4)∧[4,3,4,2][((k:Nat):Int).toNat]? =some ([4,3,4,2].getD ((k:Nat):Int).toNat 0)) k (cz.mp h2)
theorem tN{x:Int}{m:Nat}(h0:0≤x)(hb:x<m):1≤(1+x).toNat∧(1+x).toNat≤m∧(((1+x).toNat:Nat):Int)=1+x:=by
 obtain⟨k,rfl⟩:=dh h0;have e:(1+(k:Int)).toNat=k+1:=by rw[oX];rfl
 rw[e];exact⟨aG 1 k,cz.mp hb,(x6 k 1).trans (oX _ _)⟩
theorem KT{dd sz:Int}{m:Nat}(hm:m=2∨m=3∨m=4):1≤KU dd sz m∧KU dd sz m≤m∧(dd≠0→KU dd sz m≤3)∧((KU dd sz m:Nat):Int)=if dd≠0∧m=4 then 1+sz.fmod 3 else 1+(sz.fmod 4).fmod m:=by
 have m0:0<m:=by rcases hm with rfl|rfl|rfl<;>decide
 have m3:m≠4→m≤3:=by rcases hm with rfl|rfl|rfl<;>decide
 unfold KU
 by_cases h:dd≠0∧m=4
 ·rw[if_pos h,if_pos h];have q:=tN (m:=3) (dC sz (by decide)) (jF sz (by decide));exact⟨q.1,af q.2.1 (h.2▸ (by decide:3≤4)),λ z=>q.2.1,q.2.2⟩
 ·rw[if_neg h,if_neg h];have q:=tN (m:=m) (dC (sz.fmod 4) (cz.mpr m0)) (jF (sz.fmod 4) (cz.mpr m0));exact⟨q.1,q.2.1,λ hd=>af q.2.1 (m3 λ e=>h ⟨hd,e⟩),q.2.2⟩
theorem EU{m:Nat}(h4:m≤4)(a:Int):Cz m (rowOf m a):=by
 have a1:=dC ((a.natAbs:Int).fdiv 16) (show(0:Int)<12 by decide);have a2:=jF ((a.natAbs:Int).fdiv 16) (show(0:Int)<12 by decide);refine⟨qY.trans ?_,λ x hx=>aO.mp (aN.mp hx).1,by show 0<1+_;omega,by show 1+_≤12;omega⟩;exact(List.range_sublist.mpr h4:(aw m).Sublist (aw 4))
theorem C2{m:Nat}(h4:m≤4){ns:List Int}(hl:ns.length≤5):fD m ((srcOf ns).map (rowOf m)):=by
 have h1:(srcOf ns).length≤3∧0<(srcOf ns).length:=by
  unfold srcOf
  split
  ·exact⟨by decide,by decide⟩
  ·rename_i h;refine⟨by rw[vm];omega,?_⟩;cases e:ns.drop 2 with
   |nil=>rw[e]at h;exact absurd rfl h
   |cons a l=>simp
 exact⟨λ r hr=>by refine jw hr λ a z=>?_;exact EU h4 a,by rw[aE];exact h1.1,by rw[aE];exact h1.2⟩
noncomputable def oD(cs:List (List Nat)):List D:=cs.map λ c=>.lst (D.nats c)
noncomputable def jK(cs:List (List Nat)):List (List Int):=cs.map λ c=>c.map λ (x:Nat)=>(x:Int)
theorem lA(cs:List (List Nat)):oD cs=D.jl (jK cs):=by
 unfold oD jK D.jl;rw[bI];exact cj λ c z=>by rw[dX];rfl
theorem cast_inj{a b:List Nat}(h:(a.map λ (x:Nat)=>(x:Int))=b.map λ (x:Nat)=>(x:Int)):a=b:=List.map_inj_right (λ x y e=>by exact vS e)|>.mp h
theorem wj{c:List Nat}{cs:List (List Nat)}:(c.map λ (x:Nat)=>(x:Int))∈jK cs↔c∈cs:=by
 unfold jK;rw[aM];exact⟨λ w0=>cW w0 λ d hd e=>cast_inj e▸hd,λ h=>⟨c,h,rfl⟩⟩
theorem De{a b:List (List Nat)}:jK a=jK b↔a=b:=List.map_inj_right λ x y e=>cast_inj e
theorem sg{c:List Nat}:∀{cs:List (List Nat)},cs.Nodup→c∈cs→(jK cs).countP (λ y=>decide (y=c.map λ (x:Nat)=>(x:Int)))=1
 |[],_,h=>nn h
 |d::cs,hn,hc=>by
  rw[el]at hn;have hz:∀{cs:List (List Nat)},c∉cs→(jK cs).countP (λ y=>decide (y=c.map λ (x:Nat)=>(x:Int)))=0:= λ {cs} h=>by
   rw[List.countP_eq_zero];intro y hy e;obtain rfl:=of_decide_eq_true e;exact h (wj.mp hy)
  have e:jK (d::cs)=(d.map λ (x:Nat)=>(x:Int))::jK cs:=rfl;rw[e]
  by_cases h:d=c
  ·subst h;rw[List.countP_cons_of_pos (by simp),hz hn.1]
  ·rw[List.countP_cons_of_neg (by simp only[decide_eq_true_eq];exact λ e=>h (cast_inj e))];exact sg hn.2 ((aD.mp hc).resolve_left λ e=>h e.symm)
section
variable {c:Cx}{n:Nat}{E:VE}{ρ ρ₁ ρ₂:List Sl}
theorem cB.Ff{x:List Nat}{xs:List (List Nat)}(hn:1≤n):cB c n .NotIn (.lst (D.nats x)) (.lst (oD xs)) (!decide (x∈xs)):=by
 rw[lA,dX,show decide (x∈xs)=decide ((x.map λ (x:Nat)=>(x:Int))∈jK xs)from decide_eq_decide.mpr wj.symm];exact cB.KC hn
theorem cB.Jn{xs ys:List (List Nat)}(hn:1≤n):cB c n .NotEq (.lst (oD xs)) (.lst (oD ys)) (!decide (xs=ys)):=by
 rw[lA,lA,show decide (xs=ys)=decide (jK xs=jK ys)from decide_eq_decide.mpr De.symm];exact cB.Ng hn
theorem Ex.Mx{ss:List Stmt}(h:Ex c n E ρ ss (.brk ρ₁))(hw:cx ρ₂ ρ₁):Ex c n E ρ ss (.brk ρ₂):= λ A β s R I=>wm (h A β s R I) λ f s' q=>by
 refine Es q ?_;clear q;intro z1 O ad I;subst z1;refine cW (I.weaken hw) λ ad' I' z=>?_;exact⟨rfl,O,ad',I'⟩
end
section
variable {c:Cx}{n:Nat}
noncomputable abbrev Nj:List Str:=["script","numbers","head","size","deed","n","k","rows","number","states","seat","following","done","purse","unit","found","cand","after","parts","due","made","way","told","less","most"]
noncomputable abbrev Fp(u:rS)(L:Addr):VE:=mM (sR.fd .none u) L 621 Nj
structure DK where
 xs:List Int
 ns:List Int
 hd:Int
 sz:Int
 dd:Int
 m:Nat
 rows:List Row
noncomputable abbrev u9(i:DK)(k:Nat)(l:List Sl):List Sl:=
 [.val (.lst (D.ints i.xs)),.val (.lst (D.ints i.ns)),.val (.int i.hd),.val (.int i.sz),.val (.int i.dd),.val (.int (i.m:Int)),.val (.int (k:Int)),.val (.lst (i.rows.map iF))]++l
noncomputable abbrev sM(s:LS):D:=.tup [.tup (D.nats s.1),.lst (D.ints s.2.1),.int s.2.2]
noncomputable def EP:List Stmt:=nD sR.body 10
noncomputable def MQ:Expr:=pH sR.body 10
noncomputable def Q1:List Stmt:=nD EP 2
noncomputable def VM:Expr:=pH EP 2
noncomputable def X2:List Stmt:=nD Q1 1
noncomputable def X1:Expr:=pH Q1 1
theorem Tn{u:rS}{L:Addr}{i:DK}{k:Nat}{jg cZ:D}{s:LS}(hs:s.1.length≤100){fo:D}:∀(ts:List St) (acc:List LS),acc.length+ts.length≤900→
  Lp c (n+17) (Fp u L) (u9 i k ([.no,.val jg,.val cZ,.own true (.lst (acc.map sM)),.val (.tup (D.nats s.1)),.val (.lst (D.ints s.2.1)),.val (.int s.2.2),.val fo]++al 9 .no)) X1 X2 (ts.map CU)
   (.next (u9 i k ([.no,.val jg,.val cZ,.own true (.lst ((acc++ts.map λ x=>(s.1++[x.1],x.2.1,x.2.2)).map sM)),.val (.tup (D.nats s.1)),.val (.lst (D.ints s.2.1)),.val (.int s.2.2),.val fo]++al 9 .no))):=by
 intro w
 induction w with
 |nil=>
  intro acc z;rw[jZ,jZ,bK];exact Lp.nil
 |cons t ts ih=>
  intro acc hz;simp only[aJ]at hz;rw[show acc++(t::ts).map (λ x=>((s.1++[x.1],x.2.1,x.2.2):LS))=(acc++[(s.1++[t.1],t.2.1,t.2.2)])++ts.map λ x=>(s.1++[x.1],x.2.1,x.2.2) by simp];refine Lp.step (ρ'':=u9 i k ([.no,.val jg,.val cZ,.own true (.lst ((acc++[(s.1++[t.1],t.2.1,t.2.2)]).map sM)),.val (.tup (D.nats s.1)),.val (.lst (D.ints s.2.1)),.val (.int s.2.2),.val fo]++al 9 .no)) (ju.tup (kU.cons (ju.name 16 rfl (od rfl) (od rfl)) (kU.cons (ju.name 17 rfl (od rfl) (od rfl)) (kU.cons (ju.name 18 rfl (od rfl) (od rfl)) .nil)))) ?_ (ih _ (by simp;exact JU hz rfl));refine Ex.weak (ρ₁:=u9 i k ([.no,.val jg,.val cZ,.own true (.lst ((acc++[(s.1++[t.1],t.2.1,t.2.2)]).map sM)),.val (.tup (D.nats s.1)),.val (.lst (D.ints s.2.1)),.val (.int s.2.2),.val fo,.val (.int (t.1:Int)),.val (.lst (D.ints t.2.1)),.val (.int t.2.2)]++al 6 .no)) ?_ (by repeat (first|exact cx.nil|refine cx.cons (.inr rfl) ?_|refine cx.cons (.inl rfl) ?_));rw[hJ];exact Ex.one (ba.append 11 (d:=sM (s.1++[t.1],t.2.1,t.2.2)) (Ev.tup (ck.cons (Ev.cast (t_ s.1 t.1▸rfl) (Ev.bin (Ev.nm 12 rfl rfl) (Ev.tup (ck.cons (Ev.nm 16 rfl rfl) .nil)) (gF.IY (by rw[dk];simp;exact af hs (aG _ _))))) (ck.cons (Ev.nm 17 rfl rfl) (ck.cons (Ev.nm 18 rfl rfl) .nil)))) rfl rfl (by rw[aE];exact GY hz rfl))
theorem yR{b:Bool}{rows:List Row}{m k t:Nat}{s:LS}{ld:List Rat}(H:fD m rows)(R:Rel rows m k t s ld)(ht:t<k)(h4:m≤4):(lE b rows m s).length≤(if b=true then 1 else 4)∧(jJ rows m s.1 s.2.1 s.2.2).length≤4:=by
 have h:(jJ rows m s.1 s.2.1 s.2.2).length≤4:=by rw[(lG H R ht).1,aE];exact af tM h4
 refine⟨?_,h⟩;unfold lE;rw[aE];cases b with
 |true=>rw[if_pos rfl,if_pos rfl,List.length_take];lia
 |false=>rw[if_neg (by decide),if_neg (by decide)];exact h
theorem yF{b:Bool}{rows:List Row}{m k t:Nat}{ss:List LS}(H:fD m rows)(hs:∀s∈ss,∃ld,Rel rows m k t s ld)(ht:t<k):∀s∈ss.flatMap (lE b rows m),∃ld,Rel rows m k (t+1) s ld:= λ s eO=>by
 obtain⟨s0,h0,h1⟩:=kZ.mp eO;obtain⟨ld,R⟩:=hs s0 h0;obtain⟨e,hn⟩:=lG H R ht;refine jw h1 λ y hy=>?_;have Im:y∈jJ rows m s0.1 s0.2.1 s0.2.2:=by
  cases b with
  |true=>rw[if_pos rfl]at hy;exact pY hy
  |false=>rw[if_neg (by decide)]at hy;exact hy
 rw[e]at Im;refine jw Im λ x hx=>?_;exact⟨_,hn x hx⟩
theorem zH{b:Bool}{rows:List Row}{m k t:Nat}{ss:List LS}(H:fD m rows)(h4:m≤4)(ht:t<k)(hs:∀s∈ss,∃ld,Rel rows m k t s ld)(hb:¬(b=false∧4<ss.length))(hz:ss.length≤16):(ss.flatMap (lE b rows m)).length≤16:=by
 have hlen:∀(q:Nat) (l:List LS),(∀s∈l,(lE b rows m s).length≤q)→(l.flatMap (lE b rows m)).length≤q*l.length:=by
  intro q l
  induction l with
  |nil=>intro z;exact az _
  |cons a l ih=>
   intro h;rw[j4,aY,aJ,Nat.mul_succ];have:=ih λ s hs=>h s (.tail _ hs);have:=h a (.head _);lia
 have hq:=hlen (if b=true then 1 else 4) ss λ s h=>by
  refine xe (hs s h) λ ld R=>?_;exact(yR H R ht h4).1
 cases b with
 |true=>rw[if_pos rfl]at hq;lia
 |false=>
  rw[if_neg (by decide)]at hq;have:¬4<ss.length:= λ h=>hb ⟨rfl,h⟩;lia
theorem ES{b:Bool}{rows:List Row}{m k:Nat}(H:fD m rows)(h4:m≤4)(hk:k≤4):∀(r cZ:Nat) (ss:List LS),cZ+r=k→(∀s∈ss,∃ld,Rel rows m k cZ s ld)→ss.length≤16→(lD b rows m r cZ ss).2.length≤16∧∀s∈(lD b rows m r cZ ss).2,s.1.length≤4:=by
 intro w
 induction w with
 |zero=>
  intro cZ ss e hs hz;exact⟨hz,λ s h=>by refine xe (hs s h) λ ld R=>?_;have:=R.C.l;exact Rq this e hk rfl⟩
 |succ r ih=>
  intro cZ ss e hs hz;rw[ri]
  by_cases hb:b=false∧4<ss.length
  ·rw[if_pos hb];exact⟨hz,λ s h=>by refine xe (hs s h) λ ld R=>?_;have:=R.C.l;lia⟩
  ·rw[if_neg hb];exact ih (cZ+1) _ (by exact Bx e) (yF H hs (by exact JT e)) (zH H h4 (by lia) hs hb hz)
theorem HC(G:PG c)(N:FnAt c 616 nk .none)(gN:cV c "_law_next" (.ref 616))(kN:jz c (.ref 616)){u:rS}{L:Addr}{i:DK}{k t:Nat}{jg cZ:D}(H:fD i.m i.rows)(h4:i.m≤4)(ht:t<k)(hk:k≤4):∀(ss acc:List LS),(∀s∈ss,∃ld,Rel i.rows i.m k t s ld)→acc.length+4*ss.length≤900→
  Lp c (n+17) (Fp u L) (u9 i k ([.no,.val jg,.val cZ,.own true (.lst (acc.map sM))]++al 13 .no)) VM Q1 (ss.map sM)
   (.next (u9 i k ([.no,.val jg,.val cZ,.own true (.lst ((acc++ss.flatMap (lE (i.dd==0) i.rows i.m)).map sM))]++al 13 .no))):=by
 intro w
 induction w with
 |nil=>
  intro acc z z;rw[List.flatMap_nil,bK];exact Lp.nil
 |cons s ss ih=>
  intro acc hs hz;simp only[aJ]at hz;obtain⟨ld,R⟩:=hs s (.head _);obtain⟨Qo,WW⟩:=yR (b:=i.dd==0) H R ht h4;have Qo:(lE (i.dd==0) i.rows i.m s).length≤4:=af Qo (by split<;>decide);have ng:s.1.length≤100:=by have:=R.C.l;lia
  rw[j4,← j6];refine Lp.step (ρ'':=u9 i k ([.no,.val jg,.val cZ,.own true (.lst ((acc++lE (i.dd==0) i.rows i.m s).map sM))]++al 13 .no)) (ju.tup (kU.cons (ju.name 12 rfl (od rfl) (od rfl)) (kU.cons (ju.name 13 rfl (od rfl) (od rfl)) (kU.cons (ju.name 14 rfl (od rfl) (od rfl)) .nil)))) ?_ (ih _ (λ s h=>hs s (.tail _ h)) (by rw[aY];lia));refine Ex.weak (ρ₁:=u9 i k ([.no,.val jg,.val cZ,.own true (.lst ((acc++lE (i.dd==0) i.rows i.m s).map sM)),.val (.tup (D.nats s.1)),.val (.lst (D.ints s.2.1)),.val (.int s.2.2),.val (.lst ((jJ i.rows i.m s.1 s.2.1 s.2.2).map CU))]++al 9 .no)) ?_ (by repeat (first|exact cx.nil|refine cx.cons (.inr rfl) ?_|refine cx.cons (.inl rfl) ?_));refine Ex.seq (ba.asg 15 (Ev.call (by kernel_rfl) gN kN (ck.cons (Ev.nm 7 rfl rfl) (ck.cons (Ev.nm 5 rfl rfl) (ck.cons (Ev.nm 12 rfl rfl) (ck.cons (Ev.nm 13 rfl rfl) (ck.cons (Ev.nm 14 rfl rfl) .nil))))) .nil (Dd (n:=n+7) G N h4 (R.nx H (by exact bV (ab ht hk))))) rfl (od rfl) (od rfl)) ?_;have e:lE (i.dd==0) i.rows i.m s=(if(i.dd==0)=true then(jJ i.rows i.m s.1 s.2.1 s.2.2).take 1 else jJ i.rows i.m s.1 s.2.1 s.2.2).map λ x=>(s.1++[x.1],x.2.1,x.2.2):=rfl;rw[e];generalize NZ:(if(i.dd==0)=true then(jJ i.rows i.m s.1 s.2.1 s.2.2).take 1 else jJ i.rows i.m s.1 s.2.1 s.2.2)=ts;have Uv:ts.length≤4:=by rw[e,aE,NZ]at Qo;exact Qo
  refine Ex.one (ba.for (kg.of (d:=.lst (ts.map CU)) (Ev.cast ?_ (Ev.ite (p:=i.dd==0) (d₁:=.lst (((jJ i.rows i.m s.1 s.2.1 s.2.2).map CU).take 1)) (d₂:=.lst ((jJ i.rows i.m s.1 s.2.1 s.2.2).map CU)) (Tr.cmp (Ev.nm 4 rfl rfl) Ev.int cB.Ei) (λ z=>Ev.MC (k:=1) (Ev.nm 15 rfl rfl) (by decide) (by rw[aE];exact rC WW rfl)) λ z=>Ev.nm 15 rfl rfl)) Ib.list) λ ds hd=>(by subst hd;exact Tn ng ts acc (by lia)));rw[← NZ];split<;>simp[Ax]
theorem Kj(G:PG c)(N:FnAt c 616 nk .none)(gN:cV c "_law_next" (.ref 616))(kN:jz c (.ref 616)){u:rS}{L:Addr}{i:DK}{k:Nat}(H:fD i.m i.rows)(h4:i.m≤4)(hk:k≤4):∀(r cZ:Nat) (ss:List LS),cZ+r=k→(∀s∈ss,∃ld,Rel i.rows i.m k cZ s ld)→ss.length≤16→
  Lp c (n+17) (Fp u L) (u9 i k ([.no,.val (.lst (ss.map sM))]++al 15 .no)) MQ EP (D.nats (vO cZ r))
   (.next (u9 i (lD (i.dd==0) i.rows i.m r cZ ss).1 ([.no,.val (.lst ((lD (i.dd==0) i.rows i.m r cZ ss).2.map sM))]++al 15 .no))):=by
 intro w
 induction w with
 |zero=>
  intro cZ ss e z z;have e:cZ=k:=e;subst e;exact Lp.nil
 |succ r ih=>
  intro cZ ss e hs hz;have Mg:Fn c (n+17) (.builtin "len") [.lst (ss.map sM)] [] (.int (ss.length:Int)):=by
   have:=Fn.la (c:=c) (n:=n+17) (ds:=ss.map sM) (by rw[aE];lia);rwa[aE]at this
  have tr:∀{p1 p2 p3 p4 p5 p6 p7 q1 q2:Pos} {k1 k2:Nat},Tr c (n+17) (Fp u L) (u9 i k ([.no,.val (.lst (ss.map sM)),.val (.int (cZ:Int))]++al 14 .no)) (.BoolOp .And [.Compare (.Name "deed" p1) [.NotEq] [.Constant (.int 0) k1 p2] p3,.Compare (.Call (.Name "len" p4) [.Name "states" p5] [] p6) [.Gt] [.Constant (.int 4) k2 p7] q1] q2) ((i.dd !=0)&&decide ((4:Int)<(ss.length:Int))):= λ {p1 p2 p3 p4 p5 p6 p7 q1 q2 k1 k2}=>
   Tr.qL (Tr.cmp (Ev.nm 4 rfl rfl) Ev.int cB.KI) λ z=>Tr.cmp (Ev.call (by kernel_rfl) G.len trivial (ck.cons (Ev.nm 9 rfl rfl) .nil) .nil Mg) Ev.int cB.Mq
  have eb:((i.dd !=0)&&decide ((4:Int)<(ss.length:Int)))=decide ((i.dd==0)=false∧4<ss.length):=by
   rw[o4];simp;lia
  rw[eb]at tr;rw[ri];show Lp c (n+17) _ _ _ _ (.int (cZ:Int)::D.nats (vO (cZ+1) r)) _
  by_cases hb:(i.dd==0)=false∧4<ss.length
  ·rw[if_pos hb];rw[decide_eq_true hb]at tr;refine Lp.stop (ju.name 10 rfl (od rfl) (od rfl)) (Ex.Mx (ρ₁:=u9 i cZ ([.no,.val (.lst (ss.map sM)),.val (.int (cZ:Int))]++al 14 .no)) (Ex.stop (ba.ite (p:=true) tr (λ z=>Ex.seq (ba.asg 6 (Ev.nm 10 rfl rfl) rfl (od rfl) (od rfl)) (Ex.stop ba.brk rfl)) (λ h=>by cases h)) rfl) (by repeat (first|exact cx.nil|refine cx.cons (.inr rfl) ?_|refine cx.cons (.inl rfl) ?_)))
  ·rw[if_neg hb];rw[decide_eq_false hb]at tr;have kt:cZ<k:=by lia
   have OA:(ss.flatMap (lE (i.dd==0) i.rows i.m)).length≤16:=by
    exact zH H h4 kt hs hb hz
   refine Lp.step (ρ'':=u9 i k ([.no,.val (.lst ((ss.flatMap (lE (i.dd==0) i.rows i.m)).map sM))]++al 15 .no)) (ju.name 10 rfl (od rfl) (od rfl)) ?_ (ih (cZ+1) _ (by lia) (yF H hs kt) OA);refine Ex.weak (ρ₁:=u9 i k ([.no,.val (.lst ((ss.flatMap (lE (i.dd==0) i.rows i.m)).map sM)),.val (.int (cZ:Int)),.val (.lst ((ss.flatMap (lE (i.dd==0) i.rows i.m)).map sM))]++al 13 .no)) ?_ (by repeat (first|exact cx.nil|refine cx.cons (.inr rfl) ?_|refine cx.cons (.inl rfl) ?_));refine Ex.seq (ba.ite (p:=false) tr (λ h=>by cases h) λ z=>Ex.nil) ?_;refine Ex.seq (ba.lh 11 (gz.lst .nil) rfl (od rfl) (od rfl)) ?_;refine Ex.seq (ρ':=u9 i k ([.no,.val (.lst (ss.map sM)),.val (.int (cZ:Int)),.own true (.lst ((ss.flatMap (lE (i.dd==0) i.rows i.m)).map sM))]++al 13 .no)) (ba.for (kg.of (Ev.nm 9 rfl rfl) Ib.list) λ ds hd=>(by subst hd;exact HC G N gN kN H h4 kt hk ss [] hs (by simp;lia))) ?_;refine Ex.freeze 11 rfl rfl rfl ?_;exact Ex.one (ba.asg 9 (Ev.nm 11 rfl rfl) rfl (od rfl) (od rfl))
end
section
set_option backward.match.sparseCases false
noncomputable def pv:D→Option D
 |.dm xs=>some (.lst (D.nats xs))
 |_=>none
theorem nX:∀css:List (List Nat),(css.map D.dm).filterMap pv=oD css
 |[]=>rfl
 |x::xs=>by rw[a9,bA (f:=pv) (b:=.lst (D.nats x)) rfl,nX xs];rfl
theorem t7{α:Type}:∀l:List α,l.filterMap (λ z=>(none:Option D))=[]
 |[]=>rfl
 |a::l=>by rw[eJ rfl,t7 l]
structure End(i:DK)(k:Nat)(mY:List (List Nat)):Prop where
 V:lj i.m (dZ i.rows)
 h4:i.m≤4
 k1:0<k
 km:k≤i.m
 k3:i.dd≠0→k≤3
 d:i.dd=0∨i.dd=1∨i.dd=2
 l:mY.length≤6
 l6:∀b o,(md (dZ i.rows) i.m k b o).length≤6
 a:i.dd=0→md (dZ i.rows) i.m k true none=mY∧∃d,mY=[d]∧d.length≤4∧(1<k→∃com,md (dZ i.rows) i.m (k-1) true none=[com]∧com.length=k-1∧∀y∈com,y∈d)
 b:i.dd≠0→md (dZ i.rows) i.m k false none=mY
 c:i.dd≠0→∀j,0<j→(md (dZ i.rows) i.m k false (some j)).Nodup∧(∀c∈md (dZ i.rows) i.m k false (some j),c∈mY)∧(md (dZ i.rows) i.m k false (some j)).length=min j mY.length
section
variable {c:Cx}{n:Nat}
noncomputable def TH:List Stmt:=nD sR.body 12
noncomputable def TF:Expr:=pH sR.body 12
theorem Pl(G:PG c){u:rS}{L:Addr}{i:DK}{k:Nat}{jg:D}:∀(ss:List LS) (acc:List (List Nat)),(∀s∈ss,s.1.length≤60)→acc.length+ss.length≤900→
  Lp c (n+17) (Fp u L) (u9 i k ([.no,.val jg]++al 9 .no++[.own true (.lst (oD acc))]++al 5 .no)) TF TH (ss.map sM)
   (.next (u9 i k ([.no,.val jg]++al 9 .no++[.own true (.lst (oD (pJ (ss.map (·.1)) acc)))]++al 5 .no))):=by
 intro w
 induction w with
 |nil=>
  intro acc z z;exact Lp.nil
 |cons s ss ih=>
  intro acc hs hz;simp only[aJ]at hz;have ng:=hs s (.head _);rw[a9,a9,Gw];refine Lp.step (ρ'':=u9 i k ([.no,.val jg]++al 9 .no++[.own true (.lst (oD (if cJ s.1∈acc then acc else acc++[cJ s.1])))]++al 5 .no)) (ju.tup (kU.cons (ju.name 12 rfl (od rfl) (od rfl)) (kU.cons (ju.name 13 rfl (od rfl) (od rfl)) (kU.cons (ju.name 14 rfl (od rfl) (od rfl)) .nil)))) ?_ (ih _ (λ s h=>hs s (.tail _ h)) (by split<;>(try simp)<;>lia));refine Ex.weak (ρ₁:=u9 i k ([.no,.val jg,.no,.no,.val (.tup (D.nats s.1)),.val (.lst (D.ints s.2.1)),.val (.int s.2.2)]++al 4 .no++[.own true (.lst (oD (if cJ s.1∈acc then acc else acc++[cJ s.1])))]++al 5 .no)) ?_ (by repeat (first|exact cx.nil|refine cx.cons (.inr rfl) ?_|refine cx.cons (.inl rfl) ?_));have Ux:Fn c (n+17) (.builtin "sorted") [.tup (D.nats s.1)] [] (.lst (D.nats (cJ s.1))):=Fn.sorted (n:=n+15) (J1.tup (by rw[dk];exact af ng (aG _ _))) (by rw[dk];lia) (vM.nats (by exact L4 ng rfl));refine Ex.one (ba.ite (p:= !decide (cJ s.1∈acc)) (Tr.tO 19 rfl rfl rfl (Tr.cmp (Ev.call (by kernel_rfl) G.sorted trivial (ck.cons (Ev.nm 12 rfl rfl) .nil) .nil Ux) (Ev.nm 19 rfl rfl) (cB.Ff (by exact bD _)))) (λ h=>?_) λ h=>?_)
  ·have h:cJ s.1∉acc:=by simpa using h
   rw[if_neg h,show oD (acc++[cJ s.1])=oD acc++[.lst (D.nats (cJ s.1))] by simp[oD]];exact Ex.one (ba.append 19 (Ev.call (by kernel_rfl) G.sorted trivial (ck.cons (Ev.nm 12 rfl rfl) .nil) .nil Ux) rfl rfl (by simp[oD];exact GY hz rfl))
  ·have h:cJ s.1∈acc:=by simpa using h
   rw[if_pos h];exact Ex.nil
noncomputable abbrev D9(i:DK)(k:Nat)(mY:List (List Nat))(l:List Sl):List Sl:=u9 i k (al 11 .no++[.val (.lst (oD mY)),.val (o9 i.m (dZ i.rows)),.val (.str "standard-fractions")]++l)
theorem xx(n:Nat){cs:List (List Nat)}(h:cs.length≤900):Fn c n (.builtin "len") [.lst (oD cs)] [] (.int (cs.length:Int)):=by
 have:=Fn.la (c:=c) (n:=n) (ds:=oD cs) (by simp[oD];exact af h (aG _ _));rwa[show(oD cs).length=cs.length by exact aE _]at this
theorem KR(n:Nat){x:List Nat}(h:x.length≤900):Fn c n (.builtin "len") [.lst (D.nats x)] [] (.int (x.length:Int)):=by
 have:=Fn.la (c:=c) (n:=n) (ds:=D.nats x) (by rw[dk];exact af h (aG _ _));rwa[dk]at this
theorem Tx(A:All c){u:rS}{L:Addr}{i:DK}{k:Nat}{mY:List (List Nat)}(X:End i k mY)(h0:i.dd=0):Ex c (n+17) (Fp u L) (D9 i k mY (al 3 .no)) (vw (oP sR.body 16)).o (.next (D9 i k mY (al 3 .no))):=by
 refine xa (X.a h0) λ ha zh=>cH zh λ d z1 Yv hn=>?_;subst z1;have Ol:=X.l6 true none;have hc:=wL (n:=n) A X.V X.h4 X.k1 X.km;rw[ha]at hc;have km:=X.km;have h4:=X.h4;have k1:=X.k1;have Jc:∀(css:List (List Nat)) (hz:css.length≤6) (C:Addr) (e:VE) (ρ:List Sl) (d:D),e.vn[0]? =some ("members":Str)→0<e.k→ρ[0]? =some .no→e.env.kindOf "sorted"=some .globalImplicit→d∈css.map D.dm→∀{q p1 p2 p3:Pos},El c (n+17) e ρ (.Name "members" q) [] d (pv d).isSome λ ρ'=>∀y,pv d=some y→Ev c (n+17) e ρ' (.Call (.Name "sorted" p1) [.Name "members" p2] [] p3) y:= λ css hz C e ρ d q1 q2 q3 q4 hd=>by
  refine jw hd λ xs j=>?_;exact El.nm 0 q1 q2 q3 λ z hz=>by
   cases hz;exact Ev.call q4 A.G.sorted trivial (ck.cons (Ev.nm 0 q1 (by rw[bp ((ay.mp q3).1)])) .nil) .nil (Fn.sb (n:=n+13))
 refine Ex.seq (ba.lh 22 (gz.comp (tn:=["members"]) (ix:=[]) (by kernel_rfl) pv (kg.of (Ev.call (by kernel_rfl) A.Q.gC A.Q.kC (ck.cons (Ev.nm 20 rfl rfl) (ck.cons (Ev.nm 6 rfl rfl) .nil)) (ou.cons (Ev.nm 21 rfl rfl) .nil) hc) Ib.list) (by exact bD _) λ C x hx=>Jc [d] (by trivial) C _ _ _ rfl (od rfl) rfl (by kernel_rfl) hx) rfl (od rfl) (od rfl)) ?_;rw[nX];refine Ex.freeze 22 rfl rfl rfl ?_;refine Ex.seq (ba.ite (p:= !decide ([d]=[d])) (Tr.cmp (Ev.nm 22 rfl rfl) (Ev.nm 19 rfl rfl) (cB.Jn (by exact bD _))) (λ h=>by simp at h) λ j=>Ex.nil) ?_;refine Ex.weak (ρ₁:=D9 i k [d] [.val (.lst (oD [d])),.no,.no]) ?_ (by repeat (first|exact cx.nil|refine cx.cons (.inr rfl) ?_|refine cx.cons (.inl rfl) ?_))
 by_cases hk:1<k
 ·refine cH (hn hk) λ com e1 e2 e3=>?_;have Dw:=wL (n:=n) A (k:=k-1) X.V h4 (Nat.sub_pos_of_lt hk) (af (Nat.sub_le k 1) km);rw[e1]at Dw;refine Ex.one (ba.ite (p:=decide ((1:Int)<(k:Int))) (Tr.cmp (Ev.nm 6 rfl rfl) Ev.int cB.Mq) (λ j=>?_) λ h=>absurd h (by simp;exact cz.mpr hk));refine Ex.weak (ρ₁:=D9 i k [d] [.val (.lst (oD [d])),.val (.lst (oD [com])),.no]) ?_ (by repeat (first|exact cx.nil|refine cx.cons (.inr rfl) ?_|refine cx.cons (.inl rfl) ?_));refine Ex.seq (ba.oF 23 (tn:=["members"]) (ix:=[]) (by kernel_rfl) (ds:=[com].map D.dm) pv (kg.of (Ev.call (by kernel_rfl) A.Q.gC A.Q.kC (ck.cons (Ev.nm 20 rfl rfl) (ck.cons (Ev.cast (by rw[TJ X.k1]) (Ev.bin (Ev.nm 6 rfl rfl) Ev.int gF.Kd)) .nil)) (ou.cons (Ev.nm 21 rfl rfl) .nil) Dw) Ib.list) (by simp) (λ C x hx=>Jc [com] (by simp) C _ _ _ rfl (od rfl) rfl (by kernel_rfl) hx) rfl (od rfl) (od rfl) (by kernel_rfl)) ?_;rw[nX];refine Ex.freeze 23 rfl rfl rfl ?_;have G_:(oD [com])[(0:Int).toNat]? =some (.lst (D.nats com)):=rfl;have Xi:(oD [d])[(0:Int).toNat]? =some (.lst (D.nats d)):=rfl;refine Ex.one (ba.ite (p:=false||false||false) (Tr.or3 (Tr.cast (b':=((([com]:List (List Nat)).length:Int)!=1)) rfl (Tr.cmp (Ev.call (by kernel_rfl) A.G.len trivial (ck.cons (Ev.nm 23 rfl rfl) .nil) .nil (xx _ (by simp))) Ev.int cB.KI)) (λ j=>Tr.cast (b':=((com.length:Int)!=(k:Int) -1)) (by rw[e2];simp;omega) (Tr.cmp (Ev.call (by kernel_rfl) A.G.len trivial (ck.cons (Ev.sub (Ev.nm 23 rfl rfl) Ev.int (Sub.list (by decide) G_ (by simp[oD]))) .nil) .nil (KR _ (by omega))) (Ev.bin (Ev.nm 6 rfl rfl) Ev.int gF.Kd) cB.KI))
   λ j j=>Tr.cast (b':= !decide (([]:List Int)=[])) rfl (Tr.cmp (gz.ev (q:=.lst (D.ints [])) ?_ rfl) (Ev.lst .nil) (cB.KH (ys:=[]) (by exact bD _)))) (λ h=>nomatch h) λ j=>Ex.nil)
  rw[show D.ints []=(D.nats com).filterMap λ j=>(none:Option D)from (t7 _).symm];refine gz.comp (tn:=["cand"]) (ix:=[22]) (by kernel_rfl) (λ j=>none) (kg.of (Ev.sub (Ev.nm 23 rfl rfl) Ev.int (Sub.list (by decide) G_ (by simp[oD]))) Ib.list) (by rw[dk,e2];exact rC (af (Nat.sub_le k 1) (af km h4)) rfl) λ C x hx=>?_;refine cW (gh hx) λ y hy z1=>?_;subst z1;refine El.Fe 0 rfl (od rfl) rfl (Tr.cast (b':= !decide (y∈d)) (by simp[e3 y hy]) (Tr.cmp (Ev.nm 0 rfl rfl) (Ev.sub (Ev.nm 1 rfl rfl) Ev.int (Sub.list (by decide) Xi (by simp[oD]))) (by
   have:=cB.Nc (c:=c) (n:=n+17) (x:=(y:Int)) (xs:=d.map λ (x:Nat)=>(x:Int)) (by exact bD _);rw[← dX]at this;rwa[mem_cast]at this))) λ h=>nomatch h
 ·exact Ex.one (ba.ite (p:=decide ((1:Int)<(k:Int))) (Tr.cmp (Ev.nm 6 rfl rfl) Ev.int cB.Mq) (λ h=>absurd h (by simp;omega)) λ j=>Ex.nil)
end
end
section
set_option backward.match.sparseCases false
section
variable {c:Cx}{n:Nat}
theorem Gv(G:PG c){css:List (List Nat)}{e:VE}{ρ:List Sl}{d:D}{q p1 p2 p3:Pos}(q1:e.vn[0]? =some ("members":Str))(q2:0<e.k)(q3:ρ[0]? =some .no)(q4:e.env.kindOf "sorted"=some .globalImplicit)(hd:d∈css.map D.dm):El c (n+17) e ρ (.Name "members" q) [] d (pv d).isSome λ ρ'=>∀y,pv d=some y→Ev c (n+17) e ρ' (.Call (.Name "sorted" p1) [.Name "members" p2] [] p3) y:=by
 refine jw hd λ xs j=>?_;exact El.nm 0 q1 q2 q3 λ z hz=>by
  cases hz;exact Ev.call q4 G.sorted trivial (ck.cons (Ev.nm 0 q1 (by rw[bp ((ay.mp q3).1)])) .nil) .nil (Fn.sb (n:=n+13))
noncomputable def Vq:List Stmt:=nD sR.body 16
theorem Tw(A:All c){u:rS}{L:Addr}{i:DK}{k:Nat}{mY:List (List Nat)}(X:End i k mY)(h0:i.dd≠0):Ex c (n+17) (Fp u L) (D9 i k mY (al 3 .no)) (match Vq with|.If _ b _ _::_=>b|_=>[]) (.next (D9 i k mY (al 3 .no))):=by
 have Ol:=X.l6 false none;have hc:=Bq (n:=n) A X.V X.h4 X.k1 X.km (X.k3 h0);rw[X.b h0]at hc Ol;refine Ex.weak (ρ₁:=D9 i k mY [.val (.lst (oD mY)),.no,.no]) ?_ (by repeat (first|exact cx.nil|refine cx.cons (.inr rfl) ?_|refine cx.cons (.inl rfl) ?_));refine Ex.seq (ba.lh 22 (gz.comp (tn:=["members"]) (ix:=[]) (by kernel_rfl) pv (kg.of (Ev.call (by kernel_rfl) A.Q.gC A.Q.kC (ck.cons (Ev.nm 20 rfl rfl) (ck.cons (Ev.nm 6 rfl rfl) .nil)) (ou.cons (Ev.nm 21 rfl rfl) (ou.cons Ev.GH .nil)) hc) Ib.list) (by simp;exact af Ol (aG _ _)) λ C x hx=>Gv A.G rfl (od rfl) rfl (by kernel_rfl) hx) rfl (od rfl) (od rfl)) ?_;rw[nX];refine Ex.freeze 22 rfl rfl rfl ?_;exact Ex.one (ba.ite (p:= !decide (mY=mY)) (Tr.cmp (Ev.nm 22 rfl rfl) (Ev.nm 19 rfl rfl) (cB.Jn (by exact bD _))) (λ h=>by simp at h) λ z=>Ex.nil)
theorem Tv(A:All c){u:rS}{L:Addr}{i:DK}{k:Nat}{mY:List (List Nat)}(X:End i k mY)(h0:i.dd≠0):Ex c (n+17) (Fp u L) (D9 i k mY (al 3 .no)) (match Vq with|.If _ _ o _::_=>o|_=>[]) (.next (D9 i k mY (al 3 .no))):=by
 have a1:=dC (i.hd.fdiv 3) (show(0:Int)<3 by decide);obtain⟨j,hj⟩:∃j:Nat,(j:Int)=1+(i.hd.fdiv 3).fmod 3:=⟨(1+(i.hd.fdiv 3).fmod 3).toNat,rZ (Int.add_nonneg (by decide) (dC _ (by decide)))⟩;have US:0<j:=cz.mp (hj▸jE (by decide) (Int.add_le_add_left a1 1));have Ol:=X.l6 false (some j);obtain⟨c1,c2,c3⟩:=X.c h0 j US;have Yu:=X.l;have hc:=Bp (n:=n) A (j:=j) X.V X.h4 X.k1 X.km (X.k3 h0) US;generalize md (dZ i.rows) i.m k false (some j)=told at Ol c1 c2 c3 hc;refine Ex.weak (ρ₁:=D9 i k mY [.val (.lst (oD told)),.no,.val (.int (j:Int))]) ?_ (by repeat (first|exact cx.nil|refine cx.cons (.inr rfl) ?_|refine cx.cons (.inl rfl) ?_));refine Ex.seq (ba.asg 24 (d:=.int (j:Int)) (Ev.cast (by rw[hj]) (Ev.bin Ev.int (Ev.bin (Ev.bin (Ev.nm 2 rfl rfl) Ev.int (gF.LB (by decide) (by decide))) Ev.int (gF.xr (by decide))) gF.rR)) rfl (od rfl) (od rfl)) ?_;refine Ex.seq (ba.lh 22 (gz.comp (tn:=["members"]) (ix:=[]) (by kernel_rfl) pv (kg.of (Ev.call (by kernel_rfl) A.Q.gC A.Q.kC (ck.cons (Ev.nm 20 rfl rfl) (ck.cons (Ev.nm 6 rfl rfl) .nil)) (ou.cons (Ev.nm 21 rfl rfl) (ou.cons Ev.GH (ou.cons (Ev.nm 24 rfl rfl) .nil))) hc) Ib.list) (by simp;lia) λ C x hx=>Gv A.G rfl (od rfl) rfl (by kernel_rfl) hx) rfl (od rfl) (od rfl)) ?_;rw[nX];refine Ex.freeze 22 rfl rfl rfl ?_;refine Ex.one (ba.ite (p:=false||false) (Tr.L3 (Tr.cast (b':=((told.length:Int)!=(if(mY.length:Int)<(j:Int)then(mY.length:Int)else(j:Int)))) (by rw[c3,Rp];simp) (Tr.cmp (Ev.call (by kernel_rfl) A.G.len trivial (ck.cons (Ev.nm 22 rfl rfl) .nil) .nil (xx _ (by lia))) (Ev.call (by kernel_rfl) A.G.min trivial (ck.cons (Ev.nm 24 rfl rfl) (ck.cons (Ev.call (by kernel_rfl) A.G.len trivial (ck.cons (Ev.nm 19 rfl rfl) .nil) .nil (xx _ (by lia))) .nil)) .nil (Fn.min_two (n:=n+16))) cB.KI))
  λ z=>Tr.cast (b':= !decide (([]:List Int)=[])) rfl (Tr.cmp (gz.ev (q:=.lst (D.ints [])) ?_ rfl) (Ev.lst .nil) (cB.KH (ys:=[]) (by lia)))) (λ h=>nomatch h) λ z=>Ex.nil)
 rw[show D.ints []=(oD told).filterMap λ z=>(none:Option D)from (t7 _).symm];refine gz.comp (tn:=["members"]) (ix:=[19,22]) (by kernel_rfl) (λ z=>none) (kg.of (Ev.nm 22 rfl rfl) Ib.list) (by simp[oD];lia) λ C x hx=>?_;refine jw hx λ y hy=>?_;have xH:=sg c1 hy;refine El.Fe 0 rfl (od rfl) rfl (Tr.cast (b':=(!decide (y∈mY))||(((1:Nat):Int)!=1)) (by simp[c2 y hy]) (Tr.L3 (Tr.cmp (Ev.nm 0 rfl rfl) (Ev.nm 1 rfl rfl) (cB.Ff (by lia))) λ z=>Tr.cmp (Ev.cast (by rw[xH]) (Ev.count (n:=n+16) (xss:=jK told) (xs:=y.map λ (x:Nat)=>(x:Int)) (Ev.cast (by rw[lA]) (Ev.nm 2 rfl rfl)) (Ev.cast (by rw[dX]) (Ev.nm 0 rfl rfl)))) Ev.int cB.KI)) λ h=>nomatch h
theorem Tu(A:All c){u:rS}{L:Addr}{i:DK}{k:Nat}{mY:List (List Nat)}(X:End i k mY):Ex c (n+17) (Fp u L) (D9 i k mY (al 3 .no)) (sR.body.drop 16) (.ret (.bool true)):=by
 refine Ex.seq (ρ':=D9 i k mY (al 3 .no)) (ba.ite (p:=i.dd==0) (Tr.cmp (Ev.nm 4 rfl rfl) Ev.int cB.Ei) (λ h=>Tx A X (by simpa using h)) λ h=>?_) (Ex.one (ba.ret Ev.GH));have h0:i.dd≠0:=by simpa using h
 exact Ex.one (ba.ite (p:=i.dd==1) (Tr.cmp (Ev.nm 4 rfl rfl) Ev.int cB.Ei) (λ z=>Tw A X h0) λ z=>Tv A X h0)
end
end
theorem BR(k:Nat):(j_ k).length≤6:=L8 (M:= λ k=>(j_ k).length≤6) k (by decide) (by decide) (by decide) (by decide) λ k=>bS _
theorem J8:∀k,1≤k→k≤3→(jK (j_ k)).Pairwise λ x y=>A9 x y=true:= λ k h1 h3=>Rz (M:= λ k=>(jK (j_ k)).Pairwise λ x y=>A9 x y=true) h1 h3 (by decide +kernel) (by decide +kernel) (by decide +kernel)
theorem yP(vs:List Vo)(m k:Nat)(b:Bool)(o:Option Nat):(md vs m k b o).length≤6:=by
 unfold md
 split
 ·exact(by decide:1≤6)
 ·exact af (bG _ _) (BR k)
theorem Dh(i:DK){k:Nat}(H:fD i.m i.rows)(h4:i.m≤4)(hd:i.dd=0∨i.dd=1∨i.dd=2)(k1:1≤k)(km:k≤i.m)(k3:i.dd≠0→k≤3):
  ∃mY,End i (lD (i.dd==0) i.rows i.m k 0 [iE i.rows]).1 mY∧mY.Perm (pJ ((lD (i.dd==0) i.rows i.m k 0 [iE i.rows]).2.map (·.1)) [])∧(jK mY).Pairwise (λ x y=>A9 x y=true)∧mY.length≤6:=by
 have V:=H.vs
 by_cases h0:i.dd=0
 ·rw[show(i.dd==0)=true by simpa using h0];refine dj (yD H k 0 _ _ (Rel.start H km) (by exact gO _)) λ s' Qc e1 R' e2=>?_;rw[e1,gO];have e2:=e2 (by exact dA k1);have JC:cJ (iE i.rows).1=[]:=by simp[iE,cJ,ql]
  rw[JC]at e2;have ho:md (dZ i.rows) i.m k true none=[cJ s'.1]:=by unfold md;rw[if_pos rfl,e2]
  refine⟨[cJ s'.1],⟨V,h4,by trivial,km,k3,hd,by exact bD _,yP _ _ _,λ z=>⟨ho,_,rfl,?_,λ hk=>?_⟩,λ h=>absurd h0 h,λ h=>absurd h0 h⟩,?_,jG _ _,by exact bD _⟩
  ·rw[(eK _).length_eq,R'.C.l];exact af km h4
  ·refine dj (C0 H (k-1) 0 _ _ (Rel.start (k:=k) H km) (by rw[gO,jC k1];exact az _)) λ s1 s2 n1 n2 n3=>?_;rw[jC k1,e1]at n2;have Ce:s2=s':=by simp only[x3,nu,and_true]at n2;exact n2.2.symm
   refine dj (yD H (k-1) 0 _ _ (Rel.start (k:=k-1) H (af (Nat.sub_le k 1) km)) (by exact gO _)) λ s3 Yl m1 m2 m3=>?_;rw[n1]at m1;have JB:s3=s1:=by simp only[x3,nu,and_true]at m1;exact m1.2.symm
   have m3:=m3 (by lia);rw[JC,JB]at m3;rw[JB]at m2;refine⟨cJ s1.1,by unfold md;rw[if_pos rfl,m3],by rw[(eK _).length_eq,m2.C.l],λ y hy=>?_⟩;exact(eK _).mem_iff.mpr (Ce▸n3 y ((eK _).mem_iff.mp hy))
  ·show List.Perm [cJ s'.1] (pJ [s'.1] []);rfl
 ·rw[show(i.dd==0)=false by simpa using h0];have Qv:=(xl (b:=false) (rows:=i.rows) (m:=i.m) k 0 [iE i.rows]);have h1:1≤(lD false i.rows i.m k 0 [iE i.rows]).1:=by
   obtain⟨r,rfl⟩:∃r,k=r+1:=⟨k-1,by exact(jC k1).symm⟩;rw[ri,if_neg (by simp)];exact(xl (b:=false) r 1 _).1
  have h3:=k3 h0;have Iq:=HJ H (k:=(lD false i.rows i.m k 0 [iE i.rows]).1) (by lia) k 0 [(iE i.rows,(dZ i.rows).map λ z=>0)] rfl (λ p hp=>by rw[aj]at hp;subst hp;exact Rel.start H (by lia));simp only[a9,jZ,j4,List.flatMap_nil,bK,DX]at Iq;generalize vG:(lD false i.rows i.m k 0 [iE i.rows]).1=k' at*;rw[Iq];have hz:∀c∈lv (dZ i.rows) i.m k' k' (iE i.rows).1 ((dZ i.rows).map λ z=>0),oH i.m k' k' c:=B5 V k' 0 _ _ (by lia) (oH.nil (by lia)) (oT.start _);have kt:(iE i.rows).1=[]:=rfl;rw[kt]at hz⊢;refine xa (IK (lv (dZ i.rows) i.m k' k' [] ((dZ i.rows).map λ z=>0)) [] ml) λ d1 d2=>?_;have d2:∀c,c∈pJ (lv (dZ i.rows) i.m k' k' [] ((dZ i.rows).map λ z=>0)) []↔∃d∈lv (dZ i.rows) i.m k' k' [] ((dZ i.rows).map λ z=>0),c=cJ d:= λ c=>by rw[d2];simp
  generalize Xc:pJ (lv (dZ i.rows) i.m k' k' [] ((dZ i.rows).map λ z=>0)) []=tj at d1 d2⊢;have td:∀c∈tj,c∈j_ k':= λ c hc=>by
   refine cW ((d2 c).mp hc) λ d hd z1=>?_;subst z1;exact(oE h1 (by lia) h4 (hz d hd) (t:=0)).1
  have hp:=DE h1 (by lia) d1 td;have hl:(IJ k' tj).length≤6:=af (bG _ _) (BR k');refine⟨IJ k' tj,⟨V,h4,h1,by lia,λ z=>by lia,hd,hl,yP _ _ _,λ h=>absurd h h0,λ z=>?_,λ z j hj=>?_⟩,hp,?_,hl⟩
  ·unfold md;rw[if_neg (by decide)];exact EF h1 (by lia) h4 hz d2
  ·unfold md;rw[if_neg (by decide)];refine jH (CP hj h1 (by lia) h4 hz d2 d1) λ t1 t2 t3=>?_;exact⟨t1,λ c hc=>hp.mem_iff.mpr (t2 c hc),by rw[t3,hp.length_eq]⟩
  ·exact(J8 k' h1 (by lia)).sublist (qY.map _)
structure PY(c:Cx):Prop where
 O1:FnAt c 621 sR .none
 O2:FnAt c 616 nk .none
 gN:cV c "_law_next" (.ref 616)
 kN:jz c (.ref 616)
 O3:FnAt c 611 uI .none
 gM:cV c "_law_made" (.ref 611)
 kM:jz c (.ref 611)
section
variable {c:Cx}{n:Nat}
theorem B9{ns:List Int}{j:Nat}(h:j<ns.length):(D.ints ns)[((j:Nat):Int).toNat]? =some (.int (ns.getD j 0)):=intAt h
theorem vU:∀rows:List Row,D.ints (rows.map λ z=>0)=(rows.map iF).filterMap λ z=>some (D.int 0)
 |[]=>rfl
 |r::rows=>by show D.int 0::D.ints (rows.map λ z=>0)=D.int 0::(rows.map iF).filterMap (λ z=>some (D.int 0));rw[vU rows]
noncomputable def Rd:List Stmt:=nD sR.body 8
noncomputable def Rc:Expr:=pH sR.body 8
noncomputable abbrev Jq(xs ns:List Int)(hd sz dd:Int)(m k:Nat)(l:List Sl):List Sl:=[.val (.lst (D.ints xs)),.val (.lst (D.ints ns)),.val (.int hd),.val (.int sz),.val (.int dd),.val (.int (m:Int)),.val (.int (k:Int))]++l
theorem Km(G:PG c){u:rS}{L:Addr}{xs ns:List Int}{hd sz dd:Int}{m k:Nat}(h4:m≤4):∀(as:List Int) (acc:List Row),acc.length+as.length≤900→
  Lp c (n+17) (Fp u L) (Jq xs ns hd sz dd m k ([.own true (.lst (acc.map iF))]++al 17 .no)) Rc Rd (D.ints as) (.next (Jq xs ns hd sz dd m k ([.own true (.lst ((acc++as.map (rowOf m)).map iF))]++al 17 .no))):=by
 intro w
 induction w with
 |nil=>
  intro acc z;rw[jZ,bK];exact Lp.nil
 |cons a as ih=>
  intro acc hz;simp only[aJ]at hz;rw[show acc++(a::as).map (rowOf m)=(acc++[rowOf m a])++as.map (rowOf m) by simp];refine Lp.step (ρ'':=Jq xs ns hd sz dd m k ([.own true (.lst ((acc++[rowOf m a]).map iF))]++al 17 .no)) (ju.name 8 rfl (od rfl) (od rfl)) ?_ (ih _ (by simp;exact JU hz rfl));refine Ex.weak (ρ₁:=Jq xs ns hd sz dd m k ([.own true (.lst ((acc++[rowOf m a]).map iF)),.val (.int a)]++al 16 .no)) ?_ (by repeat (first|exact cx.nil|refine cx.cons (.inr rfl) ?_|refine cx.cons (.inl rfl) ?_));rw[hJ];refine Ex.one (ba.append 7 (d:=iF (rowOf m a)) (Ev.tup (ck.cons (gz.ev (q:=.lst (D.nats (rowOf m a).1)) ?_ rfl) (ck.cons (Ev.bin Ev.int (Ev.bin (Ev.bin (Ev.call (by kernel_rfl) G.abs trivial (ck.cons (Ev.nm 8 rfl rfl) .nil) .nil Fn.abs) Ev.int (gF.LB (by decide) (by decide))) Ev.int (gF.xr (by decide))) gF.rR) .nil))) rfl rfl (by rw[aE];exact GY hz rfl));unfold rowOf;rw[← lz];refine gz.comp (tn:=["cand"]) (ix:=[8]) (by kernel_rfl) (ds:=D.nats (aw m)) (qm λ c=>vT (a.fdiv (2^c)) 1 !=0) (rn G (by exact af h4 (aG _ _)) (by kernel_rfl) (Ev.nm 5 rfl rfl)) (by simp[D.nats];exact af h4 (aG _ _)) λ C d hd=>?_;obtain⟨x,hx,rfl⟩:=gh hd;exact Cq rfl (od rfl) rfl (Tr.val (Ev.bin (Ev.bin (Ev.nm 1 rfl rfl) (Ev.nm 0 rfl rfl) (gF.Q3 (by exact cy _))) Ev.int gF.TO) kA.int) (Ev.nm 0 rfl rfl)
set_option maxHeartbeats 1000000 in
theorem Fy(A:All c)(W:PY c){xs:List Int}(hx:xs.length≤63):Fn c (n+18) (.ref 621) [.lst (D.ints xs)] [] (.bool true):=by
 refine eX W.O1 λ u F p hp hc=>?_;have G:=A.G;refine Fn.of (vn:=Nj) (np:=1) [.pos 0] F (by kernel_rfl) (by kernel_rfl) rfl rfl ?_ λ L=>?_
 ·intro s vs ks y hv hk;refine xe (rB hv) λ a z1=>?_;subst z1;cases Bb hk;exact .of_eq (by kernel_rfl)
 ·show Ex c (n+17) (Fp u L) (.val (.lst (D.ints xs))::al 24 .no) _ _;have e5:(D.ints xs).take 5=D.ints (xs.take 5):=by simp[D.ints,Ax]
  refine Ex.seq (ba.asg 1 (d:=.lst (D.ints (xs.take 5))) (Ev.cast (by rw[← e5];rfl) (Ev.MC (k:=5) (Ev.nm 0 rfl rfl) (by decide) (by simp[D.ints];exact af hx (aG _ _)))) rfl (od rfl) (od rfl)) ?_;have Qk:(xs.take 5).length≤5:=by rw[List.length_take];exact x5 _ _
  generalize xs.take 5=ns at Qk⊢;have UN:(D.ints ns).length=ns.length:=by exact aE _
  refine Ex.seq (ba.asg 2 (d:=.int (OE ns)) (Ev.cast ?_ (Ev.ite (p:= !(D.ints ns).isEmpty) (d₁:=.int (ns.getD 0 0)) (d₂:=.int 0) (Tr.val (Ev.nm 1 rfl rfl) (kA.list (by exact u_ UN Qk rfl))) (λ h=>Ev.sub (Ev.nm 1 rfl rfl) Ev.int (Sub.list (by decide) (B9 (j:=0) (by cases ns with|nil=>trivial|cons a l=>simp)) (by lia))) λ y=>Ev.int)) rfl (od rfl) (od rfl)) ?_
  ·cases ns with
   |nil=>rfl
   |cons a l=>rfl
  have Mg:Fn c (n+17) (.builtin "len") [.lst (D.ints ns)] [] (.int (ns.length:Int)):=by
   have:=Fn.la (c:=c) (n:=n+17) (ds:=D.ints ns) (by lia);rwa[UN]at this
  refine Ex.seq (ba.asg 3 (d:=.int (Kc ns)) (Ev.cast ?_ (Ev.ite (p:=decide ((1:Int)<(ns.length:Int))) (d₁:=.int (ns.getD 1 0)) (d₂:=.int 0) (Tr.cmp (Ev.call (by kernel_rfl) G.len trivial (ck.cons (Ev.nm 1 rfl rfl) .nil) .nil Mg) Ev.int cB.Mq) (λ h=>Ev.sub (Ev.nm 1 rfl rfl) Ev.int (Sub.list (by decide) (B9 (j:=1) (by simp at h;exact cz.mp h)) (by lia))) λ y=>Ev.int)) rfl (od rfl) (od rfl)) ?_
  ·unfold Kc
   by_cases h:(1:Int)<(ns.length:Int)
   ·rw[decide_eq_true h,if_pos rfl]
   ·rw[decide_eq_false h,if_neg (by decide),ai,bk (by lia)];rfl
  generalize Yr:OE ns=hd;generalize lb:Kc ns=sz;refine Ex.seq (ba.asg 4 (Ev.bin (Ev.nm 2 rfl rfl) Ev.int (gF.xr (by decide))) rfl (od rfl) (od rfl)) ?_;have Ya:=dC hd (show(0:Int)<3 by decide);have LC:=jF hd (show(0:Int)<3 by decide);have zv:hd.fmod 3=0∨hd.fmod 3=1∨hd.fmod 3=2:=V3 Ya LC;generalize hd.fmod 3=dd at zv⊢;refine xa (H3 sz) λ hm WT=>?_;have b1:=dC (sz.fdiv 4) (show(0:Int)<4 by decide);refine Ex.seq (ba.asg 5 (d:=.int (qx sz:Int)) (Ev.sub (d₁:=.lst (D.nats [4,3,4,2])) (Ev.lst (ck.cons Ev.int (ck.cons Ev.int (ck.cons Ev.int (ck.cons Ev.int .nil)))) (by decide)) (Ev.bin (Ev.bin (Ev.nm 3 rfl rfl) Ev.int (gF.LB (by decide) (by decide))) Ev.int (gF.xr (by decide))) (Sub.list b1 (by show(D.nats [4,3,4,2])[((sz.fdiv 4).fmod 4).toNat]? =_;unfold D.nats;rw[bR,WT];rfl) (by simp[D.nats]))) rfl (od rfl) (od rfl)) ?_;refine b_ (KT (dd:=dd) (sz:=sz) hm) λ q1 q2 q3 q4=>?_;have h4:qx sz≤4:=by lia
  have UL:(qx sz:Int)≠0:=by lia
  refine Ex.seq (ba.asg 6 (Ev.bin Ev.int (Ev.bin (Ev.bin (Ev.nm 3 rfl rfl) Ev.int (gF.xr (by decide))) (Ev.nm 5 rfl rfl) (gF.xr UL)) gF.rR) rfl (od rfl) (od rfl)) ?_;refine Ex.seq (ρ':=Jq xs ns hd sz dd (qx sz) (KU dd sz (qx sz)) (al 18 .no)) (ba.ite (p:=(dd !=0)&&((qx sz:Int)==4)) (Tr.qL (Tr.cmp (Ev.nm 4 rfl rfl) Ev.int cB.KI) λ y=>Tr.cmp (Ev.nm 5 rfl rfl) Ev.int cB.Ei) (λ h=>?_) λ h=>?_) ?_
  ·have hh:dd≠0∧qx sz=4:=by simp at h;lia
   rw[if_pos hh]at q4;unfold Jq;rw[q4];exact Ex.one (ba.asg 6 (Ev.bin Ev.int (Ev.bin (Ev.nm 3 rfl rfl) Ev.int (gF.xr (by decide))) gF.rR) rfl (od rfl) (od rfl))
  ·have hh:¬(dd≠0∧qx sz=4):=by simp at h;lia
   rw[if_neg hh]at q4;unfold Jq;rw[q4];exact Ex.nil
  generalize qx sz=m at hm h4 UL q1 q2 q3 q4⊢;generalize KU dd sz m=k at q1 q2 q3 q4⊢;clear q4;refine Ex.seq (ba.lh 7 (gz.lst .nil) rfl (od rfl) (od rfl)) ?_;have hR:=C2 h4 Qk;have ng:(srcOf ns).length≤3:=by have:=hR.l;rwa[aE]at this
  have e2:(D.ints ns).drop 2=D.ints (ns.drop 2):=by simp[D.ints,List.map_drop]
  refine Ex.seq (ρ':=Jq xs ns hd sz dd m k ([.own true (.lst (((srcOf ns).map (rowOf m)).map iF))]++al 17 .no)) (ba.for (kg.of (d:=.lst (D.ints (srcOf ns))) (Ev.cast ?_ (Ev.L3 (p:= !(D.ints (ns.drop 2)).isEmpty) (d₁:=.lst (D.ints (ns.drop 2))) (d₂:=.lst (D.ints [1])) (Ev.cast (by rw[← e2];rfl) (Ev.from (k:=2) (Ev.nm 1 rfl rfl) (by decide) (by lia))) (kA.list (by simp[D.ints];exact af Qk (aG _ _))) λ y=>Ev.lst (ck.cons Ev.int .nil) (by decide))) Ib.list) λ ds iP=>(by subst iP;exact Km G h4 (srcOf ns) [] (by simp;exact af ng (aG _ _)))) ?_
  ·unfold srcOf;cases ns.drop 2 with
   |nil=>rfl
   |cons a l=>rfl
  refine Ex.freeze 7 rfl rfl rfl ?_;generalize UA:(srcOf ns).map (rowOf m)=rows at hR⊢
  let i:DK:=⟨xs,ns,hd,sz,dd,m,rows⟩
  refine Ex.seq (ba.asg 9 (d:=.lst ([iE rows].map sM)) (Ev.lst (ck.cons (Ev.tup (ck.cons (Ev.tup .nil) (ck.cons (gz.ev (q:=.lst (D.ints (rows.map λ y=>0))) ?_ rfl) (ck.cons Ev.int .nil))) (by simp)) .nil) (by simp)) rfl (od rfl) (od rfl)) ?_
  ·rw[show D.ints (rows.map λ y=>0)=(rows.map iF).filterMap λ y=>some (D.int 0)from vU rows];refine gz.comp (tn:=["row"]) (ix:=[]) (by kernel_rfl) (λ y=>some (D.int 0)) (kg.of (Ev.nm 7 rfl rfl) Ib.list) (by rw[aE];have:=hR.l;exact af this (aG _ _)) λ C d hd=>?_;exact El.nm 0 rfl (od rfl) rfl λ z hz=>by cases hz;exact Ev.int
  have ng:=Kj (n:=n) (u:=u) (L:=L) (i:=i) G W.O2 W.gN W.kN hR h4 (k:=k) (by exact af q2 h4) k 0 [iE rows] (by lia) (λ s hs=>by rw[aj]at hs;subst hs;exact⟨_,Rel.start hR q2⟩) (by simp);refine xa (ES (b:=dd==0) hR h4 (k:=k) (by lia) k 0 [iE rows] (by lia) (λ s hs=>by rw[aj]at hs;subst hs;exact⟨_,Rel.start hR q2⟩) (by simp)) λ v1 v2=>?_;refine eG (Dh i hR h4 zv q1 q2 q3) λ mY X f1 f2 f3=>?_;have ei:(i.dd==0)=(dd==0):=rfl;rw[ei,show i.rows=rows from rfl,show i.m=m from rfl]at ng X f1;generalize lD (dd==0) rows m k 0 [iE rows]=r at ng v1 v2 X f1;obtain⟨k',ss⟩:=r;simp only at ng v1 v2 X f1;refine Ex.seq (ρ':=u9 i k' ([.no,.val (.lst (ss.map sM))]++al 15 .no)) (ba.for (rn G (m:=k) (by exact G6 q2 h4 rfl) (by kernel_rfl) (Ev.nm 6 rfl rfl)) λ ds hd=>(by subst hd;rw[Eo];exact ng)) ?_;refine Ex.seq (ba.lh 19 (gz.lst .nil) rfl (od rfl) (od rfl)) ?_;refine Ex.seq (ρ':=u9 i k' ([.no,.val (.lst (ss.map sM))]++al 9 .no++[.own true (.lst (oD (pJ (ss.map (·.1)) [])))]++al 5 .no)) (ba.for (kg.of (Ev.nm 9 rfl rfl) Ib.list) λ ds hd=>(by subst hd;exact Pl (n:=n) G ss [] (λ s h=>by have:=v2 s h;exact rC this rfl) (by simp;exact rC v1 rfl))) ?_;have R3:G0 c (n+17) (oD (pJ (ss.map (·.1)) [])) (oD mY):=by
   rw[lA,lA];exact G0.lists (n:=n+16) (f1.map _) f2 (by rw[jK,aE,← f1.length_eq];exact f3)
  refine Ex.seq (ba.sort 19 R3 rfl rfl) ?_;refine Ex.freeze 19 rfl rfl rfl ?_;refine Ex.seq (ba.asg 20 (Ev.call (by kernel_rfl) W.gM W.kM (ck.cons (Ev.nm 5 rfl rfl) (ck.cons (Ev.nm 7 rfl rfl) .nil)) .nil (Df (n:=n+5) A.P A.PC G W.O3 (m:=m) (rows:=rows) (by exact ab q1 q2) h4 hR.r (by have:=hR.l;exact rC this rfl))) rfl (od rfl) (od rfl)) ?_;refine Ex.seq (ba.asg 21 Ev.ny rfl (od rfl) (od rfl)) ?_;exact Ex.JK (Tu (n:=n) (u:=u) (L:=L) A X) (by repeat (first|exact cx.nil|refine cx.cons (.inr rfl) ?_|refine cx.cons (.inl rfl) ?_))
end
section
set_option backward.match.sparseCases false
noncomputable def jI(K:Frag):Frag:=K.filter λ p=> !qB p.2
noncomputable def Dm:Nat→Frag→Bool
 |_,[]=>true
 |n,p::K=>jv n p.1&&Dm (p.1+1) K
theorem FN{n:Nat}{K:Frag}(h:Dm n K=true):∀p∈K,n≤p.1:=by
 induction K generalizing n with
 |nil=>exact λ _=>nn
 |cons q K ih=>
  intro p hp;have h:=aL.mp h;have h1:=cK h.1;exact(mc hp).elim (λ e=>e▸h1) λ hp=>af h1 (iC (ih h.2 p hp))
theorem t9{n:Nat}{K:Frag}{a:Addr}{o:Obj}(hi:Dm n K=true)(h:(jI K).lookup a=some o):K.lookup a=some o∧qB o=false∧(a,o)∈K:=by
 induction K generalizing n with
 |nil=>cases h
 |cons q K ih=>
  have hi:=(aL.mp hi).2;cases hq:qB q.2 with
  |true=>
   refine jH (ih hi ((congrArg (pV a) (bZ (p:= λ p:Addr×Obj=> !qB p.2) (by rw[hq];exact bz))).symm.trans h)) λ h1 h2 h3=>?_;have ku:(a==q.1)=false:=beq_eq_false_iff_ne.mpr λ e=>ak _ (e▸FN hi _ h3);exact⟨by rw[aX,ku];exact h1,h2,.tail _ h3⟩
  |false=>
   have h:=(congrArg (pV a) (bY (p:= λ p:Addr×Obj=> !qB p.2) (by rw[hq];rfl))).symm.trans h;rw[aX]at h⊢;cases he:a==q.1 with
   |true=>
    rw[he]at h;cases h;exact⟨rfl,hq,eq_of_beq he▸ .head _⟩
   |false=>
    rw[he]at h;exact jH (ih hi h) λ h1 h2 h3=>⟨h1,h2,.tail _ h3⟩
noncomputable def yz:Data→Option (Array ag×Nat)
 |.seq vs n=>some (vs,n)
 |_=>none
noncomputable def wD:Data→Option (Array ag)
 |.fields vs=>some vs
 |_=>none
noncomputable def fnOf:Data→Option FuncData
 |.func f=>some f
 |_=>none
theorem tU{d:Data}{p:Array ag×Nat}(h:yz d=some p):d=.seq p.1 p.2:=Jm (g:= λ p=>Data.seq p.1 p.2) (o:=yz d) (by cases d<;>first|exact trivial|rfl) h
theorem uC{d:Data}{p:Array ag}(h:wD d=some p):d=.fields p:=Jm (g:=Data.fields) (o:=wD d) (by cases d<;>first|exact trivial|rfl) h
theorem IF{d:Data}{p:FuncData}(h:fnOf d=some p):d=.func p:=Jm (g:=Data.func) (o:=fnOf d) (by cases d<;>first|exact trivial|rfl) h
noncomputable def HO:ag→Option Addr
 |.ref a=>some a
 |_=>none
theorem HN{v:ag}{a:Addr}(h:HO v=some a):v=.ref a:=Jm (g:=dR) (o:=HO v) (by cases v<;>first|exact trivial|rfl) h
noncomputable def AL:ag→Option (Str×Tok)
 |.str x t=>some (x,t)
 |_=>none
theorem xb{v:ag}{p:Str×Tok}(h:AL v=some p):v=.str p.1 p.2:=Jm (g:= λ p=>Value.str p.1 p.2) (o:=AL v) (by cases v<;>first|exact trivial|rfl) h
noncomputable def FG:ag→Option (Int×Tok)
 |.int x t=>some (x,t)
 |_=>none
theorem B_{v:ag}{p:Int×Tok}(h:FG v=some p):v=.int p.1 p.2:=Jm (g:= λ p=>nG p.1 p.2) (o:=FG v) (by cases v<;>first|exact trivial|rfl) h
noncomputable def GK:ag→Option Bool
 |.bool x=>some x
 |_=>none
theorem GJ{v:ag}{p:Bool}(h:GK v=some p):v=.bool p:=Jm (g:=Value.bool) (o:=GK v) (by cases v<;>first|exact trivial|rfl) h
theorem ta{α:Type}{o:Option α}(h:o.isSome=true):∃a,o=some a:=dF.mp h
noncomputable def MJ(K:Frag):List (Addr×Addr):=K.filterMap λ p=>(wD p.2.data).bind λ vs=>(vs[11]?).bind λ v=>(HO v).bind λ P=>if p.2.cls=.type "code" then some (p.1,P)else none
noncomputable def y_(o:Option Obj):Bool:=(o.bind λ o=>wD o.data).any (λ vs=>decide (vs.toList=[]))&&decide (o.map (λ o=>(o.cls,o.dict,o.slots.toList))=some (.none,none,[]))
noncomputable def GG(vs:Array ag)(P:Addr):Bool:=decide (vs.getD 11 .none=.ref P)&&decide (vs[11]? =some (.ref P))&&(AL (vs.getD 18 .none)).isSome&&(FG (vs.getD 7 .none)).isSome&&(GK (vs.getD 9 .none)).isSome&&(FG (vs.getD 10 .none)).isSome
noncomputable def EH(K:Frag)(p:Addr×Addr):Bool:=y_ (K.lookup p.2)&& !Nat.beq p.1 p.2&&(((K.lookup p.1).map (·.cls))==some (.type "code"))&&((K.lookup p.1).bind λ o=>wD o.data).any λ vs=>GG vs p.2
noncomputable def tP(K:Frag):List (Addr×Addr):=(MJ K).filter (EH K)
theorem y9{o:Option Obj}(h:y_ o=true):o=some {cls:=.none,data:=.fields #[]}:=by
 refine xa (aL.mp h) λ h1 h2=>cW (vL h1) λ vs h1 h3=>cW (cL.mp h1) λ o e q=>?_;subst e;have e1:=congrArg (λ p:ag×Option Addr×List _=>({cls:=p.1,dict:=p.2.1,data:=o.data,slots:=⟨p.2.2⟩}:Obj)) (cF (of_decide_eq_true h2));exact(congrArg some e1).trans (congrArg (λ d=>some ({cls:=.none,data:=d}:Obj)) ((uC q).trans (congrArg (λ l=>Data.fields ⟨l⟩) (of_decide_eq_true h3))))
theorem vZ{K:Frag}{p:Addr×Addr}{h:Heap}(X:K.In h)(c:EH K p=true):(∃ps,h.IsCode p.1 p.2 ps∧h.TableAt p.1 p.2 ps)∧p.1<h.objs.size∧p.2<h.objs.size:=by
 obtain⟨c,c5⟩:=aL.mp c;obtain⟨c,c4⟩:=aL.mp c;obtain⟨c1,c2⟩:=aL.mp c;have hT:=X _ _ (y9 c1);obtain⟨vs,c5,c6⟩:=vL c5;obtain⟨o,e,c5⟩:=cL.mp c5;rw[e]at c4;have c4:=cF (eq_of_beq c4);have ho:=X _ _ e;obtain⟨c6,d6⟩:=aL.mp c6;obtain⟨c6,d5⟩:=aL.mp c6;obtain⟨c6,d4⟩:=aL.mp c6;obtain⟨c6,d3⟩:=aL.mp c6;obtain⟨d1,d2⟩:=aL.mp c6;obtain⟨x,e3⟩:=ta d3;obtain⟨f,e4⟩:=ta d4;obtain⟨b,e5⟩:=ta d5;obtain⟨g,e6⟩:=ta d6;have hd:=uC c5;refine⟨⟨#[],?_⟩,aI ho,aI hT⟩;exact⟨⟨_,vs,x.1,x.2,f.1,f.2,b,g.1,g.2,_,ho,hd,of_decide_eq_true d1,xb e3,B_ e4,GJ e5,B_ e6,hT,rfl,trivial,λ hn=>by rw[hn]at c2;simp at c2⟩,⟨⟨_,vs,ho,c4,hd,of_decide_eq_true d2⟩,hT⟩⟩
noncomputable abbrev GD(pr:Program)(w:a0)(K:Frag)(mg mb:Str→Option ag)(ob:Obj)(B:Nat):Cx:=⟨pr,w,jI K,mg,mb,4,ob,tP K,B⟩
theorem Kf{pr:Program}{w:a0}{K:Frag}{q:Program}{loose:List Str}{vD:ExcName→Option ag}{mg mb:Str→Option ag}{s:ae}(T:Top q loose vD mg mb s.heap)(X:K.In s.heap)(hg:s.gens= #[])(h1:Dm 0 K=true)(h4:nsIn K mainGlobals "__builtins__"=some (some (.ref 4))):∃ob,bF (GD pr w K mg mb ob s.heap.objs.size) s:=by
 obtain⟨bm,ob,b1,b2,b3,b4,b5,b6⟩:=T.bmain;have hb:=mg_of X T.g h4;rw[b1]at hb;cases hb;have X':(jI K).In s.heap:= λ a o e=>X a o (t9 h1 e).1;refine⟨ob,⟨?_,X',T.nolimit,T.g,T.b,b3,λ p hp=>(vZ X (aN.mp hp).2).1,AllBare.of_eq hg,az _⟩⟩;refine⟨λ x v e=>?_,T.builtins,b1,b2,b4,b5,b6,λ a o e=>aI (X' _ _ e),λ a o e=>(t9 h1 e).2.1,⟨?_,?_,?_,aI b3⟩,λ p hp=>(vZ X (aN.mp hp).2).2⟩
 ·cases v with
  |none=>exact mg_none_of X' T.g e
  |some v=>exact mg_of X' T.g e
 all_goals have:=aI b3;show _<s.heap.objs.size
 all_goals exact b8 (by decide) this
noncomputable def I6(fd:FuncData):rS:=⟨fd.name,fd.qualname,fd.doc,fd.pyModule,fd.annotations,fd.code,fd.closureTuple,fd.kwdefaults⟩
noncomputable def O0(K:Frag)(a:Addr):Option FuncData:=(K.lookup a).bind λ o=>fnOf o.data
noncomputable def pk(K:Frag)(a:Addr):rS:=match O0 K a with
 |some fd=>I6 fd
 |none=>⟨"","",.none,.none,none,.none,.none,.none⟩
noncomputable def codeAt(K:Frag)(T:List (Addr×Addr))(u:rS):Bool:=(HO u.code).any λ q=>(((K.lookup q).bind λ o=>wD o.data).any λ vs=>((vs[1]?).bind AL).any λ p=>p.1==u.qualname)&&T.any λ p=>Nat.beq p.1 q
noncomputable abbrev FV:=Arguments×FuncBody×iT×Addr×List (Str×Addr)×ag×Addr
noncomputable def fv(K:Frag)(a:Addr):Option FV:=(O0 K a).map λ fd=>(fd.params,fd.body,fd.scope,fd.globals,fd.closure,fd.defaults,fd.builtins)
noncomputable def FD.fa(d:FD)(v:ag):Option FV:=some (d.params,.stmts d.body,d.scope,mainGlobals,[],v,builtinsNs)
theorem OX{K:Frag}{a:Addr}{d:FD}{v:ag}(h:fv K a=d.fa v):(K.lookup a).map (·.data)=some (.func (d.fd v (pk K a))):=by
 refine cW (dY.mp h) λ fd h1 h2=>?_;have e:pk K a=I6 fd:=by unfold pk;rw[h1]
 refine cW (cL.mp h1) λ o e2 h3=>?_;rw[e,e2,jf,IF h3];exact congrArg (λ p:FV=>some (Data.func {name:=fd.name,qualname:=fd.qualname,params:=p.1,body:=p.2.1,scope:=p.2.2.1,globals:=p.2.2.2.1,closure:=p.2.2.2.2.1,defaults:=p.2.2.2.2.2.1,kwdefaults:=fd.kwdefaults,doc:=fd.doc,pyModule:=fd.pyModule,annotations:=fd.annotations,code:=fd.code,closureTuple:=fd.closureTuple,builtins:=p.2.2.2.2.2.2})) h2
theorem dz{c:Cx}{a:Addr}{d:FD}{v:ag}(h0:fv c.K a=d.fa v)(h2:codeAt c.K c.tabs (pk c.K a)=true)(h3:d.scope.kind=.function)(h4:d.scope.isCoroutine=false):FnAt c a d v:=by
 obtain⟨o,ho,hd⟩:=dY.mp (OX h0);refine⟨pk c.K a,?_,?_⟩
 all_goals
  obtain⟨q,hq,h2⟩:=vL h2;obtain⟨h2,hp⟩:=aL.mp h2;have hq:=HN hq
 ·obtain⟨vs,e,h2⟩:=vL h2;obtain⟨p,e2,h2⟩:=vL h2;obtain⟨o',e,e3⟩:=cL.mp e;obtain⟨x,e2,e4⟩:=cL.mp e2;exact⟨⟨o,ho,hd⟩,⟨q,o',vs,p.2,hq,e,uC e3,e2.trans (congrArg some ((xb e4).trans (congrArg (Value.str · p.2) (eq_of_beq h2))))⟩,rfl,rfl,rfl,rfl,h3,h4⟩
 ·obtain⟨p,hp,e⟩:=iV.mp hp;exact⟨p,hp,by rw[hq,En e]⟩
theorem gU{pr:Program}{w:a0}{K:Frag}{q:Program}{loose:List Str}{vD:ExcName→Option ag}{mg mb:Str→Option ag}{ob:Obj}{B:Nat}{h:Heap}(T:Top q loose vD mg mb h)(X:(jI K).In h){x:Str}{v:ag}(e:nsIn (jI K) mainGlobals x=some (some v)):cV (GD pr w K mg mb ob B) x v:=.inl (mg_of X T.g e)
theorem gB{pr:Program}{w:a0}{K:Frag}{q:Program}{loose:List Str}{vD:ExcName→Option ag}{mg mb:Str→Option ag}{ob:Obj}{B:Nat}{h:Heap}(T:Top q loose vD mg mb h)(X:(jI K).In h){x:Str}{v:ag}(e:nsIn (jI K) mainGlobals x=some none)(hx:x≠ "__name__")(hb:bootBuiltins x=some v):cV (GD pr w K mg mb ob B) x v:=.inr ⟨mg_none_of X T.g e,(T.builtins x hx).trans hb⟩
noncomputable def Jg(K:Frag)(a:Addr):Option (Array ag×Nat):=(K.lookup a).bind λ o=>yz o.data
noncomputable def JN(K:Frag)(a:Addr):Array ag×Nat:=(Jg K a).getD (#[],0)
noncomputable def tokOf(v:ag):Tok:=match FG v with
 |some p=>p.2
 |none=>match AL v with
  |some p=>p.2
  |none=>0
noncomputable def BU(K:Frag)(a i:Nat):Tok:=tokOf ((JN K a).1.getD i .none)
noncomputable def dB(K:Frag)(T:Addr)(vs:List ag):Bool:=(Jg K T).any λ p=>decide (p.1.toList=vs)
theorem lg{c:Cx}{T:Addr}{vs:List ag}(h:dB c.K T vs=true):sT c T vs:=by
 obtain⟨p,e,h⟩:=vL h;obtain⟨o,e,e2⟩:=cL.mp e;cases of_decide_eq_true h;exact⟨o,p.2,e,tU e2⟩
noncomputable def I8(o:Option Obj):Bool:=(o.bind λ o=>yz o.data).any (λ p=>decide (p.1.toList=[.bool true,.bool false]))&&decide (o.map (·.cls)=some (.type "tuple"))
theorem Kr{c:Cx}{a:Addr}(h:I8 (c.K.lookup a)=true):∀O s,Ok c O s→bh c.w O s.heap (.ref a) (.tup [.bool true,.bool false]):= λ O s K=>by
 obtain⟨h1,h2⟩:=aL.mp h;obtain⟨⟨⟨vs⟩,n⟩,h1,h3⟩:=vL h1;cases of_decide_eq_true h3;obtain⟨o,e,h1⟩:=cL.mp h1;have h2:=of_decide_eq_true h2;rw[e]at h2;have hl:=K.br.ok.KQ _ _ e;exact⟨a,[.bool true,.bool false],rfl,λ hm=>ak _ (ab hl (K.low a hm)),⟨o,K.br.fY _ _ e,cF h2,n,tU h1⟩,by exact⟨cO,cO,trivial⟩⟩
noncomputable def B6(xs:List Str)(o:Option Obj):Bool:=(o.bind λ o=>yz o.data).any (λ p=>p.1.toList.map (λ v=>(AL v).map (·.1))==xs.map some)&&decide (o.map (λ o=>(o.cls,o.dict))=some (.type "list",none))
theorem EK{w:a0}{O:List Addr}{h:Heap}{vs:List ag}{xs:List Str}(e:vs.map (λ v=>(AL v).map (·.1))=xs.map some):a7 w O h vs (yt xs):=by
 induction xs generalizing vs with
 |nil=>cases vs with|nil=>trivial|cons=>cases e
 |cons y ys ih=>
  cases vs with
  |nil=>cases e
  |cons v vs=>
   refine cW (dY.mp (vR e).1) λ p e3 e4=>⟨?_,ih (vR e).2⟩;rw[xb e3,e4];exact qr
theorem E5{c:Cx}{a:Addr}{xs:List Str}(h:B6 xs (c.K.lookup a)=true):∀O s,Ok c O s→bh c.w O s.heap (.ref a) (.lst (yt xs)):= λ O s K=>by
 obtain⟨h1,h2⟩:=aL.mp h;obtain⟨⟨⟨vs⟩,n⟩,h1,h3⟩:=vL h1;obtain⟨o,e,h1⟩:=cL.mp h1;have h2:=of_decide_eq_true h2;rw[e]at h2;obtain⟨h4,h5⟩:=BF (cF h2);have hl:=K.br.ok.KQ _ _ e;exact⟨a,vs,rfl,λ hm=>ak _ (ab hl (K.low a hm)),⟨o,n,K.br.fY _ _ e,h4,h5,tU h1⟩,EK (eq_of_beq h3)⟩
noncomputable def refOf:Option (Option ag)→Addr
 |some (some (.ref a))=>a
 |_=>0
theorem HW{c:Cx}{s s':ae}(S:bF c s)(g:aB c [] [] s s'):OldK s.heap s'.heap:=by
 refine⟨λ b o e=>?_,λ b o e=>?_⟩
 ·cases ht:qB o with
  |false=>exact .inl (g.keep b o (by simp) e ht)
  |true=>
   rcases g.tab b o e ht with h|⟨⟨p,hp,rfl⟩,vs,more,rfl,h⟩
   ·exact .inl h
   ·obtain⟨ps,_,h2⟩:=S.tab p hp;exact .inr (.inl ⟨h2.isCodeTable,rfl,vs,more,rfl,h⟩)
 ·cases ht:qB o with
  |false=>exact⟨o,g.keep b o (by simp) e ht⟩
  |true=>
   rcases g.tab b o e ht with h|⟨_,vs,more,rfl,h⟩
   ·exact⟨_,h⟩
   ·exact⟨_,h⟩
noncomputable def bl(K N:Frag)(T:List (Addr×Addr)):List Bool:=[makesIn N 189,decide (findIn N (.ref 189) "__init__"=some (some (.ref 60))),decide (typeIn N (.ref 60)=some (.type "function")),codeAt N T (pk N 60),dB N 53 [.int 0 (BU N 53 0),.int 1 (BU N 53 1)],decide (nsIn N mainGlobals "Fraction"=some (some (.ref 189))),decide (nsIn N mainGlobals "isinstance"=some none),decide (nsIn N mainGlobals "int"=some none),keepIn N (.ref 189),se N 189,decide (kitAny N (.type "int") [.type "int",.ref 189]=some true),decide (kitAny N (.ref 189) [.type "int",.ref 189]=some true),decide (kitOne N (.type "int") (.ref 189)=some false),decide (kitOne N (.ref 189) (.ref 189)=some true),decide (kitOne N (.ref 189) (.type "int")=some false),decide (kitOne N (.type "int") (.type "int")=some true),fg N 189 "numerator",fg N 189 "denominator",attrOk N 189 "numerator",attrOk N 189 "denominator",decide (nsIn N mainGlobals "NotImplemented"=some none),wg N 189 "int" "add" 102,qv N 189 (d7 "add") 102,wg N 189 "int" "mul" 130,qv N 189 (cmpInfo .Eq).2.1 158,qv N 189 (cmpInfo .Lt).2.1 165,qv N 189 (cmpInfo .LtE).2.1 172,codeAt N T (pk N 102),codeAt N T (pk N 130),codeAt N T (pk N 158),codeAt N T (pk N 165),codeAt N T (pk N 172),decide (nsIn N mainGlobals "set"=some none),decide (nsIn N mainGlobals "len"=some none),decide (nsIn N mainGlobals "all"=some none),decide (nsIn N mainGlobals "any"=some none),decide (nsIn N mainGlobals "sorted"=some none),decide (nsIn N mainGlobals "str"=some none),decide (nsIn N mainGlobals "range"=some none),decide (nsIn N mainGlobals "list"=some none),decide (nsIn N mainGlobals "sum"=some none),decide (nsIn N mainGlobals "min"=some none),decide (nsIn N mainGlobals "enumerate"=some none),decide (nsIn N mainGlobals "tuple"=some none),decide (nsIn N mainGlobals "abs"=some none),decide (nsIn N mainGlobals "reversed"=some none),codeAt N T (pk N 30),dB N 23 [((JN N 23).1.getD 0 .none),.none],decide (nsIn N mainGlobals "CandidateSet"=some (some (.ref 30))),keepIn N (.ref 30),codeAt N T (pk N 37),decide (nsIn N mainGlobals "sorted_committees"=some (some (.ref 37))),keepIn N (.ref 37),codeAt N T (pk N 45),dB N 38 [.none],decide (nsIn N mainGlobals "str_set_of_candidates"=some (some (.ref 45))),keepIn N (.ref 45),makesIn N 600,decide (findIn N (.ref 600) "__init__"=some (some (.ref 582))),decide (typeIn N (.ref 582)=some (.type "function")),codeAt N T (pk N 582),dB N 575 [.int 1 (BU N 575 0),.none],decide (nsIn N mainGlobals "Voter"=some (some (.ref 600))),keepIn N (.ref 600),fg N 600 "approved",fg N 600 "weight",attrOk N 600 "approved",attrOk N 600 "weight",se N 600,decide (kitOne N (.ref 600) (.ref 600)=some true),makesIn N 563,decide (findIn N (.ref 563) "__init__"=some (some (.ref 454))),decide (typeIn N (.ref 454)=some (.type "function")),codeAt N T (pk N 454),dB N 449 [.none],decide (nsIn N mainGlobals "Profile"=some (some (.ref 563))),keepIn N (.ref 563),fg N 563 "candidates",fg N 563 "cand_names",fg N 563 "_voters",attrOk N 563 "candidates",attrOk N 563 "_voters",xn N 563 "num_cand" (refOf (findIn N (.ref 563) "num_cand")) 461,codeAt N T (pk N 461),decide (findIn N (.ref 563) "__len__"=some (some (.ref 476))),isFn N (.ref 476),codeAt N T (pk N 476),jS N 563 "_unique_voter" 483,codeAt N T (pk N 483),jS N 563 "add_voter" 490,codeAt N T (pk N 490),decide (findIn N (.ref 563) "__iter__"=some (some (.ref 532))),isFn N (.ref 532),codeAt N T (pk N 532),makesIn N 343,decide (findIn N (.ref 343) "__init__"=some (some (.ref 325))),decide (typeIn N (.ref 325)=some (.type "function")),codeAt N T (pk N 325),decide (nsIn N mainGlobals "Rule"=some (some (.ref 343))),keepIn N (.ref 343),fg N 343 "rule_id",fg N 343 "shortname",fg N 343 "longname",fg N 343 "algorithms",fg N 343 "resolute_values",fg N 343 "available_algorithms",attrOk N 343 "algorithms",attrOk N 343 "resolute_values",attrOk N 343 "available_algorithms",zP N 343 "_RESOLUTE_VALUES_FOR_SEQUENTIAL_RULES" (.ref (refOf (findIn N (.ref 343) "_RESOLUTE_VALUES_FOR_SEQUENTIAL_RULES"))),I8 (N.lookup (refOf (findIn N (.ref 343) "_RESOLUTE_VALUES_FOR_SEQUENTIAL_RULES"))),decide (nsIn N mainGlobals "available_algorithms"=some (some (.ref (refOf (nsIn N mainGlobals "available_algorithms"))))),B6 ["branch-and-bound","brute-force","standard","standard-fractions"] (N.lookup (refOf (nsIn N mainGlobals "available_algorithms"))),jS N 343 "verify_compute_parameters" 340,codeAt N T (pk N 340),dB N 333 [.none],codeAt N T (pk N 200),decide (nsIn N mainGlobals "total"=some (some (.ref 200))),keepIn N (.ref 200),codeAt N T (pk N 441),decide (nsIn N mainGlobals "division"=some (some (.ref 441))),keepIn N (.ref 441),codeAt N T (pk N 428),dB N 423 [.none,.none],decide (nsIn N mainGlobals "_seqphragmen_resolute"=some (some (.ref 428))),keepIn N (.ref 428),codeAt N T (pk N 434),dB N 429 [.none,.none],decide (nsIn N mainGlobals "_seqphragmen_irresolute"=some (some (.ref 434))),keepIn N (.ref 434),codeAt N T (pk N 422),dB N 415 [.str "fastest" (BU N 415 0),.bool true,.none],decide (nsIn N mainGlobals "compute_seqphragmen"=some (some (.ref 422))),keepIn N (.ref 422),codeAt N T (pk N 621),codeAt N T (pk N 616),decide (nsIn N mainGlobals "_law_next"=some (some (.ref 616))),keepIn N (.ref 616),codeAt N T (pk N 611),decide (nsIn N mainGlobals "_law_made"=some (some (.ref 611))),keepIn N (.ref 611),Dm 0 K,decide (nsIn K mainGlobals "__builtins__"=some (some (.ref 4))),decide (nsIn K mainGlobals "law"=some (some (.ref 621)))]
noncomputable def fl(N:Frag):List (Option FV):=[fv N 60,fv N 102,fv N 130,fv N 158,fv N 165,fv N 172,fv N 30,fv N 37,fv N 45,fv N 582,fv N 454,fv N 461,fv N 476,fv N 483,fv N 490,fv N 532,fv N 325,fv N 340,fv N 200,fv N 441,fv N 428,fv N 434,fv N 422,fv N 621,fv N 616,fv N 611]
noncomputable def fa:List (Option FV):=[m4.fa (.ref 53),GC.fa .none,GB.fa .none,JR.fa .none,JP.fa .none,JQ.fa .none,Ct.fa (.ref 23),uH.fa .none,GA.fa (.ref 38),mZ.fa (.ref 575),rO.fa (.ref 449),zN.fa .none,zM.fa .none,Gz.fa .none,Pr.fa .none,JO.fa .none,wJ.fa .none,xN.fa (.ref 333),pK.fa .none,rP.fa .none,DF.fa (.ref 423),IL.fa (.ref 429),Cs.fa (.ref 415),sR.fa .none,nk.fa .none,uI.fa .none]
theorem gd{l:List Bool}(h:l.all id=true){p:Prop}[Decidable p](i:Nat)(e:l[i]? =some (decide p)):p:=of_decide_eq_true (ga h i e)
theorem gf{α:Type}{l l':List α}(h:l=l'){a b:α}(i:Nat)(e:l[i]? =some a)(e':l'[i]? =some b):a=b:=by
 subst h;rw[e]at e';exact cF e'
structure JX(K:Frag):Prop where
 b:(bl K (jI K) (tP K)).all id=true
 f:fl (jI K)=fa
section
variable {pr:Program}{w:a0}{K:Frag}{q:Program}{loose:List Str}{vD:ExcName→Option ag}{mg mb:Str→Option ag}{ob:Obj}{B:Nat}{h:Heap}
theorem LP(T:Top q loose vD mg mb h)(X:(jI K).In h)(H:(bl K (jI K) (tP K)).all id=true)(F:fl (jI K)=fa):All (GD pr w K mg mb ob B):=⟨{Uh:=(ga H 94 rfl),Un:=(gd H 95 rfl),ty:=(gd H 96 rfl),Pc:=dz (gf F 16 rfl rfl) (ga H 97 rfl) rfl rfl,gR:=gU T X (gd H 98 rfl),kR:=(ga H 99 rfl),p1:=(ga H 100 rfl),p2:=(ga H 101 rfl),p3:=(ga H 102 rfl),p4:=(ga H 103 rfl),p5:=(ga H 104 rfl),p6:=(ga H 105 rfl),a1:=(ga H 106 rfl),a2:=(ga H 107 rfl),a3:=(ga H 108 rfl),cl:=⟨_,(ga H 109 rfl),Kr (ga H 110 rfl)⟩,ga:=⟨_,gU T X (gd H 111 rfl),E5 (ga H 112 rfl)⟩,mv:=(ga H 113 rfl),Pb:=dz (gf F 17 rfl rfl) (ga H 114 rfl) rfl rfl,Pw:=lg (ga H 115 rfl)},{Pd:=dz (gf F 18 rfl rfl) (ga H 116 rfl) rfl rfl,gT:=gU T X (gd H 117 rfl),kT:=(ga H 118 rfl),O9:=dz (gf F 19 rfl rfl) (ga H 119 rfl) rfl rfl,gD:=gU T X (gd H 120 rfl),kD:=(ga H 121 rfl),Pa:=dz (gf F 20 rfl rfl) (ga H 122 rfl) rfl rfl,Pu:=lg (ga H 123 rfl),gR:=gU T X (gd H 124 rfl),kR:=(ga H 125 rfl),O_:=dz (gf F 21 rfl rfl) (ga H 126 rfl) rfl rfl,Pt:=lg (ga H 127 rfl),gI:=gU T X (gd H 128 rfl),kI:=(ga H 129 rfl),IG:=dz (gf F 22 rfl rfl) (ga H 130 rfl) rfl rfl,IM:=⟨_,lg (ga H 131 rfl)⟩,gC:=gU T X (gd H 132 rfl),kC:=(ga H 133 rfl)},{Fm:=(ga H 57 rfl),FK:=(gd H 58 rfl),EA:=(gd H 59 rfl),Lx:=dz (gf F 9 rfl rfl) (ga H 60 rfl) rfl rfl,LD:=⟨_,lg (ga H 61 rfl)⟩,gV:=gU T X (gd H 62 rfl),kV:=(ga H 63 rfl),MY:=(ga H 64 rfl),MW:=(ga H 65 rfl),LM:=(ga H 66 rfl),PH:=(ga H 67 rfl),M5:=(ga H 68 rfl),Ul:=(gd H 69 rfl),Jo:=(ga H 70 rfl),Jw:=(gd H 71 rfl),I7:=(gd H 72 rfl),O8:=dz (gf F 10 rfl rfl) (ga H 73 rfl) rfl rfl,Ps:=lg (ga H 74 rfl),gP:=gU T X (gd H 75 rfl),kP:=(ga H 76 rfl),MX:=(ga H 77 rfl),putN:=(ga H 78 rfl),Jk:=(ga H 79 rfl),Cv:=(ga H 80 rfl),GN:=(ga H 81 rfl),E7:=⟨_,(ga H 82 rfl)⟩,O7:=dz (gf F 11 rfl rfl) (ga H 83 rfl) rfl rfl,Nl:=(gd H 84 rfl),Nm:=(ga H 85 rfl),O6:=dz (gf F 12 rfl rfl) (ga H 86 rfl) rfl rfl,Jp:=(ga H 87 rfl),O5:=dz (gf F 13 rfl rfl) (ga H 88 rfl) rfl rfl,Ni:=(ga H 89 rfl),O4:=dz (gf F 14 rfl rfl) (ga H 90 rfl) rfl rfl,RC:=(gd H 91 rfl),RE:=(ga H 92 rfl),Ly:=dz (gf F 15 rfl rfl) (ga H 93 rfl) rfl rfl},{make:=(ga H 0 rfl),xC:=(gd H 1 rfl),Ht:=(gd H 2 rfl),QJ:=dz (gf F 0 rfl rfl) (ga H 3 rfl) rfl rfl,QK:=⟨_,_,lg (ga H 4 rfl)⟩,sP:=gU T X (gd H 5 rfl),lI:=gB T X (gd H 6 rfl) (by decide) (by kernel_rfl),xI:=gB T X (gd H 7 rfl) (by decide) (by kernel_rfl),keep:=(ga H 8 rfl),own:=(ga H 9 rfl),L7:=(gd H 10 rfl),Um:=(gd H 11 rfl),Jt:=(gd H 12 rfl),Ju:=(gd H 13 rfl),Nx:=(gd H 14 rfl),KV:=(gd H 15 rfl),putN:=(ga H 16 rfl),putD:=(ga H 17 rfl),Ej:=(ga H 18 rfl),Bv:=(ga H 19 rfl),XZ:=gB T X (gd H 20 rfl) (by decide) (by kernel_rfl),rR:=(ga H 21 rfl),PV:=(ga H 22 rfl),nB:=(ga H 23 rfl),Vm:=(ga H 24 rfl),Ui:=(ga H 25 rfl),Uj:=(ga H 26 rfl),Lz:=dz (gf F 1 rfl rfl) (ga H 27 rfl) rfl rfl,Ph:=dz (gf F 2 rfl rfl) (ga H 28 rfl) rfl rfl,Pg:=dz (gf F 3 rfl rfl) (ga H 29 rfl) rfl rfl,Pf:=dz (gf F 4 rfl rfl) (ga H 30 rfl) rfl rfl,Pe:=dz (gf F 5 rfl rfl) (ga H 31 rfl) rfl rfl},{To:=dz (gf F 6 rfl rfl) (ga H 46 rfl) rfl rfl,TI:=⟨_,lg (ga H 47 rfl)⟩,gC:=gU T X (gd H 48 rfl),kC:=(ga H 49 rfl),Vk:=dz (gf F 7 rfl rfl) (ga H 50 rfl) rfl rfl,gS:=gU T X (gd H 51 rfl),kS:=(ga H 52 rfl),Vj:=dz (gf F 8 rfl rfl) (ga H 53 rfl) rfl rfl,Vt:=lg (ga H 54 rfl),OW:=gU T X (gd H 55 rfl),Ry:=(ga H 56 rfl)},{set:=gB T X (gd H 32 rfl) (by decide) (by kernel_rfl),len:=gB T X (gd H 33 rfl) (by decide) (by kernel_rfl),RF:=gB T X (gd H 6 rfl) (by decide) (by kernel_rfl),int:=gB T X (gd H 7 rfl) (by decide) (by kernel_rfl),all:=gB T X (gd H 34 rfl) (by decide) (by kernel_rfl),any:=gB T X (gd H 35 rfl) (by decide) (by kernel_rfl),sorted:=gB T X (gd H 36 rfl) (by decide) (by kernel_rfl),str:=gB T X (gd H 37 rfl) (by decide) (by kernel_rfl),range:=gB T X (gd H 38 rfl) (by decide) (by kernel_rfl),list:=gB T X (gd H 39 rfl) (by decide) (by kernel_rfl),sum:=gB T X (gd H 40 rfl) (by decide) (by kernel_rfl),min:=gB T X (gd H 41 rfl) (by decide) (by kernel_rfl),enum:=gB T X (gd H 42 rfl) (by decide) (by kernel_rfl),tuple:=gB T X (gd H 43 rfl) (by decide) (by kernel_rfl),abs:=gB T X (gd H 44 rfl) (by decide) (by kernel_rfl),rev:=gB T X (gd H 45 rfl) (by decide) (by kernel_rfl),KV:=(gd H 15 rfl)}⟩
theorem KS(T:Top q loose vD mg mb h)(X:(jI K).In h)(H:(bl K (jI K) (tP K)).all id=true)(F:fl (jI K)=fa):PY (GD pr w K mg mb ob B):={O1:=dz (gf F 23 rfl rfl) (ga H 134 rfl) rfl rfl,O2:=dz (gf F 24 rfl rfl) (ga H 135 rfl) rfl rfl,gN:=gU T X (gd H 136 rfl),kN:=(ga H 137 rfl),O3:=dz (gf F 25 rfl rfl) (ga H 138 rfl) rfl rfl,gM:=gU T X (gd H 139 rfl),kM:=(ga H 140 rfl)}
end
theorem close{pr:Program}{w:a0}{K:Frag}{q:Program}{loose:List Str}{vD:ExcName→Option ag}{mg mb:Str→Option ag}{s:ae}{a:Nat}{vs:List ag}{xs:List Int}(T:Top q loose vD mg mb s.heap)(X:K.In s.heap)(Z:JX K)(hg:s.gens= #[])(hL:s.heap.get? a=some {cls:=.type "list",data:=.seq vs.toArray})(hI:fb vs xs)(hx:xs.length≤63):
  mg "law"=some (.ref 621)∧wpAny (model pr w) callerA (call (.ref 621) [.ref a]) (λ v s'=>v=.bool true∧OldK s.heap s'.heap∧s'.os=s.os∧AllBare s'.gens) aZ s:=by
 obtain⟨H,F⟩:=Z;have h1:Dm 0 K=true:=ga H 141 rfl;have X':(jI K).In s.heap:= λ a o e=>X a o (t9 h1 e).1;obtain⟨ob,S⟩:=Kf (pr:=pr) (w:=w) T X hg h1 (gd H 142 rfl);have hf:=Fy (n:=0) (LP (pr:=pr) (w:=w) (ob:=ob) (B:=s.heap.objs.size) T X' H F) (KS T X' H F) hx;refine⟨mg_of X T.g (gd H 143 rfl),wm (hf callerA [] s [.ref a] [] ⟨rfl,by decide,by decide⟩ ⟨S,λ z=>nn,λ z=>nn⟩ ?_ ?_) λ v s' q=>?_⟩
 ·refine⟨?_,trivial⟩;exact⟨a,vs,rfl,by simp,⟨_,0,hL,rfl,rfl,rfl⟩,uR hI⟩
 ·trivial
 ·obtain⟨g,S',r⟩:=q;exact⟨r,HW S g,g.os,S'.bare⟩
noncomputable def fragOf:List Obj→Nat→Frag
 |[],_=>[]
 |o::l,i=>(alive o).elim (fragOf l (i+1)) λ o=>(i,o)::fragOf l (i+1)
theorem Dz{l:List Obj}{i a:Nat}{o:Obj}(h:(fragOf l i).lookup a=some o):∃k,a=i+k∧(l[k]?).bind alive=some o:=by
 induction l generalizing i with
 |nil=>cases h
 |cons p l ih=>
  have go:(fragOf l (i+1)).lookup a=some o→∃k,a=i+k∧((p::l)[k]?).bind alive=some o:= λ h=>cW (ih h) λ k e hk=>⟨k+1,by rw[e,dq,eN],hk⟩;have h:pV a ((alive p).elim (fragOf l (i+1)) λ o=>(i,o)::fragOf l (i+1))=some o:=h;cases e:alive p with
  |none=>rw[e]at h;exact go h
  |some p'=>
   rw[e]at h;have h:=(aX ..).symm.trans h;cases he:a==i with
   |true=>rw[he]at h;exact⟨0,eq_of_beq he,e.trans h⟩
   |false=>rw[he]at h;exact go h
theorem ID(h:Heap):(fragOf h.objs.toList 0).In h:= λ a o e=>by
 obtain⟨k,rfl,hk⟩:=Dz e;rw[gO];delta Heap.get?;rw[kH]at hk;cases hh:h.objs[k]? with
 |none=>rw[hh]at hk;cases hk
 |some o'=>
  rw[hh]at hk;obtain⟨c,d,dt,sl⟩:=o';cases dt<;>first|exact hk|exact nn hk
end
set_option tactic.hygienic true
set_option maxHeartbeats 0
def pq:Program:=PySem.Challenge.rw_jg0005_01.row.prog
def lq:List Str:=["CandidateSet","str_set_of_candidates","get_marginal_scorefct","Rule","available_algorithms","compute_seqphragmen","_seqphragmen_resolute","_seqphragmen_irresolute","Profile"]
def vq:Program:=view pq [0,3,5,6,8,9,11,12,13,14,15,16,17,19,20,21,22,23,24,28,30,31,33,34,35]
def oz(tb:String→Option Builtin)(p:Program)(w:a0)(rq:Nat)(ann:Option ag)(n:Nat):SharedT→DO→Option SharedT:=
 Nat.rec (motive:= λ z=>SharedT→DO→Option SharedT) (λ z z=>none) (λ z ih s t=>match through t with
  |true=>some s
  |false=>match stepOk rq ann t with
   |false=>none
   |true=>match stepT (denote tb) p w s t with
    |some (s',t')=>ih s' t'
    |none=>none) n
theorem tL{tb:String→Option Builtin}{p:Program}{w:a0}{rq:Nat}{ann:Option ag}:∀{n:Nat} {s s':SharedT} {t:DO},oz tb p w rq ann n s t=some s'→topRun tb p w rq ann n s.abs t=some s'.abs
 |0,_,_,_,h=>nomatch h
 |n+1,s,s',t,h=>by
  change (match through t with
  |true=>some s
  |false=>match stepOk rq ann t with
   |false=>none
   |true=>match stepT (denote tb) p w s t with
    |some (s',t')=>oz tb p w rq ann n s' t'
    |none=>none)=some s' at h
  unfold topRun
  split at h
  ·rename_i e;rw[e];cases h;rfl
  ·rename_i e;rw[e]
   split at h
   ·cases h
   ·rename_i e;rw[e]
    split at h
    ·rename_i e;rw[stepT_spec e];exact tL h
    ·cases h
def treeOf:List Obj→Nat→BT→BT
 |[],_,t=>t
 |o::l,n,t=>treeOf l (n+1) (t.ins n o)
noncomputable def obs(s:ae):Bool×List (Option FV):=let K:=fragOf s.heap.objs.toList 0; ((bl K (jI K) (tP K)).all id,fl (jI K))
noncomputable def Gu(H:Heap)(s:ae):=
 match staticsOk (importedModules pq.main.body) H s.heap&&namesBound pq s.heap&&gensDone s&&laidKept H s.heap with
 |true=>some (openSeen vq lq (importedModules pq.main.body) (λ s=>xlAt vq [] s&&recOk [] s) true s)
 |false=>none
noncomputable abbrev MN(w:a0)(os:oJ):SharedT:=⟨treeOf (kB w.params).objs.toList 0 .nil,11,(kB w.params).life,#[],boot_drawn,boot_toks,os⟩
noncomputable def mR(p:Program)(w:a0)(rq:Nat)(ann:Option ag)(n:Nat):SharedT→DO→Option SharedT:=
 Nat.rec (motive:= λ z=>SharedT→DO→Option SharedT) (λ z z=>none) (λ z ih s t=>match through t with
  |true=>some s
  |false=>match PySem.W.Fast.tw6613529449190102663 rq ann t with
   |false=>none
   |true=>match PySem.W.Fast.tw10156331382660048174 (PySem.W.Fast.tw11892475500146522536 PySem.W.Fast.tw14364793385576792824) p w s t with
    |some (s',t')=>ih s' t'
    |none=>none) n
theorem tK:oz treeTable=mR:=by
 funext p w rq ann n
 unfold oz mR;rw[PySem.W.Fast.te14364793385576792824,PySem.W.Fast.te6613529449190102663,PySem.W.Fast.te10156331382660048174,PySem.W.Fast.te11892475500146522536]
noncomputable def DD(H:Heap)(s:ae):=
 match staticsOk (importedModules pq.main.body) H s.heap&&namesBound pq s.heap&&gensDone s&&laidKept H s.heap with
 |true=>some (PySem.W.Fast.tw4187177175401517315 vq lq (importedModules pq.main.body) (λ s=>xlAt vq [] s&&recOk [] s) true s)
 |false=>none
theorem IH:Gu=DD:=by
 funext H s
 unfold Gu DD;rw[PySem.W.Fast.te4187177175401517315]
noncomputable def one{α:Type}(f:Program→a0→Nat→Option ag→Nat→SharedT→DO→Option SharedT)(e:Heap→ae→α)(w:a0)(os:oJ):Option α:=
 (f pq w 11 ((kB w.params).nsMap mainGlobals "__annotations__") 8252 (MN w os) (topStub pq)).map λ t=>e (kB w.params) t.abs
theorem yQ{α β:Type}{f:Program→a0→Nat→Option ag→Nat→SharedT→DO→Option SharedT}{e:Heap→ae→α}{e':Heap→ae→β}{w:a0}{os:oJ}{a:α}{b:β}(h:one f (λ h s=>(e h s,e' h s)) w os=some (a,b)):one f e w os=some a∧one f e' w os=some b:=by
 unfold one at h⊢;refine cW (dY.mp h) λ t ht q=>?_;rw[ht];exact⟨congrArg (λ p:α×β=>some p.1) q,congrArg (λ p:α×β=>some p.2) q⟩
theorem Jh(w:a0)(os:oJ):one mR (λ h s=>(DD h s,obs s)) w os=some (some (openGood vq lq),(true,fa)):=by kernel_rfl
theorem MT(w:a0)(os:oJ):one mR DD w os=some (some (openGood vq lq)):=(yQ (e:=DD) (e':= λ z=>obs) (Jh w os)).1
theorem Ra(w:a0)(os:oJ):one mR (λ z=>obs) w os=some (true,fa):=(yQ (e:=DD) (e':= λ z=>obs) (Jh w os)).2
theorem Fb{α:Type}{e:Heap→ae→α}{w:a0}{os:oJ}{v:α}(h:one mR e w os=some v){t:SharedT}(ht:oz treeTable pq w 11 ((kB w.params).nsMap mainGlobals "__annotations__") 8252 (MN w os) (topStub pq)=some t):e (kB w.params) t.abs=v:=by
 rw[← tK]at h;unfold one at h;rw[ht]at h;exact cF h
theorem Fa{α:Type}{e:Heap→ae→α}{w:a0}{os:oJ}{v:α}(h:one mR e w os=some v):
  ∃t,oz treeTable pq w 11 ((kB w.params).nsMap mainGlobals "__annotations__") 8252 (MN w os) (topStub pq)=some t:=by
 rw[← tK]at h;unfold one at h;obtain⟨t,ht,_⟩:=dY.mp h;exact⟨t,ht⟩
theorem HI(w:a0)(os:oJ):∃t:SharedT,topRun treeTable pq w 11 ((kB w.params).nsMap mainGlobals "__annotations__") 8252 (MN w os).abs (topStub pq)=some t.abs∧Gu (kB w.params) t.abs=some (openGood vq lq)∧obs t.abs=(true,fa):=by
 obtain⟨t,ht⟩:=Fa (MT w os);exact⟨t,tL ht,IH▸Fb (MT w os) ht,Fb (Ra w os) ht⟩
theorem HD(w:a0)(os:oJ):(MN w os).abs=⟨kB w.params,#[],boot_drawn,boot_toks,os⟩:=by kernel_rfl
theorem HV{tb:String→Option Builtin}{p:Program}{w:a0}{N rq:Nat}{ann:Option ag}{s₀ au:ae}(h0:fencedOpening tb p w N=some s₀)(hn:(s₀.heap.isNs mainGlobals&&s₀.gens.size==0)=true)(hs:s₀.heap.objs.size=rq)(ha:s₀.heap.nsMap mainGlobals "__annotations__"=ann)(hr:topRun tb p w rq ann N s₀ (topStub p)=some au)(hk:(staticsOk (importedModules p.main.body) s₀.heap au.heap&&namesBound p au.heap&&gensDone au&&laidKept s₀.heap au.heap)=true):openEnds tb p w N=some au:=by
 unfold openEnds;rw[h0,nt];unfold topFrom;rw[hn,hs,ha];simp only[hr,nt,hk]
theorem IS{p:Program}{w:a0}{N:Nat}{H:Heap}{d k}(e:(fencedOpening treeTable p w N).map (λ s=>(s.heap,s.gens,s.drawn,s.toks))=some (H,Array.mk [],d,k)):∃os,fencedOpening treeTable p w N=some ⟨H,#[],d,k,os⟩:=by
 obtain⟨s₀,h0,e0⟩:=dY.mp e;obtain⟨heap,gens,drawn,toks,os⟩:=s₀;simp only[x3]at e0;obtain⟨rfl,rfl,rfl,rfl⟩:=e0;exact⟨os,h0⟩
theorem II{H:Heap}{s:ae}(e:Gu H s=some (openGood vq lq)):(staticsOk (importedModules pq.main.body) H s.heap&&namesBound pq s.heap&&gensDone s&&laidKept H s.heap)=true∧openSeen vq lq (importedModules pq.main.body) (λ s=>xlAt vq [] s&&recOk [] s) true s=openGood vq lq:=by
 unfold Gu at e
 split at e
 ·rename_i hk;exact⟨hk,cF e⟩
 ·cases e
theorem left:LeftO pq vq lq (λ s=>xlAt vq [] s&&recOk [] s) obs (λ z=>(true,fa)) 8252:= λ w=>by
 obtain⟨os,h0⟩:=IS (boot_open (p:=pq) (N:=8252) (by kernel_rfl) (by kernel_rfl) (λ s=>by kernel_rfl) w);obtain⟨t,hr,ea,eb⟩:=HI w os;rw[HD]at hr;obtain⟨hk,es⟩:=II ea;rw[HV h0 (by kernel_rfl) (by kernel_rfl) rfl hr hk];exact congrArg some (Prod.ext es eb)
theorem CL{P:Params}{h:Heap}{a:Addr}{xs:List WData}(W:Well P h (.ref a) (.list xs)):∃vs:List ag,h.get? a=some {cls:=.type "list",data:=.seq vs.toArray}:=by
 cases W with
 |list e _=>exact⟨_,e⟩
def YQ(_:a0)(h:Heap):Prop:=∃K:Frag,K.In h∧JX K
abbrev lw:OpenLaw:=PySem.Challenge.rw_jg0005_01
theorem VP:namesResolve lw.row.prog=true:=by kernel_rfl
theorem VO:noRoadLSs {strict:= !(importedModules lw.row.prog.main.body).all cThrough.contains,foot:=none,bare:=(["vars","dir","locals"]:List Str).filter (readsOut lw.row.prog lw.row.prog.main.body)} lw.row.prog.main.body=true:=by kernel_rfl
theorem VN:namesMeet lw.row.prog lw.row.prog.main.body (λ z n=>attrL n)=true:=by kernel_rfl
theorem HG(l:OpenLaw)(e:lw=l):l.wellSaid=true:=by
 unfold OpenLaw.wellSaid OpenRow.wellSaid OpenRow.partSaid looksOpen
 repeat' with_reducible refine look_both ?_ ?_
 rotate_left 2
 subst e;exact VP
 rotate_left
 subst e;exact VO;subst e;exact VN
 all_goals subst e
 all_goals kernel_rfl
theorem Q6:PySem.Challenge.rw_jg0005_01.wellSaid=true:=HG _ rfl
end Mine
set_option tactic.hygienic true
open Mine
theorem PySem.Challenge.cw_jg0005_01_holds : PySem.Challenge.rw_jg0005_01.Holds := by
 refine holds_law Q6 λ s2=>?_;refine holds_open (q:=vq) (loose:=lq) (XP:=XL vq []) (YP:=YQ) left (λ w s e=>⟨_,ID s.heap,(Prod.mk.inj e).1,(Prod.mk.inj e).2⟩) (λ w h h' ⟨K,X,Z⟩ k=>⟨K,λ a o e=>k _ _ (X a o e),Z⟩) (λ s e=>xl_of s (Bool.and_eq_true_iff.mp e).1) XL.keeps (by rfl) (by rfl) (by rfl) (λ s e=>recFacts_of (Bool.and_eq_true_iff.mp e).2) (by rfl) s2 (by decide +kernel) ⟨rfl,rfl,rfl,rfl,rfl,by decide +kernel⟩ ⟨[.list [.int 3,.int 1]],by decide +kernel,by decide +kernel⟩ ?_;intro w s₀ au mg mb G y fa o pm cd doc dV kV ho hd Dv hD UK hg args vals as Bg Sn WB FU Si;obtain⟨K,X,Z⟩:=y;refine Ground.open G ?_;intro T B D TE TW
 wrow_args Bg Sn WB FU Si
 have hm:mg "law"=some (.ref fa):=UK;clear UK hd ho Dv hD B D TE TW G;rename_i xs _ _ _ _ _ _ _ a vs _ hl _ hw _ hI _ hx _;obtain⟨o,h1,h2,n,h3⟩:=hl;have hL:au.heap.get? a=some {cls:=.type "list",data:=.seq vs.toArray}:=by
  obtain⟨us,h4⟩:=CL hw;rw[h1]at h4;cases h4;cases h3;exact h1
 obtain⟨e,k⟩:=close (pr:=rw_jg0005_01.row.prog) (w:=w) T X Z hg hL hI (by omega);rw[hm]at e;cases e;refine wpAny_mono k (λ v s' q=>?_) λ z z f=>f.elim;obtain⟨rfl,q⟩:=q;exact⟨.inl ⟨_,.bool true,[],rfl,λ z=>rfl,(by constructor),(by first|kernel_rfl|decide|wrow_post),λ z=>⟨List.nodup_nil,λ z h=>nomatch h⟩⟩,q⟩